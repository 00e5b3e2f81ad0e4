import PyProof.Rows.All
import PyProof.AttrMiss
import PyProof.PureStr
import KE.KBoundM
import KE.KDictSum
import KE.KNestM
import KE.KPairComp
import KE.KSortTup
import Wide.FinOn
import OpenK.AllK
import Wide.All
import Lean
import PySem.Challenge.RW_xb0034_03
set_option Elab.async false
set_option maxRecDepth 100000
set_option linter.all false
set_option genSizeOf false
set_option genInjectivity false
noncomputable section
namespace Mine
theorem bE{p:Prop}(h:false=true):p:=absurd h Bool.false_ne_true
theorem bj{x y:Bool}(h:(x&&y)=true):x=true∧y=true:=Bool.and_eq_true_iff.mp h
theorem dB{x y:Bool}(h:x=true∧y=true):(x&&y)=true:=Bool.and_eq_true_iff.mpr h
theorem nP{x y:Bool}(h:(x||y)=false):x=false∧y=false:=Bool.or_eq_false_iff.mp h
theorem bz{α:Type}{a b:α}{l:List α}(h:a∈b::l):a=b∨a∈l:=List.mem_cons.mp h
theorem c_{α:Type}{i:Nat}{a:α}{l:List α}(h:l[i]?=some a):∃h:i<l.length,l[i]=a:=List.getElem?_eq_some_iff.mp h
theorem cO{α:Type}{p:α→Bool}{l:List α}(h:l.all p=true):∀x,x∈l→p x=true:=List.all_eq_true.mp h
theorem eG{α β:Type}{b:α}{x:Option β}{f:β→α}(h:x.map f=some b):∃a,x=some a∧f a=b:=Option.map_eq_some_iff.mp h
theorem nQ{α β:Type}{b:α}{x:Option β}{f:β→Option α}(h:x.bind f=some b):∃a,x=some a∧f a=some b:=Option.bind_eq_some_iff.mp h
theorem jE{α:Type}{a b:List α}(h:(a++b).Nodup):a.Nodup∧b.Nodup∧∀x,x∈a→∀y,y∈b→x≠y:=List.nodup_append.mp h
theorem lE{α:Type}{a:α}{l:List α}(h:(a::l).Nodup):¬a∈l∧l.Nodup:=List.nodup_cons.mp h
theorem lF{α:Type}{x:Option α}(h:x.isSome=true):∃a,x=some a:=Option.isSome_iff_exists.mp h
theorem tJ{α β:Type}{b:β}{f:α→β}{l:List α}(h:b∈l.map f):∃a,a∈l∧f a=b:=List.mem_map.mp h
theorem yQ{α β:Type}{b:β}{f:α→β}{l:List α}(h:∃a,a∈l∧f a=b):b∈l.map f:=List.mem_map.mpr h
theorem tL{m n:Nat}(h:m∈List.range n):m<n:=List.mem_range.mp h
theorem wX{α:Type}{p:α→Bool}{l:List α}{x:α}(h:x∈l.filter p):x∈l∧p x=true:=List.mem_filter.mp h
theorem nR{α:Type}[BEq α][LawfulBEq α]{a b:α}(h:a≠b):(a==b)=false:=beq_eq_false_iff_ne.mpr h
inductive Ln where
|at(i:Nat)|lit(n:Nat)|add(a b:Ln)|mul(n:Nat)(a:Ln)|nS(n:Nat)(a:Ln)|Jq(a:Ln)
namespace Ln
noncomputable def F9:List Nat→Nat→Nat|[],aM=>0|a::aM,0=>a|aM::v,i+1=>F9 v i
def den(v:List Nat):Ln→Nat|.at i=>F9 v i|.lit n=>n|.add a b=>a.den v+b.den v|.mul n a=>n* a.den v|.nS n a=>a.den v* n|.Jq a=>(a.den v).succ
noncomputable def co(i:Nat):Ln→Nat|.at j=>bif Nat.beq i j then 1 else 0|.lit _=>0|.add a b=>a.co i+b.co i|.mul n a=>n* a.co i|.nS n a=>n* a.co i|.Jq a=>a.co i
noncomputable def c0:Ln→Nat|.at _=>0|.lit n=>n|.add a b=>a.c0+b.c0|.mul n a=>n* a.c0|.nS n a=>n* a.c0|.Jq a=>a.c0+1
noncomputable def dec(f c:Nat):Ln×Nat:=match f with
|0=>(.lit 0,c)|f+1=>
 bif Nat.ble (c %16) 7 then(.at (c %16),c/16)
 else bif Nat.beq (c %16) 8 then match dec f (c/16) with |(a,c)=>match dec f c with |(b,c)=>(.add a b,c)
 else bif Nat.beq (c %16) 9 then(.lit (c/16 %16),c/256)
 else bif Nat.beq (c %16) 10 then
  bif Nat.beq (c/16 %16) 0 then match dec f (c/1048576) with |(a,r)=>(.mul (c/256 %4096) a,r)
  else match dec f (c/256) with |(a,r)=>(.mul (c/16 %16) a,r)
 else bif Nat.beq (c %16) 11 then match dec f (c/256) with |(a,r)=>(.nS (c/16 %16) a,r)
 else bif Nat.beq (c %16) 12 then(.at (c/16 %16),c/256)
 else bif Nat.beq (c %16) 13 then match dec f (c/16) with |(a,r)=>(.Jq a,r)
 else bif Nat.beq (c %16) 14 then(.lit (c/16 %256),c/4096)
 else bif Nat.beq (c/16 %16) 0 then(.lit (c/65536 %16^(c/256 %256)),c/65536/16^(c/256 %256))
 else(.lit (c/256 %16^(c/16 %16)),c/256/16^(c/16 %16))
inductive Rk where
|le|lt|eq|qe|yH|yI|no
noncomputable def Rk.dec(n:Nat):Rk:=bif Nat.beq n 0 then .le else bif Nat.beq n 1 then .lt else bif Nat.beq n 2 then .eq else bif Nat.beq n 3 then .qe else bif Nat.beq n 4 then .yH else bif Nat.beq n 5 then .yI else .no
noncomputable def jF{α:Type}(p:Ln×Nat)(q:Nat→Ln×Nat)(m:Nat)(t:Rk)(k:Nat→Rk→Ln→Ln→Nat→α):α:=match p with |(a,r)=>match q r with |(b,r)=>k m t a b r
def Rk.den(v:List Nat)(k:Rk)(a b:Ln):Prop:=match k with |.le=>a.den v≤b.den v|.lt=>a.den v<b.den v|.eq=>a.den v=b.den v|.qe=>a.den v=b.den v|.yH=>¬a.den v≤b.den v|.yI=>¬a.den v<b.den v|.no=>False
def Dn(v:List Nat):Nat→Nat→Prop|0,c=>jF (dec 64 (c/256)) (dec 64) (c %16) (.dec (c/16 %16)) fun d k a b d=>k.den v a b|n+1,c=>jF (dec 64 (c/256)) (dec 64) (c %16) (.dec (c/16 %16)) fun d k a b c=>k.den v a b→Dn v n c
noncomputable def step(m e:Nat)(l r L R:Ln):Ln×Ln:=(.add (.mul m (.add l (.lit e))) L,.add (.mul m r) R)
noncomputable def Rk.add(t:Bool)(m:Nat)(k:Rk)(a b L R:Ln):Ln×Ln:=match k with |.le=>step m 0 a b L R|.lt=>step m 1 a b L R|.eq=>bif t then step m 0 a b L R else step m 0 b a L R|.qe=>bif t then step m 0 b a L R else step m 0 a b L R|.yH=>step m 1 b a L R|.yI=>step m 0 b a L R|.no=>(L,R)
noncomputable def OF(v:List Nat)(i:Nat)(L R:Ln):Bool:=match v with |[]=>true|_::v=>Nat.ble (R.co i) (L.co i)&&OF v (i+1) L R
def fin(v:List Nat)(p:Ln×Ln):Bool:=Nat.blt p.2.c0 p.1.c0&&OF v 0 p.1 p.2
def Rk.goal(v:List Nat)(m:Nat)(k:Rk)(a b:Ln)(P Q:Ln×Ln):Bool:=match k with |.le=>fin v (step m 1 b a P.1 P.2)|.lt=>fin v (step m 0 b a P.1 P.2)|.eq=>fin v (step (m %4) 1 b a P.1 P.2)&&fin v (step (m/4) 1 a b Q.1 Q.2)|.yH=>fin v (step m 0 a b P.1 P.2)|.yI=>fin v (step m 1 a b P.1 P.2)|_=>fin v P
noncomputable def cL(v:List Nat)(q:Bool):Nat→Nat→Ln×Ln→Ln×Ln→Bool|0,c,P,Q=>jF (dec 64 (c/256)) (dec 64) (c %16) (.dec (c/16 %16)) fun m k a b d=>k.goal v m a b P Q|n+1,c,P,Q=>jF (dec 64 (c/256)) (dec 64) (c %16) (.dec (c/16 %16)) fun m k a b c=>cL v q n c (k.add true (bif q then m %4 else m) a b P.1 P.2) (k.add false (m/4) a b Q.1 Q.2)
noncomputable def dot(v:List Nat)(f:Nat→Nat):Nat:=match v with |[]=>0|a::v=>f 0* a+dot v fun i=>f (i+1)
theorem Cd(v:List Nat)(f g:Nat→Nat):dot v (fun i=>f i+g i)=dot v f+dot v g:=by
 induction v generalizing f g with |nil=>rfl|cons a v ih=>exact(congr (congrArg HAdd.hAdd (Nat.add_mul ..)) (ih ..)).trans (Nat.add_add_add_comm ..)
theorem vh(v:List Nat)(n:Nat)(f:Nat→Nat):dot v (fun i=>n* f i)=n* dot v f:=by
 induction v generalizing f with |nil=>rfl|cons a v ih=>exact(congr (congrArg HAdd.hAdd (Nat.mul_assoc ..)) (ih ..)).trans (Nat.mul_add ..).symm
theorem qM(v:List Nat):dot v (fun b=>0)=0:=by
 induction v with |nil=>rfl|cons a v ih=>exact(congr (congrArg HAdd.hAdd (Nat.zero_mul a)) ih).trans rfl
theorem F_(v:List Nat)(j:Nat):dot v (fun i=>bif Nat.beq i j then 1 else 0)=F9 v j:=by
 induction v generalizing j with |nil=>rfl|cons a v ih=>cases j with |zero=>exact(congr (congrArg HAdd.hAdd (Nat.one_mul a)) (qM v)).trans (Nat.add_zero a)|succ j=>exact(congr (congrArg HAdd.hAdd (Nat.zero_mul a)) (ih j)).trans (Nat.zero_add _)
theorem sum(v:List Nat)(t:Ln):t.den v=t.c0+dot v fun i=>t.co i:=by
 induction t with |«at»j=>exact(F_ v j).symm.trans (Nat.zero_add _).symm|lit n=>exact(congrArg (n+·) (qM v)).symm|add a b ha hb=>exact(congr (congrArg HAdd.hAdd ha) hb).trans ((Nat.add_add_add_comm ..).trans (congrArg _ (Cd ..).symm))|mul n a h=>exact(congrArg (n* ·) h).trans ((Nat.mul_add ..).trans (congrArg _ (vh ..).symm))|nS n a h=>exact(Nat.mul_comm ..).trans ((congrArg (n* ·) h).trans ((Nat.mul_add ..).trans (congrArg _ (vh ..).symm)))|Jq a h=>exact(congrArg Nat.succ h).trans (Nat.succ_add ..).symm
theorem Ga(v:List Nat)(L R:Ln)(i:Nat)(h:OF v i L R=true):dot v (fun j=>R.co (j+i))≤dot v (fun j=>L.co (j+i)):=by
 induction v generalizing i with
 |nil=>exact Nat.le_refl _|cons a v ih=>
  obtain⟨h1,h2⟩:=bj h;refine Nat.add_le_add (Nat.mul_le_mul (by show R.co (0+i)≤L.co (0+i);rw[Nat.zero_add];exact Nat.le_of_ble_eq_true h1) (Nat.le_refl _)) ?_;have :=ih _ h2
  simp only[Nat.add_assoc,Nat.add_comm 1 i];exact this
theorem cf{v:List Nat}{p:Ln×Ln}(h:fin v p=true)(q:p.1.den v≤p.2.den v):False:=by
 obtain⟨h1,h2⟩:=bj h;have h1:=Nat.le_of_ble_eq_true h1
 have :=Ga v p.1 p.2 0 h2;rw[Ln.sum,Ln.sum] at q;exact absurd (Nat.lt_of_lt_of_le (Nat.add_lt_add_of_lt_of_le h1 this) q) (Nat.lt_irrefl _)
theorem aN{v:List Nat}{m e:Nat}{l r L R:Ln}(h:l.den v+e≤r.den v)(q:L.den v≤R.den v):(step m e l r L R).1.den v≤(step m e l r L R).2.den v:=Nat.add_le_add (Nat.mul_le_mul_left m h) q
theorem Rk.yR{v:List Nat}{t:Bool}{m:Nat}{k:Rk}{a b L R:Ln}(h:k.den v a b)(q:L.den v≤R.den v):(k.add t m a b L R).1.den v≤(k.add t m a b L R).2.den v:=by
 cases k with
 |le=>exact aN h q|lt=>exact aN h q|yH=>exact aN (Nat.lt_of_not_le h) q|yI=>exact aN (Nat.le_of_not_lt h) q|no=>exact q|eq=>cases t;exact aN (Nat.le_of_eq h.symm) q;exact aN (Nat.le_of_eq h) q
 |qe=>cases t;exact aN (Nat.le_of_eq h) q;exact aN (Nat.le_of_eq h.symm) q
theorem Rk.pG{v:List Nat}{m:Nat}{k:Rk}{a b:Ln}{P Q:Ln×Ln}(h:k.goal v m a b P Q=true)(p:P.1.den v≤P.2.den v)(q:Q.1.den v≤Q.2.den v):k.den v a b:=by
 cases k with |le=>exact Nat.le_of_not_lt fun x=>cf h (aN x p)|lt=>exact Nat.lt_of_not_le fun x=>cf h (aN x p)|eq=>exact Nat.le_antisymm (Nat.le_of_not_lt fun x=>cf (bj h).1 (aN x p)) (Nat.le_of_not_lt fun x=>cf (bj h).2 (aN x q))|yH=>exact fun x=>cf h (aN x p)|yI=>exact fun x=>cf h (aN x p)|no=>exact cf h p|qe=>exact(cf h p).elim
theorem i7{α β:Type}{R:α→β→Prop}{p:Ln×Nat}{q:Nat→Ln×Nat}{m:Nat}{t:Rk}{k:Nat→Rk→Ln→Ln→Nat→α}{k':Nat→Rk→Ln→Ln→Nat→β}(h:∀m t a b c,R (k m t a b c) (k' m t a b c)):R (jF p q m t k) (jF p q m t k'):=h ..
theorem tM{v:List Nat}{g:Bool}{n c:Nat}{P Q:Ln×Ln}(h:cL v g n c P Q=true)(p:P.1.den v≤P.2.den v)(q:Q.1.den v≤Q.2.den v):Dn v n c:=by
 induction n generalizing c P Q with |zero=>exact i7 (R:=fun x y=>x=true→y) (fun a a a a a h=>Rk.pG h p q) h|succ n ih=>exact i7 (R:=fun x y=>x=true→y) (fun a a a a a h x=>ih h (Rk.yR x p) (Rk.yR x q)) h
theorem go(c:Nat)(v:List Nat)(h:cL v (Nat.beq (c/16 %16) 1) (c %16) (c/256) (.lit 0,.lit 0) (.lit 0,.lit 0)=true):Dn v (c %16) (c/256):=tM h (Nat.le_refl _) (Nat.le_refl _)
theorem aY(a b:Nat):a≤a-b+b:=Nat.sub_le_iff_le_add.mp (Nat.le_refl _)
end Ln
theorem ae:true=true:=rfl
theorem aJ(c:Nat){a:Nat}(h:Ln.cL [a] (Nat.beq (c/16 %16) 1) (c %16) (c/256) (.lit 0,.lit 0) (.lit 0,.lit 0)=true):Ln.Dn [a] (c %16) (c/256):=Ln.go c _ h
theorem aA(c:Nat){a b:Nat}(h:Ln.cL [a,b] (Nat.beq (c/16 %16) 1) (c %16) (c/256) (.lit 0,.lit 0) (.lit 0,.lit 0)=true):Ln.Dn [a,b] (c %16) (c/256):=Ln.go c _ h
theorem aQ(c:Nat){a b d:Nat}(h:Ln.cL [a,b,d] (Nat.beq (c/16 %16) 1) (c %16) (c/256) (.lit 0,.lit 0) (.lit 0,.lit 0)=true):Ln.Dn [a,b,d] (c %16) (c/256):=Ln.go c _ h
theorem eO(c:Nat){a b d e:Nat}(h:Ln.cL [a,b,d,e] (Nat.beq (c/16 %16) 1) (c %16) (c/256) (.lit 0,.lit 0) (.lit 0,.lit 0)=true):Ln.Dn [a,b,d,e] (c %16) (c/256):=Ln.go c _ h
theorem vj(c:Nat){a b d e f:Nat}(h:Ln.cL [a,b,d,e,f] (Nat.beq (c/16 %16) 1) (c %16) (c/256) (.lit 0,.lit 0) (.lit 0,.lit 0)=true):Ln.Dn [a,b,d,e,f] (c %16) (c/256):=Ln.go c _ h
end Mine
end
noncomputable section
open PySem PySem.W PySem.Builtin PySem.Builtin.Str
namespace Mine
set_option genInjectivity true in
inductive V where
 |none|bool(b:Bool)|int(i:Int)|str(s:Str)|lst(xs:List V)|tup(xs:List V)|bf(kvs:List (Str×V))|nK(a b:Int)|ref(k:Nat)|fn(f:Nat)|cls(c:Nat)|blt(id:String)|typ(id:String)|bm(self:Nat)(f:Nat)|lG(params:List Str)(body:Expr)(sc:Scope)(cQ:List (Str×V))|tabI(kvs:List (Int×Str))|wY(xs:List Int)
 deriving Inhabited
inductive aE where
 |gone|lst(xs:List V)|bf(kvs:List (Str×V))|inst(c:Nat)(fs:List (Str×V))|oq(lG:V)(fs:List (Str×V))|kP(f:V)(stop:V)(live:Bool)
 deriving Inhabited
abbrev AH:=List aE
abbrev ah:=List (Str×V)
abbrev M(α:Type):=AH→Option (α×AH)
noncomputable def M.ret(a:α):M α:=fun H=>some (a,H)
noncomputable def M.aK(m:M α)(f:α→M β):M β:=fun H=>match m H with |some (a,H')=>f a H'|none=>none
noncomputable def M.fail:M α:=fun a=>none
noncomputable instance:Monad M where
 pure:=M.ret
 bind:=M.aK
noncomputable def opt(o:Option α):M α:=fun H=>o.map (·,H)
noncomputable def hget(k:Nat):M aE:=fun H=>match H[k]? with |some .gone=>none|some o=>some (o,H)|none=>none
noncomputable def fC(k:Nat)(o:aE):M Unit:=fun H=>some ((),H.set k o)
noncomputable def gC(o:aE):M V:=fun H=>some (.ref H.length,H++[o])
inductive Fl where
|next|cont
|ret(v:V)
noncomputable def OG:Fl→V|.ret v=>v|_=>.none
structure yS where
 params:List Str
 body:List Stmt
 sc:Scope
structure Gb where
 meths:List (Str×Nat)
 Ce:List Str
structure Cx where
 Jr:List (Str×V)
 fns:List (Nat×yS)
 fW:List (Nat×Gb)
 mu:Pos→Bool
 XA:Nat→Bool
 wo:Str→Bool
 lim:Nat
noncomputable def aP{β:Type}(l:List (Str×β))(x:Str)(v:β):List (Str×β):=match l with |[]=>[(x,v)]|p::r=>bif x==p.1 then(p.1,v)::r else p::aP r x v
noncomputable def a_(l:List (Str×V))(x:Str):Option V:=l.lookup x
def NJ(v:V):M Bool:=match v with
|.none=>pure false|.bool b=>pure b|.int i=>pure (i !=0)|.str s=>pure (s.length !=0)|.lst xs=>pure (xs.length !=0)|.ref k=>do match ←hget k with |.lst xs=>pure (xs.length !=0)|_=>M.fail
|_=>M.fail
noncomputable def deref(H:AH)(a:V):V:=match a with
|.ref k=>match H[k]? with |some (.lst xs)=>.lst xs|some (.bf kvs)=>.bf kvs|_=>a
|_=>a
noncomputable def av{α:Type}(a:V)(f:Int→Option α):Option α:=by induction a using V.casesOn with |int i=>exact f i|_=>exact none
noncomputable def onStr{α:Type}(a:V)(f:Str→Option α):Option α:=by induction a using V.casesOn with |str i=>exact f i|_=>exact none
noncomputable def b9{α:Type}(a:V)(f:Bool→Option α):Option α:=by induction a using V.casesOn with |bool i=>exact f i|_=>exact none
noncomputable def cM{α:Type}(a:V)(f:List V→Option α):Option α:=by induction a using V.casesOn with |lst i=>exact f i|_=>exact none
noncomputable def iE{α:Type}(a:V)(f:List V→Option α):Option α:=by induction a using V.casesOn with |tup i=>exact f i|_=>exact none
noncomputable def gD{α:Type}(a:V)(f:List (Str×V)→Option α):Option α:=by induction a using V.casesOn with |bf i=>exact f i|_=>exact none
noncomputable def jG{α:Type}(a:V)(f:Option α):Option α:=by induction a using V.casesOn with |none=>exact f|_=>exact Option.none
noncomputable def onSet{α:Type}(a:V)(f:List Int→Option α):Option α:=by induction a using V.casesOn with |wY i=>exact f i|_=>exact none
noncomputable def vm{α:Type}(a:V)(f:Nat→Option α):Option α:=by induction a using V.casesOn with |ref i=>exact f i|_=>exact none
noncomputable def Cf{α:Type}(a:V)(f:Int→Option α)(g:Str→Option α):Option α:=by induction a using V.casesOn with |int i=>exact f i|str x=>exact g x|_=>exact none
noncomputable def alt{α:Type}(a b:Option α):Option α:=match a with |some x=>some x|none=>b
noncomputable def lH(f:V→V→Option Bool):List V→List V→Option Bool
|[],[]=>some true|x::xs,y::ys=>match f x y,lH f xs ys with |some p,some q=>some (p&&q)|aM,bL=>none
|aM,bL=>none
noncomputable def veqd(f:V→V→Option Bool)(ys:List (Str×V)):List (Str×V)→Option Bool|[]=>some true|(x,v)::r=>match ys.lookup x with |none=>some false|some u=>match f v u,veqd f ys r with |some p,some q=>some (p&&q)|aM,bL=>none
def Sz(f:V→V→Option Bool)(H:AH)(a b:V):Option Bool:=
 alt (av a fun i=>av b fun j=>some (i==j)) (alt (onStr a fun x=>onStr b fun y=>some (x==y)) (alt (b9 a fun x=>b9 b fun y=>some (x==y))
 (alt (iE a fun xs=>iE b fun ys=>bif xs.length==ys.length then lH f xs ys else none) (alt (cM (deref H a) fun xs=>cM (deref H b) fun ys=>bif xs.length==ys.length then lH f xs ys else some false)
 (gD (deref H a) fun kx=>gD (deref H b) fun ky=>bif kx.length==ky.length then veqd f ky kx else some false)))))
noncomputable def jC:Nat→AH→V→V→Option Bool|0,aM,bL,gn=>none|n+1,H,a,b=>Sz (jC n H) H a b
noncomputable def IW(a b:V):Option Bool:=alt (av a fun i=>av b fun j=>some (i==j)) (onStr a fun x=>onStr b fun y=>some (x==y))
noncomputable def eqRow(x:V):List V→Option (List Bool)|[]=>some []|y::r=>match IW y x,eqRow x r with |some p,some q=>some (p::q)|aM,bL=>none
noncomputable def bB:Nat:=10
noncomputable def strLt(a b:Str):Bool:=decide (a.cps.toList<b.cps.toList)
noncomputable def strSub(x y:Str):Bool:=!(occurrences y x 0 y.length 1).isEmpty
def NK(_:Nat)(a b:V):Option Bool:=alt (av a fun i=>av b fun j=>some (decide (i<j))) (onStr a fun x=>onStr b fun y=>some (strLt x y))
noncomputable def runK{α:Type}(gq:Nat→Nat→Option Bool):PySem.W.KasT α→Option α|.ret a=>some a|.ask i j k=>match gq i j with |some b=>runK gq (k b)|none=>none
def sortAns(ks:List V)(i j:Nat):Option Bool:=match ks[i]?,ks[j]? with |some a,some b=>NK bB a b|aM,bL=>none
noncomputable def Cg(v:V):Bool:=Nat.beq v.ctorIdx 2
noncomputable def Gd(v:V):Bool:=Nat.beq v.ctorIdx 3
noncomputable def sortable(ks:List V):Bool:=ks.all Cg||ks.all Gd
noncomputable def small(i:Int):Bool:=decide (i.natAbs<2^128)
noncomputable def sizeOk(n:Nat):Bool:=decide (n<2^20)
noncomputable def ak:Nat:=2^20
noncomputable def pH(f:Int→Int→Option V)(a b:V):Option V:=av a fun i=>av b fun j=>f i j
def yT(a b:V):Option V:=match a with
|.int i=>av b fun j=>some (.int (i+j))|.str x=>onStr b fun y=>if sizeOk (x.length+y.length) then some (.str (x++y)) else none
|.lst x=>cM b fun y=>if sizeOk (x.length+y.length) then some (.lst (x++y)) else none
|.tup x=>iE b fun y=>if x.length !=0&&y.length !=0&&sizeOk (x.length+y.length) then some (.tup (x++y)) else none
|_=>none
def Ge(a b:V):Option V:=match a with
|.int i=>av b fun j=>if small i&&small j then some (.int (i* j)) else none
|.lst x=>av b fun j=>match x with
 |[v]=>if decide (0≤j)&&decide (j<1000) then some (.lst (List.replicate j.toNat v)) else none
 |_=>none
|_=>none
def binop(op:Operator)(a b:V):Option V:=match op with |.Add=>yT a b|.Mult=>Ge a b|.Sub=>pH (fun i j=>some (.int (i-j))) a b|.FloorDiv=>pH (fun i j=>if j !=0&&small j then some (.int (i.fdiv j)) else none) a b|.Mod=>pH (fun i j=>if j !=0 then some (.int (i.fmod j)) else none) a b|.Pow=>pH (fun i j=>if decide (1<i)&&small i&&decide (0≤j)&&decide (j<100) then some (.int (i^j.toNat)) else none) a b|_=>none
def i8(a b:V):Option V:=match a with
|.int i=>av b fun j=>some (.int (i+j))|.str x=>onStr b fun y=>if sizeOk (x.length+y.length) then some (.str (x++y)) else none
|_=>none
noncomputable def tN{α:Type}(as:List V)(f:V→V→Option α):Option α:=match as with |[v,u]=>f v u|_=>none
def vo(v:V):Option (Bool×Bool):=iE v fun xs=>tN xs fun a b=>b9 a fun p=>b9 b fun q=>some (p,q)
noncomputable def lI:List V→Option (List (Bool×Bool))|[]=>some []|v::r=>(vo v).bind fun p=>(lI r).map (p::·)
def inside(H:AH)(a b:V):Option Bool:=alt (onStr a fun x=>alt (onStr b fun y=>some (strSub x y)) (gD (deref H b) fun kvs=>some (kvs.lookup x).isSome)) (alt (cM b fun ys=>(eqRow a ys).map (·.any id)) ((vo a).bind fun p=>cM b fun ys=>(lI ys).map (·.any (·==p))))
def bI(H:AH)(op:CmpOp)(a b:V):Option V:=match op with |.Eq=>(jC bB H a b).map .bool|.NotEq=>(jC bB H a b).map fun r=>.bool !r|.Lt=>alt (av a fun i=>av b fun j=>some (.bool (decide (i<j)))) (onStr a fun x=>onStr b fun y=>some (.bool (strLt x y)))|.Gt=>alt (av a fun i=>av b fun j=>some (.bool (decide (j<i)))) (onStr a fun x=>onStr b fun y=>some (.bool (strLt y x)))|.GtE=>av a fun i=>av b fun j=>some (.bool (decide (j≤i)))|.Is=>b9 b fun y=>alt (b9 a fun x=>some (.bool (x==y))) (av a fun c=>some (.bool false))|.IsNot=>alt (b9 b fun y=>b9 a fun x=>some (.bool (x !=y))) (jG b (alt (jG a (some (.bool false))) (onStr a fun c=>some (.bool true))))|.In=>alt (onSet b fun xs=>av a fun i=>some (.bool (xs.contains i))) ((inside H a b).map .bool)|.NotIn=>(inside H a b).map fun r=>.bool !r|_=>none
def i9(x:V)(l:List V):Option Nat:=(eqRow x l).map (·.countP id)
def ic(x:V)(l:List V):Option Nat:=(eqRow x l).bind (·.findIdx? id)
noncomputable def bV(n:Nat)(i:Int):Option Nat:=if decide (-2^63≤i)&&decide (i<2^63) then seqIndex? i n else none
def qN(a i:V):Option V:=match a with |.lst xs=>av i fun i=>(bV xs.length i).bind fun k=>xs[k]?|.tup xs=>av i fun i=>(bV xs.length i).bind fun k=>xs[k]?|.str x=>av i fun i=>(bV x.length i).bind fun k=>x.cps[k]?.map fun c=>.str ⟨#[c]⟩|.bf kvs=>onStr i fun x=>kvs.lookup x|_=>none
def item(H:AH)(a i:V):Option V:=qN (deref H a) i
noncomputable def cut(xs:List α)(lo hi:Option Int):List α:=(xs.drop (lo.elim 0 (clipAt xs.length))).take (hi.elim xs.length (clipAt xs.length)-lo.elim 0 (clipAt xs.length))
noncomputable def E5(j:Int)(n:Nat):Bool:=decide (0≤j)&&decide (j<n)
def slice(H:AH)(a:V)(lo hi:Option Int):Option V:=match deref H a with |.tup xs=>lo.elim (hi.bind fun j=>bif E5 j xs.length then some (.tup (xs.take j.toNat)) else none) fun b=>none|.lst xs=>some (.lst (cut xs lo hi))|.str x=>some (.str ⟨(cut x.cps.toList lo hi).toArray⟩)|_=>none
noncomputable def fX(f:V→M V):List V→M (List V)
|[]=>pure []|x::r=>do
 let y←f x
 return y::(←fX f r)
noncomputable def eR(f:V→M V):List (Str×V)→M (List (Str×V))
|[]=>pure []|(k,x)::r=>do
 let y←f x
 return (k,y)::(←eR f r)
noncomputable def freeze:Nat→V→M V
|0,aM=>M.fail|n+1,.ref k=>do
 match ←hget k with |.lst xs=>fC k .gone;return .lst (←fX (freeze n) xs)|.bf kvs=>fC k .gone;return .bf (←eR (freeze n) kvs)|_=>M.fail
|n+1,.tup xs=>do return .tup (←fX (freeze n) xs)
|aM,v=>pure v
def srcOf(v:V):M (List V×Option (Nat×aE)):=match v with
|.lst xs=>pure (xs,none)|.tup xs=>pure (xs,none)|.str x=>pure (x.cps.toList.map fun c=>.str ⟨#[c]⟩,none)|.nK a b=>pure ((List.range (b-a).toNat).map fun(i:Nat)=>.int (a+(i:Int)),none)|.bf kvs=>pure (kvs.map fun kv=>.str kv.1,none)|.ref k=>do
 match ←hget k with |.lst xs=>fC k .gone;return (xs,some (k,.lst xs))|.bf kvs=>fC k .gone;return (kvs.map fun kv=>.str kv.1,some (k,.bf kvs))|_=>M.fail
|_=>M.fail
def Ci(v:V):M (List (Str×V)×Option (Nat×aE)):=match v with
|.bf kvs=>pure (kvs,none)|.ref k=>do
 match ←hget k with |.bf kvs=>fC k .gone;return (kvs,some (k,aE.bf kvs))|_=>M.fail
|_=>M.fail
noncomputable def aR(i:Int):List V→List V|[]=>[]|x::r=>.tup [.int i,x]::aR (i+1) r
def ie:Option (Nat×aE)→M Unit|none=>pure ()|some (k,o)=>fC k o
noncomputable def qO:List V→Option (List Str)|[]=>some []|v::r=>onStr v fun x=>(qO r).map (x::·)
noncomputable def ou(y:Str):Option Nat:=match y.cps.toList with |[c]=>some c|_=>none
noncomputable def lJ(c:Nat)(x:Str):Nat:=(x.cps.toList.filter (·==c)).length
noncomputable def sumInts:List V→Option Int|[]=>some 0|v::r=>av v fun i=>(sumInts r).map (i+·)
noncomputable def iO(C:Cx)(f:Nat):Option yS:=C.fns.lookup f
noncomputable def kindOf(sc:Scope)(x:Str):Option NameKind:=sc.names.lookup x
def eS(sc:Scope)(env:ah):Option (List (Str×V)):=(sc.names.filter (·.2==.free)).mapM fun n=>(a_ env n.1).map (n.1,·)
noncomputable def lK:List String:=["len","chr","ord","sorted","sum","isinstance","iter"]
noncomputable def lM:List String:=["int","list","tuple","range","enumerate"]
noncomputable def gE(sc:Scope):Scope:={sc with names:=sc.names++[(Str.empty,.globalExplicit)]}
noncomputable def gr(sc:Scope):Bool:=sc.names.any fun n=>n.1==Str.empty
def lookGlob(C:Cx)(x:Str):Option V:=match C.Jr.lookup x with |some v=>some v|none=>match lK.find? (fun n=>Str.ofString n==x) with |some n=>some (.blt n)|none=>(lM.find? fun n=>Str.ofString n==x).map .typ
def dD(C:Cx)(sc:Scope)(env:ah)(x:Str):Option V:=match kindOf sc x with
|some .local|some .cell|some .free=>a_ env x
|some .globalImplicit=>lookGlob C x|_=>none
noncomputable def yU(v:V):Bool:=Nat.beq v.ctorIdx 13
noncomputable def ig(i:Int):Bool:=decide (i.natAbs<2^60)
noncomputable def jD{α:Type}(as:List V)(f:V→Option α):Option α:=match as with |[v]=>f v|_=>none
noncomputable def vp{α:Type}(a:V)(f:String→Option α):Option α:=by induction a using V.casesOn with |typ i=>exact f i|_=>exact none
noncomputable def Cj{α:Type}(a:V)(f:Option α):Option α:=match a with |.bm _ _=>f|_=>none
noncomputable def Js(a:V):Option Nat:=match a with |.str x=>some x.length|.lst x=>some x.length|.tup x=>some x.length|.bf x=>some x.length|_=>none
noncomputable def Jt(as:List V):M V:=fun H=>jD as fun v=>(Js (deref H v)).map fun(n:Nat)=>(.int n,H)
noncomputable def Ju(as:List V):M V:=fun H=>jD as fun v=>av v fun i=>bif decide (0≤i)&&decide (i<0x110000) then some (.str ⟨#[i.toNat]⟩,H) else none
noncomputable def Jv(as:List V):M V:=fun H=>jD as fun v=>onStr v fun x=>(ou x).map fun(c:Nat)=>(.int c,H)
def Jw(as:List V):M V:=fun H=>jD as fun v=>cM v fun xs=>(sumInts xs).map fun i=>(.int i,H)
noncomputable def Jx(as:List V):M V:=fun H=>tN as fun v t=>av v fun a=>vp t fun t=>bif t=="tuple" then some (.bool false,H) else none
def E6(as:List V):M V:=fun H=>tN as fun f v=>Cj f (gC (.kP f v true) H)
def i_(id:String)(as:List V):M V:=
 if id=="len" then Jt as else if id=="chr" then Ju as else if id=="ord" then Jv as else if id=="sum" then Jw as
 else if id=="isinstance" then Jx as else if id=="iter" then E6 as else M.fail
noncomputable def vq(v:V):Option (List V):=match v with |.str x=>some (x.cps.toList.map fun c=>.str ⟨#[c]⟩)|.nK a b=>some ((List.range (b-a).toNat).map fun(i:Nat)=>.int (a+(i:Int)))|_=>none
noncomputable def Jy(as:List V):M V:=fun H=>jD as fun v=>b9 v fun b=>some (.int (if b then 1 else 0),H)
def rangeT(as:List V):M V:=fun H=>alt (jD as fun v=>av v fun b=>bif ig b then some (.nK 0 b,H) else none) (tN as fun u v=>av u fun a=>av v fun b=>bif ig a&&ig b then some (.nK a b,H) else none)
def yV(b:Bool)(as:List V):M V:=fun H=>jD as fun v=>(vq v).bind fun xs=>bif sizeOk xs.length then(if b then gC (.lst xs) else pure (.lst xs):M V) H else none
def Jz(as:List V):M V:=fun H=>jD as fun v=>cM v fun xs=>some (.tup xs,H)
def gF(b:Bool)(id:String)(as:List V):M V:=if id=="int" then Jy as else if id=="range" then rangeT as else if id=="list" then yV b as else if id=="tuple" then Jz as else M.fail
def iP(xs:List V)(i:Int)(v:V):Option (List V):=if decide (0≤i) then(bV xs.length i).map fun k=>xs.set k v else none
def yW(k:Nat)(i:Int)(v:V):aE→M Unit
|.lst xs=>match iP xs i v with |some ys=>fC k (.lst ys)|none=>M.fail
|_=>M.fail
def vt(k:Nat)(x:Str)(v:V):aE→M Unit
|.bf kvs=>if sizeOk (kvs.length+1) then fC k (.bf (aP kvs x v)) else M.fail
|_=>M.fail
def ja(o i v:V):M Unit:=fun H=>vm o fun k=>Cf i (fun i=>M.aK (hget k) (yW k i v) H) fun x=>M.aK (hget k) (vt k x v) H
noncomputable def oz(C:Cx)(c:Nat)(a:Str):Bool:=match C.fW.lookup c with |some d=>d.Ce.contains a|none=>false
noncomputable def pI(v:V):Bool:=!Nat.beq v.ctorIdx 11
def getAttrA(C:Cx)(o:V)(a:Str):M V:=match o with
|.ref k=>do
 match ←hget k with
 |.inst c fs=>match fs.lookup a with
  |some v=>if oz C c a&&pI v then pure v else M.fail
  |none=>match (C.fW.lookup c).bind fun d=>d.meths.lookup a with |some f=>pure (.bm k f)|none=>M.fail
 |_=>M.fail
|_=>M.fail
def setAttrA(C:Cx)(o:V)(a:Str)(v:V):M Unit:=match o with
|.ref k=>do
 match ←hget k with
 |.inst c fs=>if oz C c a&&sizeOk (fs.length+1) then fC k (.inst c (aP fs a v)) else M.fail
 |.oq c fs=>match v with
  |.lG ..=>if a=="read"&&fs.isEmpty then fC k (.oq c [(a,v)]) else M.fail
  |_=>M.fail
 |_=>M.fail
|_=>M.fail
def qP(x:Str)(v:V):M V:=fun H=>cM (deref H v) fun vs=>(qO vs).bind fun ys=>bif sizeOk (ys.map (·.length)).sum&&sizeOk (Txt.join x ys).length then some (.str (Txt.join x ys),H) else none
def JA(x:Str)(v:V):M V:=opt (onStr v fun y=>(ou y).map fun c=>.int (lJ c x))
def JB(x:Str)(v:V):M V:=opt (onStr v fun y=>(ou y).bind fun c=>(x.cps.toList.findIdx? (·==c)).map fun(i:Nat)=>.int i)
noncomputable def Ur{α:Type}(as:List V)(f:Option α):Option α:=match as with |[]=>f|_=>none
def iF(x:Str)(m:Str)(as:List V):M V:=fun H=>alt (Ur as (if m=="lower"&&x.length==1 then some (.str (Txt.lower x),H) else none)) (jD as fun v=>(if m=="join"&&x.length==0 then qP x v else if m=="count" then JA x v else if m=="index" then JB x v else M.fail) H)
def JC(k:Nat)(xs:List V)(v:V):M V:=if sizeOk (xs.length+1) then(do fC k (.lst (xs++[v]));pure .none) else M.fail
noncomputable def JD(k:Nat)(xs:List V)(v:V):M V:=fun H=>av v fun i=>match xs with |x::r=>bif i==0 then some (x,H.set k (.lst r)) else none|[]=>none
def JE(i:Int)(n:Nat):Bool:=decide (0≤i)&&decide (i<2^63)&&sizeOk (n+1)
def JF(k:Nat)(xs:List V)(i v:V):M V:=fun H=>av i fun i=>bif JE i xs.length then some (.none,H.set k (.lst (xs.take i.toNat++v::xs.drop i.toNat))) else none
def tO(k:Nat)(m:Str)(as:List V):aE→M V|.lst xs=>fun H=>alt (jD as fun v=>(if m=="append" then JC k xs v else if m=="pop" then JD k xs v else M.fail) H) (tN as fun i v=>(if m=="insert" then JF k xs i v else M.fail) H)|_=>M.fail
def vy(xs:List V)(m:Str)(as:List V):M V:=fun H=>jD as fun v=>if m=="count" then(i9 v xs).map fun(n:Nat)=>(.int n,H) else if m=="index" then(ic v xs).map fun(n:Nat)=>(.int n,H) else none
noncomputable def qQ(kvs:List (Int×Str))(m:Str)(as:List V):M V:=fun H=>jD as fun v=>av v fun i=>if m=="get" then some (match kvs.lookup i with |some x=>.str x|none=>.none,H) else none
noncomputable def lN(kvs:List (Str×V))(m:Str)(as:List V):M V:=fun H=>tN as fun v d=>onStr v fun x=>if m=="get" then some ((kvs.lookup x).getD d,H) else none
noncomputable def cB(a:Arguments):Option (List Str):=bif a.posonlyargs.isEmpty&&(a.vararg.isNone&&(a.kwonlyargs.isEmpty&&(a.kw_defaults.isEmpty&&(a.kwarg.isNone&&a.defaults.isEmpty)))) then some (a.args.map (·.arg)) else none
noncomputable def dh(e:Expr):Bool:=Nat.beq e.ctorIdx 16
noncomputable def enumSrc(v:V)(back:Option (Nat×aE)):Bool:=(Nat.ble 3 v.ctorIdx&&Nat.ble v.ctorIdx 5)||(Nat.beq v.ctorIdx 8&&back.elim false fun p=>Nat.beq p.2.ctorIdx 1)
inductive Acc where
|l(xs:List V)|d(kvs:List (Str×V))
inductive Out where
|e(x:Expr)|kv(k v:Expr)
noncomputable def Out.start:Out→Acc|.e _=>.l []|.kv _ _=>.d []
def fY(sc au:Scope):Bool:=au.kind==.function&&decide (au.names.map (·.1)).Nodup&&!gr au&&
 au.names.all fun n=>n.2 !=.free||((kindOf sc n.1==some .cell||kindOf sc n.1==some .free)&&n.1 !=Str.ofString "__classdict__")
noncomputable def yX:V→Bool|.lG ..=>true|_=>false
def jb(v:V):M (List V):=match v with
|.nK a b=>pure ((List.range (b-a).toNat).map fun(i:Nat)=>.int (a+(i:Int)))|.bf kvs=>pure (kvs.map fun kv=>.str kv.1)|.lst xs=>pure xs|.ref k=>do
 match ←hget k with |.lst xs=>pure xs|.bf kvs=>pure (kvs.map fun kv=>.str kv.1)|_=>M.fail
|_=>M.fail
def cR(ks xs:List V):Option V:=if xs.length<2 then some (.lst xs) else if decide (xs.length<64)&&sortable ks then
  (runK (sortAns ks) (PySem.W.kas_sort xs.length)).map fun p=>.lst (p.toList.map fun i=>xs.getD i .none)
 else none
def pJ(vs:List V):M V:=match vs with
|[v]=>do
 let xs←jb v
 opt (cR xs xs)
|_=>M.fail
noncomputable def OH(v:Expr):Bool:=by induction v using Expr.casesOn with |Tuple vs _ _=>exact vs.all (constantsAlone 8)&&!vs.all (foldedForSure 8)|_=>exact false
def lO(t v:Expr):Bool:=Nat.beq t.ctorIdx 24||(Nat.beq t.ctorIdx 25&&OH v)
noncomputable def fZ(e:Expr):Bool:=Nat.beq e.ctorIdx 8||(Nat.beq e.ctorIdx 9||Nat.beq e.ctorIdx 10)
noncomputable def isSlice(e:Expr):Bool:=Nat.beq e.ctorIdx 26
noncomputable def isStarred(e:Expr):Bool:=Nat.beq e.ctorIdx 22
def vz(ps:List Str)(sc:Scope)(cQ:List (Str×V)):Bool:=cQ.all (fun kv=>kindOf sc kv.1==some .free&&kv.1 !=Str.ofString "__classdict__")&&sc.kind==.function&&!sc.isCoroutine&&!sc.isGenerator&&sc.names.all (fun n=>n.2 !=.cell)&&ps.all (fun p=>kindOf sc p==some .local)&&decide (sc.names.map (·.1)).Nodup&&decide ps.Nodup&&!gr sc
theorem nE{α:Type _}{a:α}{P:Prop}(h:(none:Option α)=some a):P:=nomatch h
theorem XC{P:Prop}(h:true=false):P:=nomatch h
@[elab_as_elim] theorem gG{α:Type}{a:α}{H:AH}{P:α→AH→Prop}{b:α}{H':AH}(h:(M.ret a) H=some (b,H'))(k:P a H):P b H':=by have h':some (a,H)=some (b,H'):=h;cases h';exact k
@[elab_as_elim] theorem jc{α β:Type}{a:α}{c:β}{H:AH}{P:α→β→AH→Prop}{b:α}{d:β}{H':AH}(h:(M.ret (a,c)) H=some ((b,d),H'))(k:P a c H):P b d H':=by have h':some ((a,c),H)=some ((b,d),H'):=h;cases h';exact k
theorem bJ{α β:Type}{m:M α}{f:α→M β}{H H':AH}{b:β}{P:Prop}(h:(M.aK m f) H=some (b,H'))(k:∀a H₁,m H=some (a,H₁)→f a H₁=some (b,H')→P):P:=by
 unfold M.aK at h;cases e:m H with |none=>rw[e] at h;exact nE h|some p=>obtain⟨a,H₁⟩:=p;rw[e] at h;exact k a H₁ e h
theorem Us{α:Type}{c:Prop}[Decidable c]{m:M α}{H:AH}{r:α×AH}{P:Prop}(h:(if c then(M.fail:M α) else m) H=some r)(k:¬c→m H=some r→P):P:=by
 by_cases hc:c
 ·rw[if_pos hc] at h;exact nE h
 ·rw[if_neg hc] at h;exact k hc h
theorem yY{α:Type}{c:Prop}[Decidable c]{m:M α}{H:AH}{r:α×AH}{P:Prop}(h:(if c then m else(M.fail:M α)) H=some r)(k:c→m H=some r→P):P:=by
 by_cases hc:c
 ·rw[if_pos hc] at h;exact k hc h
 ·rw[if_neg hc] at h;exact nE h
set_option tactic.hygienic false
section
variable{β:Type}
noncomputable def aI(f:β→V)(l:List (Str×β)):List (Str×V):=l.map fun kv=>(kv.1,f kv.2)
theorem d7(f:β→V)(l:List (Str×β)):(aI f l).length=l.length:=List.length_map _
theorem pK(f:β→V)(d:List (Str×β))(x:Str)(v:β):aP (aI f d) x (f v)=aI f (aP d x v):=by
 induction d with
 |nil=>rfl|cons p r ih=>
  show(bif x==p.1 then(p.1,f v)::aI f r else(p.1,f p.2)::aP (aI f r) x (f v))=aI f (bif x==p.1 then(p.1,v)::r else p::aP r x v);induction x==p.1 with |true=>rfl|false=>exact congrArg ((p.1,f p.2)::·) ih
theorem jH(f:β→V)(d:List (Str×β))(x:Str):(aI f d).lookup x=(d.lookup x).map f:=by
 induction d with
 |nil=>rfl|cons p r ih=>
  refine List.lookup_cons.trans (.trans ?_ (congrArg (Option.map f) List.lookup_cons.symm));induction x==p.1 with |true=>rfl|false=>exact ih
theorem cS(d:List (Str×β))(x:Str)(v:β)(y:Str):(aP d x v).lookup y=if y==x then some v else d.lookup y:=by
 induction d with
 |nil=>refine List.lookup_cons.trans ?_;induction y==x<;>rfl
 |cons p r ih=>
  refine .trans ?_ (congrArg (ite _ _) List.lookup_cons.symm);show List.lookup y (bif x==p.1 then(p.1,v)::r else p::aP r x v)=_;induction hz:x==p.1 with
  |true=>refine List.lookup_cons.trans ?_;rw[eq_of_beq hz];induction y==p.1<;>rfl
  |false=>
   refine List.lookup_cons.trans ?_;rw[ih];induction hy:y==p.1 with
   |false=>rfl|true=>
    induction h:y==x with |false=>rfl|true=>exact nomatch (eq_of_beq h▸hy).symm.trans hz
theorem fD(d:List (Str×β))(x:Str):d.lookup x=none↔x∉d.map (·.1):=by
 induction d with
 |nil=>exact⟨fun a=>List.not_mem_nil,fun a=>rfl⟩|cons p r ih=>
  rw[List.lookup_cons];induction h:x==p.1 with |true=>exact⟨nofun,fun q=>absurd (eq_of_beq h▸.head _) q⟩|false=>exact ih.trans ⟨fun h1 h2=>(bz h2).elim (ne_of_beq_false h) h1,fun h1 h2=>h1 (.tail _ h2)⟩
theorem yZ(d:List (Str×β))(x:Str)(v:β):(aP d x v).map (·.1)=if(d.lookup x).isSome then d.map (·.1) else d.map (·.1)++[x]:=by
 induction d with
 |nil=>rfl|cons p r ih=>
  rw[List.lookup_cons];show List.map (·.1) (bif x==p.1 then(p.1,v)::r else p::aP r x v)=_;induction h:x==p.1 with |true=>rfl|false=>refine(congrArg (p.1::·) ih).trans ?_;induction (r.lookup x).isSome<;>rfl
theorem cG(d:List (Str×β))(x:Str)(v:β):(aP d x v).length≤d.length+1:=by
 induction d with
 |nil=>exact Nat.le_refl _|cons p r ih=>
  show List.length (bif x==p.1 then(p.1,v)::r else p::aP r x v)≤_;induction x==p.1 with |true=>exact Nat.le_succ _|false=>exact Nat.succ_le_succ ih
theorem vA(d:List (Str×β)){x:Str}{v:β}(h:x∉d.map (·.1)):aP d x v=d++[(x,v)]:=by
 induction d with |nil=>rfl|cons p r ih=>show(bif x==p.1 then(p.1,v)::r else p::aP r x v)=_;rw[beq_false_of_ne fun e:x=p.1=>h (List.mem_cons.mpr (.inl e))];exact congrArg (p::·) (ih fun q=>h (.tail _ q))
end
end Mine
end
noncomputable section
open PySem PySem.W PySem.Calls PyProof.Rows
namespace Hd
noncomputable section
noncomputable abbrev pw:Program:=PySem.Challenge.pw_xb0034_03
noncomputable abbrev S(x:String):Str:=Str.ofString x
def st(i:Nat):Stmt:=(pw.main.body[i]?).getD (.Pass default)
noncomputable def OI(s:Stmt):List Stmt:=by induction s using Stmt.casesOn with |ClassDef _ _ _ b _ _ _ _ _ _ _=>exact b|_=>exact []
def cst(i j:Nat):Stmt:=(OI (st i)).getD j (.Pass default)
noncomputable def fA(s:Stmt):Arguments×List Stmt×Scope:=by induction s using Stmt.casesOn with |FunctionDef _ a b _ _ _ s _ _ _=>exact(a,b,s)|_=>exact(default,[],default)
def fP(s:Stmt):Arguments:=(fA s).1
def fB(s:Stmt):List Stmt:=(fA s).2.1
def fS(s:Stmt):Scope:=(fA s).2.2
def kQ:Env:={scope:=pw.main.scope,locals:=mainNs,globals:=mainNs,cells:=[],code:=.ref 13,frame:=some 14}
noncomputable abbrev c0:Code:=.body (behindTheImports pw) kQ
noncomputable abbrev sh(h:Heap)(t:Nat)(os:OsState):Shared:=⟨h,#[],boot_drawn,t,os⟩
noncomputable abbrev B0:List Frame:=[topFrame ⟨0,0,0,0⟩]
noncomputable abbrev go(w:World)(n:Nat)(s:Shared)(t:Thread):Option (Shared×Thread):=segGo treeTable pw w 11 (some (.ref 6)) 1 n s t
def Go{α:Type}(w:World)(n:Nat)(s:Shared)(m:Sem α)(s':Shared)(a:α):Prop:=∀(p:Pos),∃p':Pos,∀(K:α→Sem PySem.Fin) (H:Value→Sem PySem.Fin) (gd:Bool→Bool) (lv:List Value→List Value) (N:Nat),go w (n+N) s ⟨Sem.wrap K H gd lv m,c0,p,B0⟩=go w N s' ⟨K a,c0,p',B0⟩
section
variable{α β:Type}{w:World}{s s' JG:Shared}{n m:Nat}{a:α}
theorem Go.pure:Go w 0 s (Sem.pure a) s a:=fun p=>⟨p,fun K H gd lv N=>by rw[Nat.zero_add];rfl⟩
theorem Go.pure':Go w 0 s (Pure.pure a:Sem α) s a:=Go.pure
theorem Go.bind{t:Sem α}{f:α→Sem β}{b:β}(h:Go w n s t s' a)(k:Go w m s' (f a) JG b):Go w (n+m) s (t>>=f) JG b:=fun p=>by obtain⟨p',h⟩:=h p;obtain⟨E7,k⟩:=k p';refine⟨E7,fun K H gd lv N=>?_⟩;simp only[Sem.bind_eq_wrap',Sem.wrap_wrap,Nat.add_assoc];exact(h _ _ _ _ _).trans (k K H gd lv N)
theorem Go.keep{vs:List Value}{t:Sem α}(h:Go w n s t s' a):Go w n s (t.keep vs) s' a:=fun p=>by obtain⟨p',h⟩:=h p;refine⟨p',fun K H gd lv N=>?_⟩;simp only[Sem.keep_eq_wrap,Sem.wrap_wrap];exact h _ _ _ _ N
theorem Go.holding{vs:List Value}{t:Sem α}(h:Go w n s t s' a):Go w n s (holding vs t) s' a:=by
 unfold PySem.holding;split
 ·exact h
 ·exact h.keep
theorem Go.onRaise{t:Sem α}{hd:Value→Sem Unit}(h:Go w n s t s' a):Go w n s (t.onRaise hd) s' a:=fun p=>by obtain⟨p',h⟩:=h p;refine⟨p',fun K H gd lv N=>?_⟩;simp only[Sem.onRaise_eq_wrap,Sem.wrap_wrap];exact h _ _ _ _ N
theorem go_succ(n:Nat)(s:Shared)(t:Thread):go w (n+1) s t=match endAt 1 t with |some _=>none|none=>match stepOk 11 (some (.ref 6)) t with |false=>none|true=>match step (denote treeTable) pw w s t with |.go s' t'=>go w n s' t'|.halt _ _=>none:=rfl
theorem Go.rule{tag:String}:Go w 1 s (PySem.rule tag) s ():=fun p=>⟨p,fun K H gd lv N=>by rw[Nat.add_comm];rfl⟩
theorem Go.standAt{q:Pos}:Go w 1 s (standAt q) s ():=fun p=>⟨q,fun K H gd lv N=>by rw[Nat.add_comm];rfl⟩
theorem Go.point:Go w 1 s point s ():=fun p=>⟨p,fun K H gd lv N=>by rw[Nat.add_comm];rfl⟩
theorem Go.ask:Go w 1 s ask s ⟨pw,w.params⟩:=fun p=>⟨p,fun K H gd lv N=>by rw[Nat.add_comm];rfl⟩
theorem Go.fresh{h:Heap}{t:Nat}{os:OsState}:Go w 1 (sh h t os) fresh (sh h (t+1) os) t:=fun p=>⟨p,fun K H gd lv N=>by rw[Nat.add_comm];rfl⟩
theorem Go.alloc{h:Heap}{t:Nat}{os:OsState}{o:Obj}:Go w 1 (sh h t os) (alloc o) (sh (h.push o) t os) h.objs.size:=fun p=>⟨p,fun K H gd lv N=>by rw[Nat.add_comm];rfl⟩
theorem Go.loadPart{h:Heap}{t:Nat}{os:OsState}{b:Addr}{part:Option Value}{o:Obj}(ho:h.get? b=some o):Go w 1 (sh h t os) (loadPart b part) (sh h t os) o:=fun p=>⟨p,fun K H gd lv N=>by rw[Nat.add_comm];show(match step (denote treeTable) pw w (sh h t os) ⟨.load b part (fun x=>Sem.wrap K H gd lv (.pure x)),c0,p,B0⟩ with |.go s' t'=>go w N s' t'|.halt _ _=>none)=_;simp only[step,ho];rfl⟩
theorem Go.updatePart{h:Heap}{t:Nat}{os:OsState}{b:Addr}{part:Option Value}{f:Obj→Obj}{o:Obj}(ho:h.get? b=some o)(hb:Nat.ble 11 b=true):
  Go w 1 (sh h t os) (updatePart b part f) (sh (h.update b f) t os) ():=fun p=>⟨p,fun K H gd lv N=>by
 rw[Nat.add_comm];obtain e:stepOk 11 (some (.ref 6)) ⟨.update b part f (fun x=>Sem.wrap K H gd lv (.pure x)),c0,p,B0⟩=true:=by unfold stepOk;simp only[hb,Bool.true_or,Bool.and_true];rfl
 show(match stepOk 11 (some (.ref 6)) ⟨.update b part f (fun x=>Sem.wrap K H gd lv (.pure x)),c0,p,B0⟩ with |false=>none|true=>match step (denote treeTable) pw w (sh h t os) ⟨.update b part f (fun x=>Sem.wrap K H gd lv (.pure x)),c0,p,B0⟩ with |.go s' t'=>go w N s' t'|.halt _ _=>none)=_
 rw[e];simp only[step,ho,Option.isSome_some,if_true];rfl⟩
theorem Go.cast{t:Sem α}(h:Go w n s t s' a)(e:n=m):Go w m s t s' a:=e▸h
end
theorem Ck(w:World):∀(h:Heap) (t:Nat) (os:OsState) (i:Int) (k:Nat) (K:Int→Sem PySem.Fin) (H:Value→Sem PySem.Fin) (gd:Bool→Bool) (lv:List Value→List Value) (N:Nat) (p:Pos),
  go w (N+5) (sh h t os) ⟨Sem.wrap K H gd lv (pyHash (.int i k)),c0,p,B0⟩=go w N (sh h (t+1) os) ⟨Sem.wrap K H gd lv (pyHashByItsType.reduced (rawHash i)),c0,p,B0⟩:=by
 refine byRow2 (P:=fun w=>∀(h:Heap) (t:Nat) (os:OsState) (i:Int) (k:Nat) (K:Int→Sem PySem.Fin) (H:Value→Sem PySem.Fin) (gd:Bool→Bool) (lv:List Value→List Value) (N:Nat) (p:Pos),go w (N+5) (sh h t os) ⟨Sem.wrap K H gd lv (pyHash (.int i k)),c0,p,B0⟩=go w N (sh h (t+1) os) ⟨Sem.wrap K H gd lv (pyHashByItsType.reduced (rawHash i)),c0,p,B0⟩) "special-get-raises" (fun w=>?_) (fun w=>?_) w
 ·intros;kernel_rfl
 ·intros;kernel_rfl
theorem Go.hash{w:World}{h:Heap}{t:Nat}{os:OsState}{i:Int}{k:Nat}(hi:hashInt i=i)(hr:rawHash i=i):Go w 5 (sh h t os) (pyHash (.int i k)) (sh h (t+1) os) i:=fun p=>⟨p,fun K H gd lv N=>by
 rw[Nat.add_comm,Ck,hr];obtain OJ:=rawHash_range i;rw[hr] at OJ;obtain e:pyHashByItsType.reduced i=Pure.pure i:=by
  refine(if_pos (by simp only[decide_eq_true OJ.1,decide_eq_true OJ.2];rfl)).trans ?_;obtain cI:(i==-1)=false:=by
   unfold hashInt at hi;rw[hr] at hi;cases q:(i==-1) with |false=>rfl|true=>rw[q,if_pos rfl] at hi;rw[←hi] at q;exact absurd q (by decide)
  rw[cI];rfl
 rw[e];rfl⟩
noncomputable abbrev cT(es:Array DictEntry)(n:Nat):Obj:={cls:=.type "dict",data:=.dict es n}
noncomputable def HL(b:Heap)(l:List Obj):Heap:=⟨b.objs++l.toArray,b.life⟩
theorem vB(b:Heap)(l:List Obj)(o:Obj):(HL b l).push o=HL b (l++[o]):=by simp[HL,Heap.push]
theorem vC(b:Heap)(l:List Obj):(HL b l).objs.size=b.objs.size+l.length:=by simp[HL]
theorem jI(b:Heap)(pre post:List Obj)(es:Array DictEntry)(n:Nat):(HL b (pre++cT es n::post)).get? (b.objs.size+pre.length)=some (cT es n):=by
 obtain e:(HL b (pre++cT es n::post)).objs[b.objs.size+pre.length]?=some (cT es n):=by simp[HL,Array.getElem?_append]
 unfold Heap.get?;rw[e]
set_option tactic.hygienic true in
theorem wZ(b:Heap)(pre post:List Obj)(o:Obj)(f:Obj→Obj):(HL b (pre++o::post)).update (b.objs.size+pre.length) f=HL b (pre++f o::post):=by
 obtain⟨os,lf⟩:=b;simp only[HL,Heap.update,Heap.mk.injEq,and_true];apply Array.ext
 ·simp
 ·intro i h1 h2;simp only[Array.getElem_modify,Array.getElem_append,List.getElem_toArray];by_cases hi:i<os.size
  ·have :os.size+pre.length≠i:=by exact Mine.aQ (nat_lit 0x90961021821101102) Mine.ae hi
   simp[hi,this]
  ·simp only[hi,dif_neg,not_false_eq_true];by_cases he:os.size+pre.length=i
   ·subst he;simp
   ·refine(if_neg he).trans ?_;obtain h3:i-os.size≠pre.length:=by lia
    simp only[List.getElem_append,List.getElem_append];split
    ·rfl
    ·rename_i h4;simp only[List.getElem_cons,h3];split
     ·lia
     ·rfl
section
variable{w:World}{t:Nat}{os:OsState}{b:Heap}{pre post:List Obj}{es:Array DictEntry}{n:Nat}
def lP(es:Array DictEntry)(i:Int):Prop:=∀(j:Nat) (e:DictEntry),es[j]?=some e→e.hash≠i
theorem qR{es:Array DictEntry}{i:Int}(hn:lP es i):placesWithHash es.size (fun j=>es[j]?.map DictEntry.hash) i=[]:=by unfold placesWithHash;rw[List.filter_eq_nil_iff];intro j _;simp only[beq_iff_eq,Option.map_eq_some_iff,not_exists,not_and];exact fun e he=>hn j e he
abbrev eU(b:Heap)(l:List Obj)(t:Nat)(os:OsState):Shared:=sh (HL b l) t os
theorem Go.dictEntries{part:Option Value}:Go w 1 (eU b (pre++cT es n::post) t os) (dictEntries (b.objs.size+pre.length) part) (eU b (pre++cT es n::post) t os) es:=by exact(Go.bind (Go.loadPart (jI ..)) Go.pure':Go w (1+0) _ (PySem.loadPart _ _>>=fun o=>match o.data with |.dict es _=>Pure.pure es|_=>unsupported "internal:not-a-dict") _ _)
theorem Go.dictFind{i:Int}{k:Nat}(hn:lP es i):Go w 1 (eU b (pre++cT es n::post) t os) (dictFind (b.objs.size+pre.length) (.int i k) i) (eU b (pre++cT es n::post) t os) none:=by refine Go.holding ?_;refine(Go.bind Go.dictEntries ?_:Go w (1+0) _ _ _ _);refine(qR hn)▸?_;exact Go.pure'
theorem Go.lQ{part:Option Value}{f:Array DictEntry→Array DictEntry}(hb:Nat.ble 11 (b.objs.size+pre.length)=true)(hz:(f es).size≤sizeLine):
  Go w 3 (eU b (pre++cT es n::post) t os) (updateDictKeys (b.objs.size+pre.length) f part) (eU b (pre++cT (f es) (n+1)::post) t os) ():=by
 refine(Go.bind (Go.loadPart (jI ..)) ?_:Go w (1+2) _ _ _ _);refine(Go.bind (Go.updatePart (jI ..) hb) ?_:Go w (1+1) _ _ _ _);rw[wZ];refine(Go.bind (Go.loadPart (jI ..)) ?_:Go w (1+0) _ _ _ _);have :(Obj.mapDictKeys f (cT es n)).data.pastItsLine=none:=by exact if_neg (Mine.aA (nat_lit 0x909610191811100102) Mine.ae hz)
 have e:(cT (f es) (n+1)).data.pastItsLine=none:=this;refine e▸?_;exact Go.pure'
theorem Go.dictSet{i:Int}{k:Nat}{v:Value}(hi:hashInt i=i)(hr:rawHash i=i)(hn:lP es i)(hb:Nat.ble 11 (b.objs.size+pre.length)=true)(hz:es.size<sizeLine):
  Go w 10 (eU b (pre++cT es n::post) t os) (dictSet (b.objs.size+pre.length) (.int i k) v) (eU b (pre++cT (es.push ⟨i,.int i k,v⟩) (n+1)::post) (t+1) os) ():=by
 refine Go.holding ?_;refine(Go.bind (Go.hash hi hr) ?_:Go w (5+5) _ _ _ _);refine Go.holding ?_;refine(Go.bind (Go.dictFind hn) ?_:Go w (1+4) _ _ _ _);refine(Go.bind Go.rule ?_:Go w (1+3) _ _ _ _);exact Go.lQ hb (by rw[Array.size_push];assumption)
theorem Go.dictPut{i:Int}{k:Nat}{v:Value}(hn:lP es i)(hb:Nat.ble 11 (b.objs.size+pre.length)=true)(hz:es.size<sizeLine):
  Go w 4 (eU b (pre++cT es n::post) t os) (dictPut (b.objs.size+pre.length) i (.int i k) v) (eU b (pre++cT (es.push ⟨i,.int i k,v⟩) (n+1)::post) t os) ():=by
 refine(Go.bind (Go.dictFind hn) ?_:Go w (1+3) _ _ _ _);exact Go.lQ hb (by rw[Array.size_push];assumption)
end
abbrev E3:=Int×Str
noncomputable def ent(T:Nat)(e:E3):DictEntry:=⟨e.1,.int e.1 T,.str e.2 (T+1)⟩
noncomputable def ents(st:Nat):Nat→List E3→List DictEntry|aM,[]=>[]|T,e::r=>ent T e::ents st (T+st) r
theorem fE(st:Nat):∀(T:Nat) (R:List E3),(ents st T R).length=R.length|aM,[]=>rfl|T,e::r=>by simp[ents,fE st (T+st) r]
theorem dY(st:Nat):∀(T:Nat) (R:List E3),(ents st T R).map DictEntry.hash=R.map (·.1)|aM,[]=>rfl|T,e::r=>by simp[ents,dY st (T+st) r,ent]
theorem gH(st:Nat):∀(T:Nat) (R R':List E3),ents st T (R++R')=ents st T R++ents st (T+st* R.length) R'|aM,[],bL=>by rfl|T,e::r,R'=>by simp only[List.cons_append,ents,gH st (T+st) r R',List.length_cons];rw[show T+st+st* r.length=T+st* (r.length+1) by rw[Nat.mul_add];exact Mine.aQ (nat_lit 0x11b2808210882510) Mine.ae]
def BW(e:E3):Prop:=hashInt e.1=e.1∧rawHash e.1=e.1
theorem jJ{es:List DictEntry}{i:Int}(h:i∉es.map DictEntry.hash):lP es.toArray i:=fun j e he q=>h (Mine.yQ ⟨e,List.mem_of_getElem? (by simpa using he),q⟩)
noncomputable abbrev nT(p:Pos)(e:E3):Sem Value×Sem Value:=(mkInt e.1,do let x←mkText e.2;standAt p;Pure.pure x)
section
variable{w:World}{os:OsState}{b:Heap}{pre post:List Obj}{p:Pos}
abbrev bZ(es:List DictEntry):Obj:=cT es.toArray es.length
theorem Go.mkInt{h:Heap}{t:Nat}{i:Int}:Go w 1 (sh h t os) (PySem.mkInt i) (sh h (t+1) os) (.int i t):=by exact Go.bind (n:=1) (m:=0) Go.fresh Go.pure'
theorem Go.mkText{h:Heap}{t:Nat}{x:Str}:Go w 1 (sh h t os) (PySem.mkText x) (sh h (t+1) os) (.str x t):=by unfold PySem.mkText;exact Go.bind (n:=1) (m:=0) Go.fresh Go.pure'
theorem Go.SA{h:Heap}{t:Nat}{e:E3}:Go w 2 (sh h t os) (nT p e).2 (sh h (t+1) os) (.str e.2 t):=by refine Go.bind (n:=1) (m:=1) Go.mkText ?_;exact Go.bind (n:=1) (m:=0) Go.standAt Go.pure'
theorem Go.tQ{α:Type}{s:Shared}{f:α→PUnit→Sem (ForInStep PUnit)}:Go w 0 s (forIn [] PUnit.unit f) s PUnit.unit:=by exact Go.pure'
theorem Go.pL{α:Type}{s s' JG:Shared}{n m:Nat}{x:α}{l:List α}{f:α→PUnit→Sem (ForInStep PUnit)}(h:Go w n s (f x PUnit.unit) s' (.yield PUnit.unit))(k:Go w m s' (forIn l PUnit.unit f) JG PUnit.unit):
  Go w (n+m) s (forIn (x::l) PUnit.unit f) JG PUnit.unit:=by
 rw[List.forIn_cons];exact Go.bind h k
theorem Go.qS{d:Addr}(Gf:d=b.objs.size+pre.length)(f:Sem Value×Sem Value→PUnit→Sem (ForInStep PUnit))
  (hf:∀kv u,f kv u=(do let k←kv.1;let v←PySem.holding [k] kv.2;PySem.holding [k,v] (PySem.dictSet d k v);Pure.pure (.yield PUnit.unit)))(hb:Nat.ble 11 d=true):
  ∀(R:List E3) (es:List DictEntry) (T:Nat),(∀e∈R,BW e)→(es.map DictEntry.hash++R.map (·.1)).Nodup→es.length+R.length<sizeLine→Go w (13* R.length) (eU b (pre++bZ es::post) T os) (forIn (R.map (nT p)) PUnit.unit f) (eU b (pre++bZ (es++ents 3 T R)::post) (T+3* R.length) os) PUnit.unit
 |[],es,T,aM,bL,gn=>by simp only[List.map_nil,ents,List.append_nil,List.length_nil,Nat.mul_zero,Nat.add_zero];exact Go.tQ|e::R,es,T,f6,iA,hsz=>by
  subst Gf;obtain hn:e.1∉es.map DictEntry.hash:=by exact fun q=>(Mine.jE iA).2.2 _ q _ List.mem_cons_self rfl
  obtain ih:=Go.qS rfl f hf hb R (es++[ent T e]) (T+3) (fun x hx=>f6 x (List.mem_cons_of_mem _ hx)) (by simpa [ent] using iA) (by simp only[List.length_append,List.length_cons,List.length_nil] at hsz⊢;exact Mine.aQ (nat_lit 0x21190980881121918081101) Mine.ae hsz);obtain one:Go w 13 (eU b (pre++bZ es::post) T os) (f (nT p e) PUnit.unit) (eU b (pre++bZ (es++[ent T e])::post) (T+3) os) (.yield PUnit.unit):=by
   rw[hf];refine Go.bind (n:=1) (m:=12) Go.mkInt ?_;refine Go.bind (n:=2) (m:=10) (Go.holding Go.SA) ?_;refine Go.bind (n:=10) (m:=0) (Go.holding (Go.dictSet (f6 e List.mem_cons_self).1 (f6 e List.mem_cons_self).2 (jJ hn) hb (by simp only[List.size_toArray,List.length_cons] at hsz⊢;exact Mine.aQ (nat_lit 0x201121918081101) Mine.ae hsz))) ?_;obtain q:cT (es.toArray.push ⟨e.1,.int e.1 T,.str e.2 (T+1)⟩) (es.length+1)=bZ (es++[ent T e]):=by simp[bZ,ent]
   rw[q];exact Go.pure'
  obtain this:=Go.pL one ih
  rw[show 13+13* R.length=13* (e::R).length by simp only[List.length_cons];exact Mine.aJ (nat_lit 0x1908da0dad982510) Mine.ae,show T+3+3* R.length=T+3* (e::R).length by simp only[List.length_cons];exact Mine.aA (nat_lit 0x19183a0813a390882510) Mine.ae,
   show es++[ent T e]++ents 3 (T+3) R=es++ents 3 T (e::R) by simp[ents]] at this
  exact this
theorem Go.vD{l:List Obj}{T:Nat}{R:List E3}(hlen:15<R.length)(f6:∀e∈R,BW e)(iA:(R.map (·.1)).Nodup)(hsz:R.length<sizeLine)(hb:Nat.ble 11 (b.objs.size+l.length)=true):
  Go w (2+13* R.length) (eU b l T os) (subDict (R.map (nT p))) (eU b (l++[bZ (ents 3 T R)]) (T+3* R.length) os) (b.objs.size+l.length):=by
 obtain ha:=Go.alloc (w:=w) (h:=HL b l) (t:=T) (os:=os) (o:={cls:=.type "dict",data:=.dict #[]});rw[vB,vC] at ha;refine(Go.bind ha ?_:Go w (1+(1+13* R.length)) _ _ _ _).cast (Mine.aJ (nat_lit 0xda2980da1981982510) Mine.ae);refine Go.bind (n:=1+13* R.length) (m:=0) (a:=()) (Go.holding ?_) Go.pure';rw[if_neg (by rw[List.length_map];exact Mine.aJ (nat_lit 0x90961f90010f91102) Mine.ae hlen)];refine Go.bind (n:=1) (m:=13* R.length) Go.rule ?_;refine Go.bind (n:=13* R.length) (m:=0) (a:=PUnit.unit) ?_ Go.pure';obtain this:=Go.qS (w:=w) (os:=os) (b:=b) (pre:=l) (post:=[]) (p:=p) rfl _ (fun c c=>rfl) hb R [] T f6 (by exact iA) (by simp_all);exact this
end
section
variable{w:World}{os:OsState}{b:Heap}{pre post:List Obj}{p:Pos}
theorem Go.evalPairs:∀(R:List E3) (h:Heap) (T:Nat),Go w (3* R.length) (sh h T os) (PySem.evalPairs (R.map (nT p))) (sh h (T+2* R.length) os) ((ents 2 T R).map fun e=>(e.key,e.val))|[],h,T=>by exact Go.pure'|e::R,h,T=>by obtain ih:=Go.evalPairs R h (T+2);obtain ih:=(show T+2+2* R.length=T+2* (e::R).length by simp only[List.length_cons];exact Mine.aA (nat_lit 0x19182a0812a290882510) Mine.ae)▸ih;refine(Go.bind (n:=1) (m:=2+3* R.length) Go.mkInt ?_).cast (by simp only[List.length_cons];exact Mine.aJ (nat_lit 0x19083a03a2981982510) Mine.ae);refine Go.bind (n:=2) (m:=3* R.length) (Go.holding Go.SA) ?_;refine Go.bind (n:=3* R.length) (m:=0) (Go.holding ih) ?_;exact Go.pure'
theorem Go.oE{d:Addr}(Gf:d=b.objs.size+pre.length)(f:Value×Value→PUnit→Sem (ForInStep PUnit))
  (hf:∀kv u,f kv u=(do PySem.dictSet d kv.1 kv.2;Pure.pure (.yield PUnit.unit)))(hb:Nat.ble 11 d=true):
  ∀(R:List E3) (es:List DictEntry) (T T':Nat),(∀e∈R,BW e)→(es.map DictEntry.hash++R.map (·.1)).Nodup→es.length+R.length<sizeLine→Go w (10* R.length) (eU b (pre++bZ es::post) T os) (forIn ((ents 2 T' R).map fun e=>(e.key,e.val)) PUnit.unit f) (eU b (pre++bZ (es++ents 2 T' R)::post) (T+R.length) os) PUnit.unit
 |[],es,T,T',aM,bL,gn=>by simp only[List.map_nil,ents,List.append_nil,List.length_nil,Nat.mul_zero,Nat.add_zero];exact Go.tQ|e::R,es,T,T',f6,iA,hsz=>by
  subst Gf;obtain hn:e.1∉es.map DictEntry.hash:=by exact fun q=>(Mine.jE iA).2.2 _ q _ List.mem_cons_self rfl
  obtain ih:=Go.oE rfl f hf hb R (es++[ent T' e]) (T+1) (T'+2) (fun x hx=>f6 x (List.mem_cons_of_mem _ hx)) (by simpa [ent] using iA) (by simp only[List.length_append,List.length_cons,List.length_nil] at hsz⊢;exact Mine.aQ (nat_lit 0x21190980881121918081101) Mine.ae hsz);obtain one:Go w 10 (eU b (pre++bZ es::post) T os) (f (.int e.1 T',.str e.2 (T'+1)) PUnit.unit) (eU b (pre++bZ (es++[ent T' e])::post) (T+1) os) (.yield PUnit.unit):=by
   rw[hf];refine Go.bind (n:=10) (m:=0) (Go.dictSet (f6 e List.mem_cons_self).1 (f6 e List.mem_cons_self).2 (jJ hn) hb (by simp only[List.size_toArray,List.length_cons] at hsz⊢;exact Mine.aQ (nat_lit 0x201121918081101) Mine.ae hsz)) ?_;obtain q:cT (es.toArray.push ⟨e.1,.int e.1 T',.str e.2 (T'+1)⟩) (es.length+1)=bZ (es++[ent T' e]):=by simp[bZ,ent]
   rw[q];exact Go.pure'
  obtain this:=Go.pL one ih
  rw[show 10+10* R.length=10* (e::R).length by simp only[List.length_cons];exact Mine.aJ (nat_lit 0x1908aa0aaa982510) Mine.ae,show T+1+R.length=T+(e::R).length by simp only[List.length_cons];exact Mine.aA (nat_lit 0x1918081190882510) Mine.ae,
   show es++[ent T' e]++ents 2 (T'+2) R=es++ents 2 T' (e::R) by simp[ents]] at this
  exact this
theorem Go.y9{l:List Obj}{T:Nat}{R:List E3}(hlen:R.length≤15)(f6:∀e∈R,BW e)(iA:(R.map (·.1)).Nodup)(hb:Nat.ble 11 (b.objs.size+l.length)=true):
  Go w (1+13* R.length) (eU b l T os) (subDict (R.map (nT p))) (eU b (l++[bZ (ents 2 T R)]) (T+3* R.length) os) (b.objs.size+l.length):=by
 have ha:=Go.alloc (w:=w) (h:=HL b l) (t:=T) (os:=os) (o:={cls:=.type "dict",data:=.dict #[]});rw[vB,vC] at ha;refine(Go.bind (n:=1) (m:=13* R.length) ha ?_);rw[show 13* R.length=(3* R.length+10* R.length)+0 by exact Mine.aJ (nat_lit 0x90aa03a880da2510) Mine.ae];refine Go.bind (n:=3* R.length+10* R.length) (m:=0) (a:=()) (Go.holding ?_) Go.pure';rw[if_pos (by rw[List.length_map];omega)];refine Go.bind (n:=3* R.length) (m:=10* R.length) (Go.evalPairs R _ _) (Go.holding ?_);refine Go.bind (n:=10* R.length) (m:=0) (a:=PUnit.unit) ?_ Go.pure';obtain this:=Go.oE (w:=w) (os:=os) (b:=b) (pre:=l) (post:=[]) rfl _ (fun c c=>rfl) hb R [] (T+2* R.length) T f6 (by exact iA) (by simp only[List.length_nil];unfold sizeLine;exact Mine.aJ (nat_lit 0x10000007f009811f900101) Mine.ae hlen);simp only[show T+2* R.length+R.length=T+3* R.length by exact Mine.aA (nat_lit 0x13a08112a0882510) Mine.ae] at this;exact this
theorem Go.oF{d a:Addr}{subs:List Obj}{ss:List DictEntry}(hd:d=b.objs.size+0)(ha:a=b.objs.size+(subs.length+1))(hb:Nat.ble 11 d=true){T:Nat}
  (f:Nat→PUnit→Sem (ForInStep PUnit))
  (hf:∀(m:List DictEntry) (i:Nat) (e:DictEntry),ss[i]?=some e→e.hash∉m.map DictEntry.hash→(∃i k,e.key=.int i k∧e.hash=i)→m.length<sizeLine→Go w 6 (eU b (bZ m::(subs++[bZ ss])) T os) (f i PUnit.unit) (eU b (bZ (m++[e])::(subs++[bZ ss])) T os) (.yield PUnit.unit)):
  ∀(n i:Nat) (m:List DictEntry),i+n=ss.length→(∀e∈ss,∃i k,e.key=.int i k∧e.hash=i)→(m.map DictEntry.hash++(ss.drop i).map DictEntry.hash).Nodup→m.length+n<sizeLine→Go w (6* n) (eU b (bZ m::(subs++[bZ ss])) T os) (forIn (List.range' i n) PUnit.unit f) (eU b (bZ (m++ss.drop i)::(subs++[bZ ss])) T os) PUnit.unit
 |0,i,m,hi,aM,bL,gn=>by rw[List.drop_eq_nil_of_le (by exact Mine.aA (nat_lit 17665352020225) Mine.ae hi),List.append_nil];exact Go.tQ|n+1,i,m,hi,hk,iA,hsz=>by
  obtain bT:i<ss.length:=by exact Mine.aQ (nat_lit 0x201121918082101) Mine.ae hi
  obtain hg:ss[i]?=some ss[i]:=List.getElem?_eq_getElem bT;rw[List.drop_eq_getElem_cons bT,List.map_cons] at iA;obtain h1:ss[i].hash∉m.map DictEntry.hash:=fun q=>(Mine.jE iA).2.2 _ q _ List.mem_cons_self rfl
  obtain ih:=Go.oF hd ha hb f hf n (i+1) (m++[ss[i]]) (Mine.aQ (nat_lit 0x21190882521918082511) Mine.ae hi) hk (by simp_all) (by simp only[List.length_append,List.length_cons,List.length_nil];exact Mine.aQ (nat_lit 0x21190980881121918081101) Mine.ae hsz);obtain this:=Go.pL (hf m i _ hg h1 (hk _ (List.getElem_mem bT)) (Mine.aQ (nat_lit 0x201121918081101) Mine.ae hsz)) ih;rw[show 6+6* n=6* (n+1) by exact Mine.aJ (nat_lit 0x19086a06a6982510) Mine.ae] at this;rw[List.range'_succ];simpa using this
end
section
variable{w:World}{os:OsState}{b:Heap}{p:Pos}
theorem Go.dictEpoch{h:Heap}{t:Nat}{d:Addr}{part:Option Value}{es:Array DictEntry}{n:Nat}(ho:h.get? d=some (cT es n)):Go w 1 (sh h t os) (dictEpoch d part) (sh h t os) n:=by exact Go.bind (n:=1) (m:=0) (Go.loadPart ho) Go.pure'
theorem Go.fg{h:Heap}{t:Nat}{d:Addr}{part:Option Value}{es:Array DictEntry}{n:Nat}(ho:h.get? d=some (cT es n)):Go w 1 (sh h t os) (PySem.dictEntries d part) (sh h t os) es:=by exact Go.bind (n:=1) (m:=0) (Go.loadPart ho) Go.pure'
theorem Go.merge{subs:List Obj}{m ss:List DictEntry}{T:Nat}(hb:Nat.ble 11 b.objs.size=true)(hm:m≠[])(hk:∀e∈ss,∃i k,e.key=.int i k∧e.hash=i)(iA:(m.map DictEntry.hash++ss.map DictEntry.hash).Nodup)
  (hsz:m.length+ss.length<sizeLine):
  Go w (5+6* ss.length) (eU b (bZ m::(subs++[bZ ss])) T os) (mergeMapping b.objs.size (.ref (b.objs.size+(subs.length+1))) false) (eU b (bZ (m++ss)::(subs++[bZ ss])) T os) ():=by
 have hA:∀m',(HL b (bZ m'::(subs++[bZ ss]))).get? (b.objs.size+(subs.length+1))=some (bZ ss):=fun m'=>jI b (bZ m'::subs) [] ss.toArray ss.length
 obtain hM:∀m',(HL b (bZ m'::(subs++[bZ ss]))).get? b.objs.size=some (bZ m'):=fun m'=>jI b [] (subs++[bZ ss]) m'.toArray m'.length
 obtain h1:¬(b.objs.size+(subs.length+1)==sysModules)=true:=by obtain this:=Nat.le_of_ble_eq_true hb;simp only[sysModules,beq_iff_eq];exact Mine.aA (nat_lit 0x9096119191808210b90102) Mine.ae this
 obtain hI:Go w 1 (eU b (bZ m::(subs++[bZ ss])) T os) (isInstance (.ref (b.objs.size+(subs.length+1))) (.type "dict")) (eU b (bZ m::(subs++[bZ ss])) T os) true:=by unfold isInstance typeOf isSubtype;refine Go.bind (n:=1) (m:=0) (a:=.type "dict") (Go.bind (n:=1) (m:=0) (Go.loadPart (hA m)) Go.pure') ?_;exact Go.bind (n:=0) (m:=0) Go.pure' Go.pure'
 have hS:Go w 1 (eU b (bZ m::(subs++[bZ ss])) T os) (specialOf (.ref (b.objs.size+(subs.length+1))) "__iter__") (eU b (bZ m::(subs++[bZ ss])) T os) (some (.builtin "dict.__iter__")):=by refine Go.bind (n:=1) (m:=0) (a:=.type "dict") (Go.bind (n:=1) (m:=0) (Go.loadPart (hA m)) Go.pure') ?_;exact Go.pure'
 refine(Go.bind (n:=1) (m:=4+6* ss.length) (a:=true) hI ?_).cast (by exact Mine.aJ (nat_lit 0x6a59806a4981982510) Mine.ae);refine(Go.bind (n:=1) (m:=3+6* ss.length) hS ?_).cast (by exact Mine.aJ (nat_lit 0x6a49806a3981982510) Mine.ae);rw[show(some (Value.builtin "dict.__iter__")==some (Value.builtin "dict.__iter__"))=true by kernel_rfl];refine(Go.bind (n:=0) (m:=3+6* ss.length) Go.pure' ?_).cast (by exact Mine.aJ (nat_lit 0x6a39806a3980982510) Mine.ae);dsimp only;rw[if_neg h1];refine(Go.bind (n:=1) (m:=2+6* ss.length) (Go.fg (hM m)) ?_).cast (by exact Mine.aJ (nat_lit 0x6a39806a2981982510) Mine.ae);have h2:¬(m.toArray.isEmpty=true):=by simpa using hm
 rw[if_neg h2];refine(Go.bind (n:=1) (m:=1+6* ss.length) (Go.fg (hA m)) ?_).cast (by exact Mine.aJ (nat_lit 0x6a29806a1981982510) Mine.ae);refine(Go.bind (n:=1) (m:=6* ss.length) (Go.dictEpoch (hA m)) ?_).cast (by exact Mine.aJ (nat_lit 0x6a19806a1982510) Mine.ae);refine(Go.bind (n:=6* ss.length) (m:=0) (a:=PUnit.unit) ?_ Go.pure').cast (by exact Mine.aJ (nat_lit 0x6a0906a82510) Mine.ae);rw[List.range_eq_range',List.size_toArray,show m++ss=m++ss.drop 0 by simp];refine Go.oF (w:=w) (os:=os) (b:=b) (subs:=subs) (ss:=ss) (d:=b.objs.size) (a:=b.objs.size+(subs.length+1)) rfl rfl hb (T:=T) _ (fun m' i e he hn gz hs=>?_) ss.length 0 m (Mine.aJ (nat_lit 9970960) Mine.ae) hk (by simpa using iA) hsz;have hh:ss.toArray[i]?=some e:=by simpa using he
 refine(Go.bind (n:=1) (m:=5) (Go.fg (hA m')) ?_);rw[hh];obtain⟨ki,kt,h3,h4⟩:=gz;refine(Go.bind (n:=4) (m:=1) (a:=()) (s':=eU b (bZ (m'++[e])::(subs++[bZ ss])) T os) (Go.holding ?_) ?_)
 ·rw[if_neg Bool.false_ne_true,h3,h4];have :=Go.dictPut (w:=w) (t:=T) (os:=os) (b:=b) (pre:=[]) (post:=subs++[bZ ss]) (es:=m'.toArray) (n:=m'.length) (i:=ki) (k:=kt) (v:=e.val) (jJ (by rw[←h4];exact hn)) hb (by simpa using hs);have q:cT (m'.toArray.push ⟨ki,.int ki kt,e.val⟩) (m'.length+1)=bZ (m'++[e]):=by obtain⟨hh,ke,va⟩:=e;dsimp only at h3 h4;subst h3 h4;simp[bZ]
  rw[q] at this;exact this
 ·refine(Go.bind (n:=1) (m:=0) (Go.dictEpoch (hA _)) ?_);rw[if_neg (by simp)];exact Go.pure'
end
abbrev RS:=Option Addr×List (Sem Value×Sem Value)
abbrev w4(p:Pos)(e:E3):Option (Sem Value)×Sem Value:=(some (nT p e).1,(nT p e).2)
noncomputable def gI(run:List (Sem Value×Sem Value))(main:Option Addr):Sem (Option Addr):=
 if run.isEmpty=true then Pure.pure main
 else match main with
  |none=>do
   let a←subDict run
   Pure.pure (some a)
  |some d=>do
   let sub←PySem.holding [Value.ref d] (subDict run)
   (PySem.holding [Value.ref d,Value.ref sub] (mergeMapping d (Value.ref sub) false)).onRaise fun(x:Value)=>do
     let _←PySem.holding [Value.ref d,x] (runValue (Code.builtin "proto.let_go" {}))
     Pure.pure ()
   Pure.pure (some d)
noncomputable def subsOf:Nat→Nat→List E3→List Obj|0,aM,bL=>[]|j+1,T,L=>bZ (ents 3 T (L.take 17))::subsOf j (T+51) (L.drop 17)
section
variable{w:World}{os:OsState}{b:Heap}{p:Pos}{f:(Option (Sem Value)×Sem Value)→RS→Sem (ForInStep RS)}
def vE(p:Pos)(f:(Option (Sem Value)×Sem Value)→RS→Sem (ForInStep RS)):Prop:=∀e m r,f (w4 p e) (m,r)=if((r++[nT p e]).length==17)=true then(gI (r++[nT p e]) m>>=fun m'=>Pure.pure (.yield (m',[]))) else Pure.pure (.yield (m,r++[nT p e]))
theorem lR(hf:vE p f):∀(X:List E3) (r:List (Sem Value×Sem Value)) (m:Option Addr) (rest:List (Option (Sem Value)×Sem Value)),r.length+X.length<17→
  forIn (X.map (w4 p)++rest) (m,r) f=forIn rest (m,r++X.map (nT p)) f
 |[],r,m,rest,aM=>by simp |e::X,r,m,rest,h=>by rw[List.map_cons,List.cons_append,List.forIn_cons,hf,if_neg (by simp only[List.length_append,List.length_cons,List.length_nil,beq_iff_eq] at h⊢;exact Mine.aA (nat_lit 0x9096111e19098083111e1918081102) Mine.ae h),pure_bind];simp only;rw[lR hf X (r++[nT p e]) m rest (by simp only[List.length_append,List.length_cons,List.length_nil] at h⊢;exact Mine.aA (nat_lit 0x11e1190980881111e1918081101) Mine.ae h)];simp
theorem lT(hf:vE p f)(X:List E3)(m:Option Addr)(rest:List (Option (Sem Value)×Sem Value))(h:X.length=17):
  forIn (X.map (w4 p)++rest) (m,[]) f=gI (X.map (nT p)) m>>=fun m'=>forIn rest (m',[]) f:=by
 obtain⟨X',e,rfl⟩:∃X' e,X=X'++[e]:=⟨X.dropLast,X.getLast (by intro q;subst q;exact nomatch h),(List.dropLast_concat_getLast _).symm⟩;obtain h':X'.length=16:=by simpa using h
 rw[List.map_append,List.append_assoc,lR hf X' [] m _ (by simp only[List.length_nil];exact Mine.aJ (nat_lit 0x11e00981110e02101) Mine.ae h')];simp only[List.map_cons,List.map_nil,List.cons_append,List.nil_append];rw[List.forIn_cons,hf,if_pos (by simp_all)];simp only[bind_assoc,pure_bind,List.map_append,List.map_cons,List.map_nil]
theorem lU(st:Nat):∀(T:Nat) (R:List E3),∀e∈ents st T R,∃i k,e.key=.int i k∧e.hash=i
|aM,[],bL,h=>by cases h
|T,x::r,e,h=>by
 rcases Mine.bz h with rfl|h
 ·exact⟨_,_,rfl,rfl⟩
 ·exact lU st (T+st) r e h
theorem Go.flush{m:List DictEntry}{subs:List Obj}{T:Nat}{X:List E3}{se:List DictEntry}{n:Nat}(hb:Nat.ble 11 b.objs.size=true)(hX:X≠[])(hm:m≠[])
  (Gg:Go w n (eU b (bZ m::subs) T os) (subDict (X.map (nT p))) (eU b (bZ m::subs++[bZ se]) (T+3* X.length) os) (b.objs.size+(bZ m::subs).length))
  (SD:se.map DictEntry.hash=X.map (·.1))(hk:∀e∈se,∃i k,e.key=.int i k∧e.hash=i)(iA:(m.map DictEntry.hash++X.map (·.1)).Nodup)(hsz:m.length+X.length<sizeLine):
  Go w (n+(5+6* X.length)) (eU b (bZ m::subs) T os) (gI (X.map (nT p)) (some b.objs.size)) (eU b (bZ (m++se)::(subs++[bZ se])) (T+3* X.length) os) (some b.objs.size):=by
 obtain hl:se.length=X.length:=by obtain this:=congrArg List.length SD;simpa using this
 unfold gI;rw[if_neg (by simpa using hX)];refine Go.bind (Go.holding Gg) ?_;refine Go.bind (n:=5+6* X.length) (m:=0) (a:=()) (Go.onRaise (Go.holding ?_)) Go.pure';refine hl▸?_;exact Go.merge hb hm hk (by exact SD▸(iA)) (by refine hl▸?_;exact hsz)
theorem qT{a n:Nat}(h:Nat.ble 11 a=true):Nat.ble 11 (a+n)=true:=Nat.ble_eq_true_of_le (Nat.le_trans (Nat.le_of_ble_eq_true h) (Nat.le_add_right _ _))
theorem Go.Cm{m:List DictEntry}{subs:List Obj}{T:Nat}{X:List E3}(hb:Nat.ble 11 b.objs.size=true)(hX:X.length=17)(hm:m≠[])(f6:∀e∈X,BW e)(iA:(m.map DictEntry.hash++X.map (·.1)).Nodup)(hsz:m.length+X.length<sizeLine):
  Go w 330 (eU b (bZ m::subs) T os) (gI (X.map (nT p)) (some b.objs.size)) (eU b (bZ (m++ents 3 T X)::(subs++[bZ (ents 3 T X)])) (T+51) os) (some b.objs.size):=by
 obtain hs:=Go.vD (w:=w) (os:=os) (b:=b) (p:=p) (l:=bZ m::subs) (T:=T) (R:=X) (Mine.aJ (nat_lit 0xf91111e03101) Mine.ae hX) f6 (Mine.jE iA).2.1 (Mine.aQ (nat_lit 36357452337409) Mine.ae hsz) (qT hb);obtain this:=Go.flush (m:=m) (subs:=subs) (X:=X) hb (by intro q;rw[q] at hX;exact nomatch hX) hm hs (dY ..) (lU _ _ _) iA hsz;obtain this:=hX▸this;exact this
theorem Go.w5{m:List DictEntry}{subs:List Obj}{T:Nat}{X:List E3}(hb:Nat.ble 11 b.objs.size=true)(hX:X.length≤15)(Ut:X≠[])(hm:m≠[])(f6:∀e∈X,BW e)(iA:(m.map DictEntry.hash++X.map (·.1)).Nodup)(hsz:m.length+X.length<sizeLine):
  Go w (1+13* X.length+(5+6* X.length)) (eU b (bZ m::subs) T os) (gI (X.map (nT p)) (some b.objs.size)) (eU b (bZ (m++ents 2 T X)::(subs++[bZ (ents 2 T X)])) (T+3* X.length) os) (some b.objs.size):=by
 obtain hs:=Go.y9 (w:=w) (os:=os) (b:=b) (p:=p) (l:=bZ m::subs) (T:=T) (R:=X) hX f6 (Mine.jE iA).2.1 (qT hb);exact Go.flush (m:=m) (subs:=subs) (X:=X) hb Ut hm hs (dY ..) (lU _ _ _) iA hsz
theorem Go.y_(hf:vE p f)(hb:Nat.ble 11 b.objs.size=true):∀(j:Nat) (L:List E3) (m:List DictEntry) (subs:List Obj) (T:Nat),17* j≤L.length→L.length-17* j<17→m≠[]→(∀e∈L,BW e)→(m.map DictEntry.hash++L.map (·.1)).Nodup→m.length+L.length<sizeLine→
  Go w (330* j) (eU b (bZ m::subs) T os) (forIn (L.map (w4 p)) (some b.objs.size,[]) f) (eU b (bZ (m++ents 3 T (L.take (17* j)))::(subs++subsOf j T L)) (T+51* j) os) (some b.objs.size,(L.drop (17* j)).map (nT p))
 |0,L,m,subs,T,aM,h2,bL,gn,tR,E8=>by obtain this:=lR hf L [] (some b.objs.size) [] (by simp only[List.length_nil];exact Mine.aA (nat_lit 0x11e10981111e011090110a0810102) Mine.ae (Mine.Ln.aY (L.length) (17* 0)) h2);rw[List.append_nil] at this;simp only[this];simp only[List.forIn_nil,Nat.mul_zero,List.take_zero,ents,List.append_nil,subsOf,Nat.add_zero,List.drop_zero,List.nil_append];exact Go.pure'
 |j+1,L,m,subs,T,h1,h2,hm,f6,iA,hsz=>by
  have tS:(L.take 17).length=17:=by rw[List.length_take];omega
  obtain eL:L.map (w4 p)=(L.take 17).map (w4 p)++(L.drop 17).map (w4 p):=by rw[←List.map_append,List.take_append_drop]
  have eN:m.map DictEntry.hash++L.map (·.1)=(m.map DictEntry.hash++(L.take 17).map (·.1))++(L.drop 17).map (·.1):=by rw[List.append_assoc,←List.map_append,List.take_append_drop]
  rw[eN] at iA;obtain Uu:=Go.Cm (w:=w) (os:=os) (p:=p) (b:=b) (m:=m) (subs:=subs) (T:=T) hb tS hm (fun e he=>f6 e (List.mem_of_mem_take he)) (Mine.jE iA).1 (Mine.vj (nat_lit 0x301811219480110a0132181111e02103) Mine.ae tS hsz h1)
  obtain ih:=Go.y_ hf hb j (L.drop 17) (m++ents 3 T (L.take 17)) (subs++[bZ (ents 3 T (L.take 17))]) (T+51) (by rw[List.length_drop];exact Mine.aQ (nat_lit 0x200110a0111e28101119080110a0102) Mine.ae h1 (Mine.Ln.aY (L.length) (17))) (by rw[List.length_drop];exact Mine.vj (nat_lit 0x11e11111e01119380110a08201211e4821430110a182104) Mine.ae (Nat.sub_add_cancel (Mine.aQ (nat_lit 0x200110a0111e28101119080110a0102) Mine.ae h1 (Mine.Ln.aY (L.length) (17)):17* j≤L.length-17)) (Nat.sub_add_cancel (Mine.aA (nat_lit 0x111e01119080110a0101) Mine.ae h1:17≤L.length)) (Mine.Ln.aY (L.length) (17* (j+1))) h2) (by simp[hm]) (fun e he=>f6 e (List.mem_of_mem_drop he))
   (by rw[List.map_append,dY];exact iA) (by rw[List.length_append,fE,tS,List.length_drop];exact Mine.eO (nat_lit 0x2311e08811111e382121081102) Mine.ae hsz (Nat.sub_add_cancel (Mine.aA (nat_lit 0x111e01119080110a0101) Mine.ae h1:17≤L.length)))
  rw[eL,lT hf _ _ _ tS];obtain this:=Go.bind (f:=fun m'=>forIn ((L.drop 17).map (w4 p)) (m',[]) f) Uu ih;rw[show 330+330* j=330* (j+1) by exact Mine.aJ (nat_lit 0x190814a0a014a0a14a3f82510) Mine.ae,show T+51+51* j=T+51* (j+1) by exact Mine.aA (nat_lit 0x19180330a0810330a33e0882510) Mine.ae,List.drop_drop,show 17+17* j=17* (j+1) by exact Mine.aJ (nat_lit 0x19080110a00110a11e82510) Mine.ae] at this;obtain e1:m++ents 3 T (L.take 17)++ents 3 (T+51) ((L.drop 17).take (17* j))=m++ents 3 T (L.take (17* (j+1))):=by rw[List.append_assoc,show 17* (j+1)=17+17* j by exact Mine.aJ (nat_lit 0x110a11e819080110a2510) Mine.ae,List.take_add,gH,tS]
  rw[e1] at this;simpa [subsOf] using this
end
section
variable{w:World}{os:OsState}{b:Heap}{p:Pos}
theorem Go.display{j:Nat}{L:List E3}{T:Nat}(hb:Nat.ble 11 b.objs.size=true)(h1:17* (j+1)<L.length)(h2:L.length-17* (j+1)≤15)(f6:∀e∈L,BW e)(iA:(L.map (·.1)).Nodup)(hsz:L.length<sizeLine):
  Go w (223+330* j+(6+19* (L.length-17* (j+1)))) (sh b T os) (dictDisplay (L.map (w4 p)))
   (sh (HL b (bZ (ents 3 T (L.take (17* (j+1)))++ents 2 (T+51* (j+1)) (L.drop (17* (j+1))))::(subsOf j (T+51) (L.drop 17)++[bZ (ents 2 (T+51* (j+1)) (L.drop (17* (j+1))))]))) (T+3* L.length) os) (.ref b.objs.size):=by
 have tS:(L.take 17).length=17:=by rw[List.length_take];omega
 have eD:(L.drop (17* (j+1))).length=L.length-17* (j+1):=by rw[List.length_drop]
 obtain eL:L.map (w4 p)=(L.take 17).map (w4 p)++(L.drop 17).map (w4 p):=by rw[←List.map_append,List.take_append_drop]
 obtain eN:L.map (·.1)=(L.take 17).map (·.1)++(L.drop 17).map (·.1):=by rw[←List.map_append,List.take_append_drop]
 obtain hs:=Go.vD (w:=w) (os:=os) (b:=b) (p:=p) (l:=[]) (T:=T) (R:=L.take 17) (Mine.aJ (nat_lit 0xf91111e03101) Mine.ae tS) (fun e he=>f6 e (List.mem_of_mem_take he)) (by rw[eN] at iA;exact(Mine.jE iA).1) (Mine.eO (nat_lit 0x2011119380110a11211111e02103) Mine.ae tS hsz h1) hb;rw[tS] at hs;unfold eU at hs;obtain Uv:Go w 223 (sh b T os) (gI ((L.take 17).map (nT p)) none) (sh (HL b [bZ (ents 3 T (L.take 17))]) (T+51) os) (some b.objs.size):=by unfold gI;rw[if_neg (by rw[List.isEmpty_iff,List.map_eq_nil_iff];intro q;rw[q] at tS;exact nomatch tS)];exact Go.bind (n:=223) (m:=0) hs Go.pure'
 have Uw:((L.take 17).map (·.1)++(L.drop 17).map (·.1)).Nodup:=by rw[←eN];exact iA
 refine Go.bind (n:=223+330* j) (m:=6+19* (L.length-17* (j+1))) (a:=(some b.objs.size,(L.drop (17* (j+1))).map (nT p))) (s':=sh (HL b (bZ (ents 3 T (L.take (17* (j+1))))::subsOf j (T+51) (L.drop 17))) (T+51* (j+1)) os) ?_ ?_
 ·rw[eL,lT (p:=p) (by intro e m r;rfl) _ _ _ tS];refine Go.bind (n:=223) (m:=330* j) Uv ?_
  have hc:=fun f (hf:vE p f)=>Go.y_ (w:=w) (os:=os) (p:=p) (b:=b) (f:=f) hf hb j (L.drop 17) (ents 3 T (L.take 17)) [] (T+51) (by rw[List.length_drop];exact Mine.aQ (nat_lit 0x200110a0111e28101119080110a1102) Mine.ae h1 (Mine.Ln.aY (L.length) (17))) (by rw[List.length_drop];exact Mine.vj (nat_lit 0x11e111f900119380110a08201211e4821430110a182104) Mine.ae (Nat.sub_add_cancel (Mine.aQ (nat_lit 0x200110a0111e28101119080110a1102) Mine.ae h1 (Mine.Ln.aY (L.length) (17)):17* j≤L.length-17)) (Nat.sub_add_cancel (Mine.aA (nat_lit 0x111e01119080110a1101) Mine.ae h1:17≤L.length)) (Mine.Ln.aY (L.length) (17* (j+1))) h2)
   (by intro q;have :=congrArg List.length q;rw[fE,tS] at this;exact nomatch this) (fun e he=>f6 e (List.mem_of_mem_drop he)) (by rw[dY];exact Uw) (by rw[fE,tS,List.length_drop];exact Mine.aQ (nat_lit 0x1211e8111011011e282102) Mine.ae (Nat.sub_add_cancel (Mine.aA (nat_lit 0x111e01119080110a1101) Mine.ae h1:17≤L.length)) hsz)
  have e1:ents 3 T (L.take 17)++ents 3 (T+51) ((L.drop 17).take (17* j))=ents 3 T (L.take (17* (j+1))):=by rw[show 17* (j+1)=17+17* j by exact Mine.aJ (nat_lit 0x110a11e819080110a2510) Mine.ae,List.take_add,gH,tS]
  rw[e1,List.drop_drop,show 17+17* j=17* (j+1) by exact Mine.aJ (nat_lit 0x19080110a00110a11e82510) Mine.ae,show T+51+51* j=T+51* (j+1) by exact Mine.aA (nat_lit 0x19180330a0810330a33e0882510) Mine.ae,List.nil_append] at hc;exact hc _ (by intro e m r;rfl)
 ·have cI:L.drop (17* (j+1))≠[]:=by intro q;rw[q] at eD;simp only[List.length_nil] at eD;exact Mine.aQ (nat_lit 0x9096119180110a08201219180110a110093103) Mine.ae eD h1 (Mine.Ln.aY (L.length) (17* (j+1)))
  have eT:(L.take (17* (j+1))).length=17* (j+1):=by rw[List.length_take];omega
  obtain hl:=Go.w5 (w:=w) (os:=os) (p:=p) (b:=b) (m:=ents 3 T (L.take (17* (j+1)))) (subs:=subsOf j (T+51) (L.drop 17)) (T:=T+51* (j+1)) (X:=L.drop (17* (j+1))) hb (Mine.aA (nat_lit 0xf9001f9101102102) Mine.ae eD h2) cI
   (by intro q;have :=congrArg List.length q;rw[fE,eT] at this;simp only[List.length_nil] at this;exact Mine.aJ (nat_lit 0x909610919080110a2101) Mine.ae this) (fun e he=>f6 e (List.mem_of_mem_drop he))
   (by rw[dY,←List.map_append,List.take_append_drop];exact iA) (by rw[fE,eT,eD];exact Mine.eO (nat_lit 0x1319280110a8111011019280110a382102) Mine.ae (Nat.sub_add_cancel (Mine.aA (nat_lit 0x119080110a01119080110a1101) Mine.ae h1:17* (j+1)≤L.length)) hsz)
  rw[eD,show T+51* (j+1)+3* (L.length-17* (j+1))=T+3* L.length by exact Mine.eO (nat_lit 0x33a0823a19180330a0882519180110a2830c319180110a282312) Mine.ae (Nat.sub_add_cancel (Mine.aA (nat_lit 0x119080110a01119080110a1101) Mine.ae h1:17* (j+1)≤L.length)) (Mine.Ln.aY (L.length) (17* (j+1)))] at hl;rw[show 6+19* (L.length-17* (j+1))=1+13* (L.length-17* (j+1))+(5+6* (L.length-17* (j+1)))+0 by exact Mine.aJ (nat_lit 0x906a5980da1988800130a6982510) Mine.ae];exact Go.bind hl Go.pure'
end
theorem tT(b:Heap)(l:List Obj){i:Nat}{o:Obj}(h:b.get? i=some o):(HL b l).get? i=some o:=by
 obtain hi:i<b.objs.size:=by
  unfold Heap.get? at h;by_cases q:i<b.objs.size
  ·exact q
  ·rw[Array.getElem?_eq_none (by simp_all)] at h;exact nomatch h
 obtain e:(HL b l).objs[i]?=b.objs[i]?:=by simp[HL,Array.getElem?_append,hi]
 unfold Heap.get? at h⊢;refine e▸?_;exact h
theorem Go.tU{w:World}{h:Heap}{t:Nat}{os:OsState}{part:Option Value}{f:Obj→Obj}{o:Obj}(ho:h.get? mainNs=some o):
  Go w 1 (sh h t os) (PySem.updatePart mainNs part f) (sh (h.update mainNs f) t os) ():=fun p=>⟨p,fun K H gd lv N=>by
 rw[Nat.add_comm];show(match step (denote treeTable) pw w (sh h t os) ⟨.update mainNs part f (fun x=>Sem.wrap K H gd lv (.pure x)),c0,p,B0⟩ with |.go s' t'=>go w N s' t'|.halt _ _=>none)=_;simp only[step,ho,Option.isSome_some,if_true];rfl⟩
theorem Go.w6{w:World}{h:Heap}{t:Nat}{os:OsState}{x:Str}{v:Value}{o:Obj}{es:Array DictEntry}{m:Nat}(ho:h.get? mainNs=some o)(hd:o.data=.dict es m)(hr:aRefKeyMayBeTheName x es=false):
  Go w 4 (sh h t os) (nsSet mainNs x v) (sh (h.update mainNs (Obj.putName x (PyData.keyHash w.params x) (.str x t) v)) (t+1) os) ():=by
 refine Go.bind (n:=1) (m:=3) (a:=PyData.keyHash w.params x) (s':=sh h t os) (Go.bind (n:=1) (m:=0) Go.ask ?_) ?_
 ·exact Go.pure'
 ·refine Go.bind (n:=1) (m:=2) Go.mkText ?_;refine Go.bind (n:=1) (m:=1) (Go.loadPart ho) ?_;refine hd▸?_;dsimp only;refine hr▸?_;exact Go.tU ho
noncomputable def SE(e:Expr):Const:=by induction e using Expr.casesOn with |Constant c _ _=>exact c|_=>exact .none
def Ux(a:Option Expr)(b:Expr):Option E3:=match (a.map SE).getD .none with
|.int i=>match SE b with |.str x=>some (i,x)|_=>none
|_=>none
noncomputable def Uy(s:Stmt):Expr:=by induction s using Stmt.casesOn with |Assign _ v _=>exact v|_=>exact .Constant .none 0 default
def Uz(e:Expr):List E3:=by induction e using Expr.casesOn with |Dict a b _=>exact(List.zipWith Ux a b).filterMap id|_=>exact []
def eI:List E3:=Uz (Uy (st 3))
def UA(k:Nat):Obj:=bZ (ents 3 (256+51* k) ((eI.drop (17* k)).take 17))
def qs(x:String)(t:Nat):Value:=.str (S x) t
noncomputable def qr(a:Nat):Value:=.ref a
noncomputable def qi(n:Nat):Value:=.int n 0
def qk(P:Params)(x:String)(t:Nat)(v:Value):DictEntry:=⟨PyData.keyHash P (S x),.str (S x) t,v⟩
noncomputable def qd(l:List DictEntry)(n:Nat):Obj:={cls:=.type "dict",dict:=none,data:=.dict l.toArray n,slots:=#[]}
noncomputable def qt(l:Array Value):Obj:={cls:=.type "tuple",dict:=none,data:=.seq l 0,slots:=#[]}
noncomputable def qg(c:Value)(l:Array Value):Obj:={cls:=c,dict:=none,data:=.fields l,slots:=#[]}
def qf(c:Value)(q:Stmt)(n m:String)(b:Nat)(doc md cd:Value):Obj:={cls:=c,dict:=none,data:=(.func {name:=S n,qualname:=S m,params:=fP q,body:=.stmts (fB q),scope:=fS q,globals:=b,closure:=[],defaults:=.none,kwdefaults:=.none,doc:=doc,pyModule:=md,annotations:=none,code:=cd,closureTuple:=.none,builtins:=0}),slots:=#[]}
noncomputable def qh(P:Params)(l:List Obj):Heap:=⟨l.toArray,(boot_heap P).life⟩
def e3(P:Params):List DictEntry:=[qk P "__name__" 165 (qs "law_xb0034_03" 2357),qk P "__doc__" 166 .none,qk P "__package__" 167 .none,qk P "__loader__" 168 (.builtin "__main__.__loader__#opaque"),qk P "__spec__" 169 .none,qk P "__annotations__" 170 (qr 6),qk P "__builtins__" 171 (qr 4),qk P "__file__" 173 (qs "/claim/cut.py" 172),qk P "__cached__" 174 .none,qk P "b1_set" 248 (qr 22),qk P "in_table_b1" 255 (qr 32),qk P "b3_exceptions" 2206 (qr 33),qk P "map_table_b3" 2214 (qr 78),qk P "_netrclex" 2274 (qr 116),qk P "TupleComp" 2318 (qr 144),qk P "add_func_stats" 2336 (qr 155),qk P "add_callers" 2347 (qr 162),qk P "count_calls" 2356 (qr 169),qk P "_law_cells" 2368 (qr 176),qk P "_law_word" 2374 (qr 181),qk P "_law_written" 2389 (qr 188),qk P "_law_lexer" 2402 (qr 195),qk P "_law_tells" 2408 (qr 200),qk P "_law_book" 2421 (qr 207),qk P "_law_due" 2427 (qr 212),qk P "_law_told" 2433 (qr 217),qk P "_law_crossed" 2439 (qr 222),qk P "_law_number" 2449 (qr 229),qk P "law" 2455 (qr 234)]
noncomputable def vF(P:Params):Obj:={cls:=(.type "set"),dict:=none,data:=(.set #[(65024,(.int 65024 205)),(65025,(.int 65025 206)),(65026,(.int 65026 207)),(65027,(.int 65027 208)),(65028,(.int 65028 209)),(65029,(.int 65029 210)),(6150,(.int 6150 191)),(65030,(.int 65030 211)),(65031,(.int 65031 212)),(65032,(.int 65032 213)),(65033,(.int 65033 214)),(6155,(.int 6155 192)),(6156,(.int 6156 193)),(6157,(.int 6157 194)),(8203,(.int 8203 195)),(8204,(.int 8204 196)),(8205,(.int 8205 197)),(65034,(.int 65034 215)),(65035,(.int 65035 216)),(65036,(.int 65036 217)),(65037,(.int 65037 218)),(65038,(.int 65038 219)),(65039,(.int 65039 220)),(173,(.int 173 189)),(847,(.int 847 190)),(8288,(.int 8288 198)),(65279,(.int 65279 199))] 29 {mask:=127,place:=#[0,1,2,3,4,5,6,7,8,9,10,11,12,13,14,15,16,17,18,19,20,21,22,45,79,96,127],dummies:=#[],finger:=0,led:=!P.followText "set-order",moves:=2,plain:=true}),slots:=#[]}
def za(P:Params):Obj:=bZ (ents 3 256 (eI.take 646)++ents 2 2194 (eI.drop 646))
def zd(P:Params):Obj:={cls:=(.type "type"),dict:=none,data:=(.cls {name:=(S "_netrclex"),bases:=[.type "object"],mro:=[qr 116,.type "object"],ns:=115,qualname:=(S "_netrclex"),hasDict:=true,slotNames:=[],subclasses:=[],abstract:=false,collection:=none,hasDel:=false}),slots:=#[none,none,some (qs "_netrclex" 2217),some (qs "_netrclex" 2225),some (.builtin "object.__new__"),some (.bool true)]}
def ze(P:Params):Obj:={cls:=(.type "type"),dict:=none,data:=(.cls {name:=(S "TupleComp"),bases:=[.type "object"],mro:=[qr 144,.type "object"],ns:=143,qualname:=(S "TupleComp"),hasDict:=true,slotNames:=[],subclasses:=[],abstract:=false,collection:=none,hasDel:=false}),slots:=#[none,none,some (qs "TupleComp" 2277),some (qs "TupleComp" 2285),some (.builtin "object.__new__"),some (.bool true)]}
def m0:Value:=qs "cpy313.stringprep" 187
def m1:Value:=qs "cpy313.netrc" 2215
def m2:Value:=qs "cpy313.pstats" 2275
def m3:Value:=qs "law_xb0034_03" 2357
noncomputable def qz:Nat→List String→List Value|aM,[]=>[]|t,x::r=>qs x t::qz (t+1) r
def qc(n m:String)(l a t u b:Nat)(x y z:Value):Obj:=qg (.type "code") #[qs n t,qs m (t+1),qs "/claim/cut.py" (t+2),qi l,qi a,qi 0,qi 0,qi 3,qr b,.bool true,qi 181,qr (b+1),.none,x,y,z,qi u,qi l,qs "/claim/cut.py" (u+1)]
def fo(q:Stmt)(n m:String)(l a t:Nat)(v:Value)(b:Nat)(x y:List String):List Obj:=[qt #[],qg .none #[],qt (qz (t+3) x).toArray,qt (qz (t+3+x.length) y).toArray,qf .none q n m 0 .none .none .none,qc n m l a t (t+3+x.length+y.length) b (qr (b+2)) (qr (b+3)) (qr (b+4)),qf (.type "function") q n m 3 .none v (qr (b+5))]
def fp(q:Stmt)(n m:String)(l a t:Nat)(v:Value)(b:Nat):List Obj:=[qt #[],qg .none #[],qf .none q n m 0 .none .none .none,qc n m l a t (t+3) b .none .none (qr (b+2)),qf (.type "function") q n m 3 .none v (qr (b+3))]
def n3(P:Params)(v:Value)(n:Nat):Obj:=qd (qk P "__name__" 165 v::((e3 P).take n).tail) n
def OL(n:Nat):Obj:=qg .none ((([(3,31),(6,77),(12,84),(56,126),(70,154),(74,161),(87,168),(93,175),(97,180),(105,187),(113,194),(121,199),(125,206),(132,211),(136,216),(146,221),(149,228),(154,233)].take n).map fun p=>[qi p.1,qi 0,qr p.2]).flatten).toArray
def aO(P:Params):List Obj:=[boot_o_0 P,boot_o_1 P,boot_o_2 P,n3 P m3 29,boot_o_4 P,boot_o_5 P,boot_o_6 P,boot_o_7 P,boot_o_8 P,boot_o_9 P,boot_o_10 P,qt #[],OL 18,qg (.type "code") #[qs "<module>" 182,qs "<module>" 183,qs "/claim/cut.py" 184,qi 1,qi 0,qi 0,qi 0,qi 0,qr 11,.bool false,qi 181,qr 12,.none,.none,.none,.none,qi 185,qi 1,qs "/claim/cut.py" 186],{cls:=(.type "frame"),dict:=none,data:=.plain,slots:=#[some (qr 13),some (qr 3),some (qr 3),none,some (qs "__main__" 164),none,some (qr 0)]},{cls:=(.type "list"),dict:=none,data:=(.seq #[.int 173 189,.int 847 190,.int 6150 191,.int 6155 192,.int 6156 193,.int 6157 194,.int 8203 195,.int 8204 196,.int 8205 197,.int 8288 198,.int 65279 199] 0),slots:=#[]},qg (.type "range") #[.int 65024 200,.int 65040 201,.int 1 202],{cls:=(.type "list"),dict:=none,data:=(.seq #[.int 65024 205,.int 65025 206,.int 65026 207,.int 65027 208,.int 65028 209,.int 65029 210,.int 65030 211,.int 65031 212,.int 65032 213,.int 65033 214,.int 65034 215,.int 65035 216,.int 65036 217,.int 65037 218,.int 65038 219,.int 65039 220] 18),slots:=#[]},qg (.type "range_iterator") #[qi 65040,qi 0,qi 1],qt #[],qg (.type "StopIteration") #[qr 19,.none,.none,.none,.bool false,.none],{cls:=(.type "list"),dict:=none,data:=(.seq #[.int 173 189,.int 847 190,.int 6150 191,.int 6155 192,.int 6156 193,.int 6157 194,.int 8203 195,.int 8204 196,.int 8205 197,.int 8288 198,.int 65279 199,.int 65024 205,.int 65025 206,.int 65026 207,.int 65027 208,.int 65028 209,.int 65029 210,.int 65030 211,.int 65031 212,.int 65032 213,.int 65033 214,.int 65034 215,.int 65035 216,.int 65036 217,.int 65037 218,.int 65038 219,.int 65039 220] 0),slots:=#[]},vF P,qg (.type "list_iterator") #[.none,qi 27],qt #[],qg (.type "StopIteration") #[qr 24,.none,.none,.none,.bool false,.none]]++(fo (st 2) "in_table_b1" "in_table_b1" 3 1 249 m0 26 ["code"] []++([za P]++(((List.range 37).map fun k=>UA (k+1))++([bZ (ents 2 2194 (eI.drop 646))]++(fo (st 4) "map_table_b3" "map_table_b3" 6 1 2207 m0 72 ["code","r"] []++([qt #[],qg (.type "builtin_function_or_method") #[.builtin "type.__prepare__",.type "type"],qd [qk P "__module__" 2224 (qs "cpy313.netrc" 2215),qk P "__qualname__" 2226 (qs "_netrclex" 2225),qk P "__firstlineno__" 2228 (.int 12 2227),qk P "__init__" 2236 (qr 92),qk P "_read_char" 2244 (qr 99),qk P "get_token" 2254 (qr 106),qk P "push_token" 2262 (qr 113),qk P "__static_attributes__" 2267 (qr 114)] 8,qt #[],qg .none #[qi 14,qi 4,qr 91,qi 20,qi 4,qr 98,qi 26,qi 4,qr 105,qi 53,qi 4,qr 112],qg (.type "code") #[qs "_netrclex" 2219,qs "_netrclex" 2220,qs "/claim/cut.py" 2221,qi 12,qi 0,qi 0,qi 0,qi 0,qr 82,.bool false,qi 181,qr 83,.none,.none,.none,.none,qi 2222,qi 12,qs "/claim/cut.py" 2223],{cls:=(.type "frame"),dict:=none,data:=.plain,slots:=#[some (qr 84),some (qr 3),some (qr 81),none,some (qs "cpy313.netrc" 2215),none,some (qr 0)]}]++(fo (cst 6 0) "__init__" "_netrclex.__init__" 14 2 2229 m1 86 ["self","fp"] []++(fo (cst 6 1) "_read_char" "_netrclex._read_char" 20 1 2237 m1 93 ["self","ch"] []++(fo (cst 6 2) "get_token" "_netrclex.get_token" 26 1 2245 m1 100 ["self","token","fiter","ch"] []++(fo (cst 6 3) "push_token" "_netrclex.push_token" 53 2 2255 m1 107 ["self","token"] []++([qt #[qs "instream" 2263,qs "lineno" 2264,qs "pushback" 2265,qs "whitespace" 2266],qd [qk P "__module__" 2224 (qs "cpy313.netrc" 2215),qk P "__firstlineno__" 2228 (.int 12 2227),qk P "__init__" 2236 (qr 92),qk P "_read_char" 2244 (qr 99),qk P "get_token" 2254 (qr 106),qk P "push_token" 2262 (qr 113),qk P "__static_attributes__" 2267 (qr 114),qk P "__dict__" 2269 (qr 117),qk P "__weakref__" 2271 (qr 118),qk P "__doc__" 2272 .none] 4,zd P,qg (.type "getset_descriptor") #[qs "__dict__" 2268,qr 116,.builtin "function.__dict__",.builtin "function.__dict__#set"],qg (.type "getset_descriptor") #[qs "__weakref__" 2270,qr 116,.builtin "ExceptionGroup.__weakref__",.none],qg (.type "super") #[qr 116,qr 116,qr 116],qg (.type "builtin_function_or_method") #[.builtin "object.__init_subclass__",qr 116],qt #[],qg (.type "builtin_function_or_method") #[.builtin "type.__prepare__",.type "type"],qd [qk P "__module__" 2284 (qs "cpy313.pstats" 2275),qk P "__qualname__" 2286 (qs "TupleComp" 2285),qk P "__firstlineno__" 2288 (.int 56 2287),qk P "__init__" 2296 (qr 134),qk P "compare" 2309 (qr 141),qk P "__static_attributes__" 2311 (qr 142)] 6,qt #[],qg .none #[qi 58,qi 4,qr 133,qi 61,qi 4,qr 140],qg (.type "code") #[qs "TupleComp" 2279,qs "TupleComp" 2280,qs "/claim/cut.py" 2281,qi 56,qi 0,qi 0,qi 0,qi 0,qr 124,.bool false,qi 181,qr 125,.none,.none,.none,.none,qi 2282,qi 56,qs "/claim/cut.py" 2283],{cls:=(.type "frame"),dict:=none,data:=.plain,slots:=#[some (qr 126),some (qr 3),some (qr 123),none,some (qs "cpy313.pstats" 2275),none,some (qr 0)]}]++(fo (cst 8 0) "__init__" "TupleComp.__init__" 58 2 2289 m2 128 ["self","comp_select_list"] []++(fo (cst 8 1) "compare" "TupleComp.compare" 61 3 2297 m2 135 ["self","left","right","index","direction","l","r"] []++([qt #[qs "comp_select_list" 2310],qd [qk P "__module__" 2284 (qs "cpy313.pstats" 2275),qk P "__firstlineno__" 2288 (.int 56 2287),qk P "__init__" 2296 (qr 134),qk P "compare" 2309 (qr 141),qk P "__static_attributes__" 2311 (qr 142),qk P "__dict__" 2313 (qr 145),qk P "__weakref__" 2315 (qr 146),qk P "__doc__" 2316 .none] 4,ze P,qg (.type "getset_descriptor") #[qs "__dict__" 2312,qr 144,.builtin "function.__dict__",.builtin "function.__dict__#set"],qg (.type "getset_descriptor") #[qs "__weakref__" 2314,qr 144,.builtin "ExceptionGroup.__weakref__",.none],qg (.type "super") #[qr 144,qr 144,qr 144],qg (.type "builtin_function_or_method") #[.builtin "object.__init_subclass__",qr 144]]++(fo (st 9) "add_func_stats" "add_func_stats" 70 2 2319 m2 149 ["target","source","cc","nc","tt","ct","callers","t_cc","t_nc","t_tt","t_ct","t_callers"] []++(fo (st 10) "add_callers" "add_callers" 74 2 2337 m2 156 ["target","source","new_callers","func","caller"] []++(fo (st 11) "count_calls" "count_calls" 87 1 2348 m2 163 ["callers","nc","calls"] []++(fo (st 13) "_law_cells" "_law_cells" 93 2 2359 m3 170 ["script","cells","place","number"] []++(fp (st 14) "_law_word" "_law_word" 97 1 2369 m3 177++(fo (st 15) "_law_written" "_law_written" 105 3 2375 m3 182 ["raw","way","end","quoted","text","place","sign","hard","ends"] []++(fo (st 16) "_law_lexer" "_law_lexer" 113 2 2390 m3 189 ["text","count","tokens","stream","lexer","turn"] ["signs"]++(fp (st 17) "_law_tells" "_law_tells" 121 4 2403 m3 196++(fo (st 18) "_law_book" "_law_book" 125 1 2409 m3 201 ["runs","book","run","spent","place","sign","own"] []++(fp (st 19) "_law_due" "_law_due" 132 2 2422 m3 208++(fp (st 20) "_law_told" "_law_told" 136 3 2428 m3 213++(fp (st 21) "_law_crossed" "_law_crossed" 146 3 2434 m3 218++(fo (st 22) "_law_number" "_law_number" 149 2 2440 m3 223 ["run","line","number","sign"] []++(fp (st 23) "law" "law" 154 1 2450 m3 230))))))))))))))))))))))))))))
def hq(P:Params)(n:Nat)(v:Value)(j c:Nat):Heap:=qh P ((((aO P).take n).set 3 (n3 P v j)).set 12 (OL c))
def NL(P:Params):Heap:=qh P ((((aO P).take 15).set 3 (boot_o_3 P)).set 12 (OL 0))
def zf(P:Params):Heap:=hq P 15 m0 9 0
def Cn(P:Params):Heap:=hq P 26 m0 10 0
def E9(P:Params):Heap:=hq P 33 m0 11 1
def JH(P:Params):Heap:=hq P 72 m0 12 1
def SH(P:Params):Heap:=hq P 79 m0 13 2
def SI(P:Params):Heap:=hq P 79 m1 13 2
def SJ(P:Params):Heap:=hq P 121 m1 14 3
def SK(P:Params):Heap:=hq P 121 m2 14 3
def SM(P:Params):Heap:=hq P 149 m2 15 4
def JI(P:Params):Heap:=hq P 156 m2 16 5
def JJ(P:Params):Heap:=hq P 163 m2 17 6
def JK(P:Params):Heap:=hq P 170 m2 18 7
def JL(P:Params):Heap:=hq P 170 m3 18 7
def JM(P:Params):Heap:=hq P 177 m3 19 8
def JN(P:Params):Heap:=hq P 182 m3 20 9
def JO(P:Params):Heap:=hq P 189 m3 21 10
def JP(P:Params):Heap:=hq P 196 m3 22 11
def JQ(P:Params):Heap:=hq P 201 m3 23 12
def JR(P:Params):Heap:=hq P 208 m3 24 13
def JS(P:Params):Heap:=hq P 213 m3 25 14
def JT(P:Params):Heap:=hq P 218 m3 26 15
def JU(P:Params):Heap:=hq P 223 m3 27 16
def JV(P:Params):Heap:=hq P 230 m3 28 17
def lV(P:Params):Heap:=qh P ((aO P).take 235)
noncomputable abbrev vG:=@PySem.W.Fast.tw14374325043358763698
noncomputable abbrev zg:=PySem.W.Fast.tw14364793385576792824
noncomputable abbrev zh:=PySem.W.Fast.tw12563942051412417395
abbrev vH(l:List Stmt)(env:Env)(c:Code)(p:Pos)(B:List Frame):Thread:=⟨(zh l env).wrap doneF deadEnd id id,c,p,B⟩
abbrev seg(w:World)(n:Nat)(s:Shared)(i:Nat)(p:Pos):Option (Flow×Shared×Code×Pos):=segRun treeTable pw w 11 (some (.ref 6)) 1 n s (piecesOf [st i] kQ c0 p [topFrame ⟨0,0,0,0⟩])
abbrev w7(w:World)(n:Nat)(s:Shared)(i:Nat)(p:Pos):Option (Flow×Shared×Code×Pos):=vG zg pw w 11 (some (.ref 6)) 1 n s (vH [st i] kQ c0 p [topFrame ⟨0,0,0,0⟩])
abbrev Pc(n:Nat)(h k:Params→Heap)(t u i:Nat)(p q:Pos):Prop:=∀(w:World) (os:OsState),seg w n (sh (h w.params) t os) i p=some (.next,sh (k w.params) u os,c0,q)
theorem vI(w:World)(n:Nat)(s:Shared)(i:Nat)(p:Pos):seg w n s i p=w7 w n s i p:=by unfold seg w7;unfold vH piecesOf zh vG zg;rw[←PySem.W.Fast.te14374325043358763698,←PySem.W.Fast.te14364793385576792824,←PySem.W.Fast.te12563942051412417395]
theorem UB:Pc 10 NL zf 187 189 0 ⟨0,0,0,0⟩ ⟨1,0,1,8⟩:=fun w os=>by kernel_rfl
theorem JW(w:World)(os:OsState):w7 ((w.withFollow "special-get-raises" false).withFollow "set-order" false) 999 (sh (zf ((w.withFollow "special-get-raises" false).withFollow "set-order" false).params) 189 os) 1 ⟨1,0,1,8⟩=some (.next,sh (Cn ((w.withFollow "special-get-raises" false).withFollow "set-order" false).params) 249 os,c0,⟨2,0,2,6⟩):=by kernel_rfl
theorem JX(w:World)(os:OsState):w7 ((w.withFollow "special-get-raises" false).withFollow "set-order" true) 999 (sh (zf ((w.withFollow "special-get-raises" false).withFollow "set-order" true).params) 189 os) 1 ⟨1,0,1,8⟩=some (.next,sh (Cn ((w.withFollow "special-get-raises" false).withFollow "set-order" true).params) 249 os,c0,⟨2,0,2,6⟩):=by kernel_rfl
theorem JY(w:World)(os:OsState):w7 ((w.withFollow "special-get-raises" true).withFollow "set-order" false) 999 (sh (zf ((w.withFollow "special-get-raises" true).withFollow "set-order" false).params) 189 os) 1 ⟨1,0,1,8⟩=some (.next,sh (Cn ((w.withFollow "special-get-raises" true).withFollow "set-order" false).params) 249 os,c0,⟨2,0,2,6⟩):=by kernel_rfl
theorem JZ(w:World)(os:OsState):w7 ((w.withFollow "special-get-raises" true).withFollow "set-order" true) 999 (sh (zf ((w.withFollow "special-get-raises" true).withFollow "set-order" true).params) 189 os) 1 ⟨1,0,1,8⟩=some (.next,sh (Cn ((w.withFollow "special-get-raises" true).withFollow "set-order" true).params) 249 os,c0,⟨2,0,2,6⟩):=by kernel_rfl
theorem UC(w:World)(os:OsState):seg w 999 (sh (zf w.params) 189 os) 1 ⟨1,0,1,8⟩=some (.next,sh (Cn w.params) 249 os,c0,⟨2,0,2,6⟩):=by
 refine byRow2 (P:=fun w=>∀os:OsState,seg w 999 (sh (zf w.params) 189 os) 1 ⟨1,0,1,8⟩=some (.next,sh (Cn w.params) 249 os,c0,⟨2,0,2,6⟩)) "set-order" (fun w=>?_) (fun w=>?_) w os
 ·exact byRow2 (P:=fun w=>∀os:OsState,seg (w.withFollow "set-order" false) 999 (sh (zf (w.withFollow "set-order" false).params) 189 os) 1 ⟨1,0,1,8⟩=some (.next,sh (Cn (w.withFollow "set-order" false).params) 249 os,c0,⟨2,0,2,6⟩)) "special-get-raises" (fun w os=>(vI ..).trans (JW w os)) (fun w os=>(vI ..).trans (JY w os)) w
 ·exact byRow2 (P:=fun w=>∀os:OsState,seg (w.withFollow "set-order" true) 999 (sh (zf (w.withFollow "set-order" true).params) 189 os) 1 ⟨1,0,1,8⟩=some (.next,sh (Cn (w.withFollow "set-order" true).params) 249 os,c0,⟨2,0,2,6⟩)) "special-get-raises" (fun w os=>(vI ..).trans (JX w os)) (fun w os=>(vI ..).trans (JZ w os)) w
theorem UD:Pc 30 Cn E9 249 256 2 ⟨2,0,2,6⟩ ⟨3,0,4,30⟩:=fun w os=>by kernel_rfl
theorem J0:exec (st 3) kQ=(do
  standAt ⟨5,0,5,8704⟩
  let v←(do standAt ⟨5,16,5,8704⟩;dictDisplay (eI.map (w4 ⟨5,16,5,8704⟩)))
  assignStores kQ v none [assign (.Name (S "b3_exceptions") ⟨5,0,5,13⟩) kQ]):=by kernel_rfl
noncomputable def incr:List Int→Bool|a::b::r=>decide (a<b)&&incr (b::r)|_=>true
theorem vJ:∀(l:List Int) (a:Int),incr (a::l)=true→∀x∈l,a<x
|[],aM,bL,x,hx=>nomatch hx|b::l,a,h,x,hx=>by
 simp only[incr,Bool.and_eq_true,decide_eq_true_eq] at h;rcases Mine.bz hx with rfl|hx
 ·exact h.1
 ·exact Int.lt_trans h.1 (vJ l b h.2 x hx)
theorem lW:∀l:List Int,incr l=true→l.Nodup
|[],aM=>List.nodup_nil|a::l,h=>List.nodup_cons.mpr ⟨fun q=>absurd (vJ l a h a q) (Int.lt_irrefl a),lW l (by
  cases l with |nil=>rfl|cons b l=>simp only[incr,Bool.and_eq_true] at h;exact h.2)⟩
theorem Gh:∀e∈eI,BW e:=fun e he=>by
 obtain h:(eI.all fun e=>decide (hashInt e.1=e.1)&&decide (rawHash e.1=e.1))=true:=by kernel_rfl
 obtain this:=Mine.cO h e he;simp only[Bool.and_eq_true,decide_eq_true_eq] at this;exact this
theorem OM:(eI.map (·.1)).Nodup:=lW _ (by kernel_rfl)
theorem J1:eI.length=650:=by kernel_rfl
theorem UE(w:World)(os:OsState):∃p,seg w 12525 (sh (E9 w.params) 256 os) 3 ⟨3,0,4,30⟩=some (.next,sh (JH w.params) 2207 os,c0,p):=by
 have hL:=J1;have hg:Nat.ble 11 (E9 w.params).objs.size=true:=by kernel_rfl
 have hd:=Go.display (w:=w) (os:=os) (b:=E9 w.params) (p:=⟨5,16,5,8704⟩) (j:=38-1) (L:=eI) (T:=256) hg (by rw[hL];decide) (by rw[hL];decide) Gh OM (by rw[hL];decide);have hs:∀v,storeName kQ (S "b3_exceptions") v=nsSet mainNs (S "b3_exceptions") v:=fun v=>by kernel_rfl
 have ho:(E9 w.params).get? mainNs=some (n3 w.params m0 11):=by kernel_rfl
 have hx:∃es m,(n3 w.params m0 11).data=.dict es m∧aRefKeyMayBeTheName (S "b3_exceptions") es=false:=⟨_,_,rfl,by kernel_rfl⟩;obtain⟨es,m,UG,UH⟩:=hx;have UI:Go w 12524 (sh (E9 w.params) 256 os) (execs [st 3] kQ) (sh (JH w.params) 2207 os) .next:=by
  rw[execs_cons,J0];refine Go.bind (n:=12524) (m:=0) (a:=Flow.next) (s':=sh (JH w.params) 2207 os) ?_ (by show Go w 0 _ (execs [] kQ) _ _;exact Go.pure');refine Go.bind (n:=1) (m:=12524-1) Go.standAt ?_;refine Go.bind (n:=12524-8) (m:=7) (Go.bind (n:=1) (m:=12524-9) Go.standAt (hd.cast (by rw[hL]))) ?_;show Go w 7 _ (PySem.assign (.Name (S "b3_exceptions") ⟨5,0,5,13⟩) kQ _>>=fun c=>Pure.pure Flow.next) _ _;refine Go.bind (n:=7) (m:=0) (a:=()) ?_ Go.pure';show Go w 7 _ (standAt ⟨5,0,5,13⟩>>=fun c=>bindName kQ (S "b3_exceptions") _) _ _;refine Go.bind (n:=1) (m:=6) Go.standAt ?_;refine Go.bind (n:=1) (m:=5) (Go.holding Go.point) ?_;refine Go.bind (n:=4) (m:=1) (Go.w6 (tT _ _ ho) UG UH) ?_;rw[hL]
  have e:(HL (E9 w.params) (bZ (ents 3 256 (eI.take (17* (38-1+1)))++ents 2 (256+51* (38-1+1)) (eI.drop (17* (38-1+1))))::(subsOf (38-1) (256+51) (eI.drop 17)++[bZ (ents 2 (256+51* (38-1+1)) (eI.drop (17* (38-1+1))))]))).update mainNs
    (Obj.putName (S "b3_exceptions") (PyData.keyHash w.params (S "b3_exceptions")) (.str (S "b3_exceptions") (256+3* 650)) (.ref (E9 w.params).objs.size))=JH w.params:=by kernel_rfl
  rw[e];exact Go.point
 obtain⟨p',hp⟩:=UI ⟨3,0,4,30⟩;refine⟨p',?_⟩;obtain h0:=hp doneF deadEnd id id 0;exact seg_go (n:=12524) (N:=1) h0 rfl
theorem UJ(w:World)(os:OsState)(p:Pos):seg w 31 (sh (JH w.params) 2207 os) 4 p=some (.next,sh (SH w.params) 2215 os,c0,⟨6,0,10,23⟩):=by kernel_rfl
theorem UK:Pc 10 SH SI 2215 2217 5 ⟨6,0,10,23⟩ ⟨11,0,11,8⟩:=fun w os=>by kernel_rfl
theorem UL:Pc 324 SI SJ 2217 2275 6 ⟨11,0,11,8⟩ ⟨12,0,54,35⟩:=fun w os=>by kernel_rfl
theorem UM:Pc 10 SJ SK 2275 2277 7 ⟨12,0,54,35⟩ ⟨55,0,55,8⟩:=fun w os=>by kernel_rfl
theorem UN:Pc 260 SK SM 2277 2319 8 ⟨55,0,55,8⟩ ⟨56,0,69,16⟩:=fun w os=>by kernel_rfl
theorem ON:Pc 41 SM JI 2319 2337 9 ⟨56,0,69,16⟩ ⟨70,0,73,88⟩:=fun w os=>by kernel_rfl
theorem OO:Pc 34 JI JJ 2337 2348 10 ⟨70,0,73,88⟩ ⟨74,0,86,22⟩:=fun w os=>by kernel_rfl
theorem OP:Pc 32 JJ JK 2348 2357 11 ⟨74,0,86,22⟩ ⟨87,0,91,13⟩:=fun w os=>by kernel_rfl
theorem OQ:Pc 10 JK JL 2357 2359 12 ⟨87,0,91,13⟩ ⟨92,0,92,8⟩:=fun w os=>by kernel_rfl
theorem OR:Pc 33 JL JM 2359 2369 13 ⟨92,0,92,8⟩ ⟨93,0,96,16⟩:=fun w os=>by kernel_rfl
theorem OS:Pc 27 JM JN 2369 2375 14 ⟨93,0,96,16⟩ ⟨97,0,104,97⟩:=fun w os=>by kernel_rfl
theorem OT:Pc 38 JN JO 2375 2390 15 ⟨97,0,104,97⟩ ⟨105,0,112,53⟩:=fun w os=>by kernel_rfl
theorem OU:Pc 36 JO JP 2390 2403 16 ⟨105,0,112,53⟩ ⟨113,0,120,33⟩:=fun w os=>by kernel_rfl
theorem OV:Pc 27 JP JQ 2403 2409 17 ⟨113,0,120,33⟩ ⟨121,0,124,95⟩:=fun w os=>by kernel_rfl
theorem OW:Pc 36 JQ JR 2409 2422 18 ⟨121,0,124,95⟩ ⟨125,0,131,15⟩:=fun w os=>by kernel_rfl
theorem OX:Pc 27 JR JS 2422 2428 19 ⟨125,0,131,15⟩ ⟨132,0,135,133⟩:=fun w os=>by kernel_rfl
theorem OY:Pc 27 JS JT 2428 2434 20 ⟨132,0,135,133⟩ ⟨136,0,145,15⟩:=fun w os=>by kernel_rfl
theorem OZ:Pc 27 JT JU 2434 2440 21 ⟨136,0,145,15⟩ ⟨146,0,148,88⟩:=fun w os=>by kernel_rfl
theorem O0:Pc 33 JU JV 2440 2450 22 ⟨146,0,148,88⟩ ⟨149,0,153,17⟩:=fun w os=>by kernel_rfl
theorem O3:Pc 27 JV lV 2450 2456 23 ⟨149,0,153,17⟩ ⟨154,0,188,120⟩:=fun w os=>by kernel_rfl
def qv:Program:={pw with main:={pw.main with body:=[st 23]}}
def pM:List Str:=[S "b1_set",S "in_table_b1",S "b3_exceptions",S "map_table_b3",S "_netrclex",S "TupleComp",S "add_func_stats",S "add_callers",S "count_calls",S "_law_cells",S "_law_word",S "_law_written",S "_law_lexer",S "_law_tells",S "_law_book",S "_law_due",S "_law_told",S "_law_crossed",S "_law_number"]
theorem O4(w:World)(os:OsState):topGo treeTable pw w 11 (some (.ref 6)) 12 (sh (boot_heap w.params) boot_toks os) (topStub pw)=some (sh (NL w.params) 187 os,⟨denote treeTable c0,c0,⟨0,0,0,0⟩,[topFrame ⟨0,0,0,0⟩]⟩):=by kernel_rfl
theorem O5(w:World)(os:OsState):segRun treeTable pw w 11 (some (.ref 6)) 1 1 (sh (NL w.params) 187 os) (blockOf (behindTheImports pw) kQ c0 ⟨0,0,0,0⟩ [topFrame ⟨0,0,0,0⟩])=some (.next,sh (NL w.params) 187 os,c0,⟨0,0,0,0⟩):=by kernel_rfl
theorem O6(w:World)(os:OsState):topRun treeTable pw w 11 (some (.ref 6)) 2 (sh (lV w.params) 2456 os) ⟨doneF .next,c0,⟨154,0,188,120⟩,[topFrame ⟨0,0,0,0⟩]⟩=some (sh (lV w.params) 2456 os):=by kernel_rfl
theorem J2:behindTheImports pw=[st 0]++([st 1]++([st 2]++([st 3]++([st 4]++([st 5]++([st 6]++([st 7]++([st 8]++([st 9]++([st 10]++([st 11]++([st 12]++([st 13]++([st 14]++([st 15]++([st 16]++([st 17]++([st 18]++([st 19]++([st 20]++([st 21]++([st 22]++([st 23]++[]))))))))))))))))))))))):=by kernel_rfl
theorem O7(w:World)(os:OsState):topRun treeTable pw w 11 (some (.ref 6)) (12+(1+(10+(999+(30+(12525+(31+(10+(324+(10+(260+(41+(34+(32+(10+(33+(27+(38+(36+(27+(36+(27+(27+(27+(33+(27+2)))))))))))))))))))))))))) (sh (boot_heap w.params) boot_toks os) (topStub pw)=some (sh (lV w.params) 2456 os):=by obtain⟨p,hp⟩:=UE w os;refine go_top (O4 w os) (piece_block (O5 w os) ?_);rw[J2];exact piece_app (UB w os) (piece_app (UC w os) (piece_app (UD w os) (piece_app hp (piece_app (UJ w os p) (piece_app (UK w os) (piece_app (UL w os) (piece_app (UM w os) (piece_app (UN w os) (piece_app (ON w os) (piece_app (OO w os) (piece_app (OP w os) (piece_app (OQ w os) (piece_app (OR w os) (piece_app (OS w os) (piece_app (OT w os) (piece_app (OU w os) (piece_app (OV w os) (piece_app (OW w os) (piece_app (OX w os) (piece_app (OY w os) (piece_app (OZ w os) (piece_app (O0 w os) (piece_app (O3 w os) (piece_nil (O6 w os)))))))))))))))))))))))))
noncomputable def kA:List Addr:=[3,4,5,6,7,8,9,10,11,13,14,15,16,17,18,19,20,21,22,23,24,25,26,28,29,31,32,33,72,74,75,77,78,79,80,81,82,84,85,86,88,89,91,92,93,95,96,98,99,100,102,103,105,106,107,109,110,112,113,114,115,116,117,118,119,120,121,122,123,124,126,127,128,130,131,133,134,135,137,138,140,141,142,143,144,145,146,147,148,149,151,152,154,155,156,158,159,161,162,163,165,166,168,169,170,172,173,175,176,177,180,181,182,184,185,187,188,189,191,192,194,195,196,199,200,201,203,204,206,207,208,211,212,213,216,217,218,221,222,223,225,226,228,229,230,233,234]
def oA(P:Params)(n:Nat):Obj:=(aO P).getD n (qt #[])
def kF(P:Params):Frag:=kA.map fun a=>(a,oA P a)
noncomputable def kT:List Addr:=[27,73,87,94,101,108,129,136,150,157,164,171,178,183,190,197,202,209,214,219,224,231]
def hk:Hook:=kmHook kF kA (fun a=>rfl) kT
abbrev O8:Shared→Bool:=fun s=>xlAt qv [] s&&recOk [] s
theorem J3(w:World):((boot_heap w.params).isNs mainGlobals&&(#[]:Array GenState).size==0,(boot_heap w.params).objs.size,(boot_heap w.params).nsMap mainGlobals "__annotations__")=(true,11,some (.ref 6)):=by kernel_rfl
theorem UO(w:World)(os:OsState):(staticsOk (importedModules pw.main.body) (boot_heap w.params) (lV w.params)&&namesBound pw (lV w.params)&&gensDone (sh (lV w.params) 2456 os)&&laidKept (boot_heap w.params) (lV w.params))=true:=by kernel_rfl
theorem UP(w:World)(os:OsState):openSeen qv pM (importedModules pw.main.body) O8 true (sh (lV w.params) 2456 os)=openGood qv pM:=by kernel_rfl
theorem UQ(w:World)(os:OsState):hk.obs (sh (lV w.params) 2456 os)=hk.val w:=by kernel_rfl
theorem J4:LeftO pw qv pM O8 hk.obs hk.val 29338 true:=
 LeftO.of_pieces (H₀:=boot_heap) (H₁:=lV) (gs₀:=#[]) (gs₁:=#[]) (d₀:=boot_drawn) (d₁:=boot_drawn) (k₀:=boot_toks) (k₁:=2456) (m₀:=11) (ann:=some (.ref 6)) (M:=(12+(1+(10+(999+(30+(12525+(31+(10+(324+(10+(260+(41+(34+(32+(10+(33+(27+(38+(36+(27+(36+(27+(27+(27+(33+(27+2)))))))))))))))))))))))))))
  (boot_open rfl rfl (fun a=>rfl)) J3 O7 rfl (fun w=>funext fun os=>by rw[UO w os,UP w os,UQ w os])
end
end Hd
end
noncomputable section
open PySem PySem.W PySem.Builtin PySem.Builtin.Str PyProof.Rows
namespace Mine
noncomputable abbrev T(x:String):Str:=Str.ofString x
def dc(s:Stmt):yS:=⟨(cB (Hd.fP s)).getD [],Hd.fB s,Hd.fS s⟩
noncomputable def UR:List (Nat×Nat):=[(18,24),(75,18),(114,29),(114,41),(114,45),(126,11),(155,31)]
def US:List Str:=[T "signs",T "marks",T "cells",T "plain",T "keys",T "price",T "ranks",T "ahead",T "letters",T "tells"]
noncomputable def cz:List Int:=[173,847,6150,6155,6156,6157,8203,8204,8205,8288,65279,65024,65025,65026,65027,65028,65029,65030,65031,65032,65033,65034,65035,65036,65037,65038,65039]
def J5:List Str:=[T "lineno",T "instream",T "whitespace",T "pushback",T "comp_select_list"]
def zj:List (Str×V):=[(T "b1_set",.wY cz),(T "in_table_b1",.fn 32),(T "b3_exceptions",.tabI Hd.eI),(T "map_table_b3",.fn 78),(T "_netrclex",.cls 116),(T "TupleComp",.cls 144),(T "add_func_stats",.fn 155),(T "add_callers",.fn 162),(T "count_calls",.fn 169),(T "_law_cells",.fn 176),(T "_law_word",.fn 181),(T "_law_written",.fn 188),(T "_law_lexer",.fn 195),(T "_law_tells",.fn 200),(T "_law_book",.fn 207),(T "_law_due",.fn 212),(T "_law_told",.fn 217),(T "_law_crossed",.fn 222),(T "_law_number",.fn 229),(T "law",.fn 234)]
def SN:List (Nat×yS):=[(32,dc (Hd.st 2)),(78,dc (Hd.st 4)),(92,dc (Hd.cst 6 0)),(99,dc (Hd.cst 6 1)),(106,dc (Hd.cst 6 2)),(113,dc (Hd.cst 6 3)),(134,dc (Hd.cst 8 0)),(141,dc (Hd.cst 8 1)),(155,dc (Hd.st 9)),(162,dc (Hd.st 10)),(169,dc (Hd.st 11)),(176,dc (Hd.st 13)),(181,dc (Hd.st 14)),(188,dc (Hd.st 15)),(195,dc (Hd.st 16)),(200,dc (Hd.st 17)),(207,dc (Hd.st 18)),(212,dc (Hd.st 19)),(217,dc (Hd.st 20)),(222,dc (Hd.st 21)),(229,dc (Hd.st 22)),(234,dc (Hd.st 23))]
def Gi:List (Nat×Gb):=[(116,⟨[(T "__init__",92),(T "_read_char",99),(T "get_token",106),(T "push_token",113)],J5⟩),(144,⟨[(T "__init__",134),(T "compare",141)],J5⟩)]
def C4:Cx:=⟨zj,SN,Gi,fun q=>UR.contains (q.line,q.col),fun f=>[162,176,207].contains f,fun x=>US.contains x,100000⟩
def qU:List (Addr×Addr×Str):=[(31,27,T "in_table_b1"++".<locals>."),(77,73,T "map_table_b3"++".<locals>."),(91,87,T "_netrclex.__init__"++".<locals>."),(98,94,T "_netrclex._read_char"++".<locals>."),(105,101,T "_netrclex.get_token"++".<locals>."),(112,108,T "_netrclex.push_token"++".<locals>."),(133,129,T "TupleComp.__init__"++".<locals>."),(140,136,T "TupleComp.compare"++".<locals>."),(154,150,T "add_func_stats"++".<locals>."),(161,157,T "add_callers"++".<locals>."),(168,164,T "count_calls"++".<locals>."),(175,171,T "_law_cells"++".<locals>."),(180,178,T "_law_word"++".<locals>."),(187,183,T "_law_written"++".<locals>."),(194,190,T "_law_lexer"++".<locals>."),(199,197,T "_law_tells"++".<locals>."),(206,202,T "_law_book"++".<locals>."),(211,209,T "_law_due"++".<locals>."),(216,214,T "_law_told"++".<locals>."),(221,219,T "_law_crossed"++".<locals>."),(228,224,T "_law_number"++".<locals>."),(233,231,T "law"++".<locals>.")]
noncomputable abbrev kg:Program:=PySem.Challenge.rw_xb0034_03.row.prog
def Good(w:World):Prop:=∀{s:Shared} {p:Program} {loose:List Str} {qV:ExcName→Option Value} {mg mb:Str→Option Value} {fa a:Addr} {vs:List Value} {ns:List Int} {m:Nat} {E:Value→Shared→Prop} (X₀:(Hd.kF w.params).In s.heap) (TT:∀P∈Hd.kT,s.heap.get? P=some (tabObj #[])) (T:Top p loose qV mg mb s.heap)
  (hf:mg (Mine.T "law")=some (.ref fa)) (g:s.heap.get? a=some {cls:=.type "list",data:=.seq vs.toArray m}) (hI:IntsAre vs ns) (hl:ns.length<64),
wpAny (model kg w) callerA (PySem.call (.ref fa) [.ref a]) (fun v s'=>v=.bool true∧OldK s.heap s'.heap∧s'.os=s.os∧s'.gens=s.gens) E s
noncomputable def w0:World:=@Classical.epsilon World ⟨⟨fun a a=>0,⟨fun a=>0,id,id,fun a=>0,fun a a=>0,fun a=>true,fun a=>0,.refcount,.text,fun a=>0,fun a=>none,fun a=>false,fun a a a=>true,fun a a a=>true,true,fun a=>false,fun a=>none,fun a=>none,fun a a a=>0,fun a a=>none,fun a=>none,fun a=>(0,false,"UTC"),fun a=>none,id,fun a=>false⟩⟩⟩ fun w=>¬Good w
end Mine
end
noncomputable section
open PySem PySem.W PySem.Builtin PySem.Builtin.Str
namespace Mine
structure Gl where
 w:World
 prog:Program
 C:Cx
 fa:Nat→Addr
 ca:Nat→Addr
 w9:Addr
 Co:Addr
 cz:List Int
 qW:List (Int×Str)
 tabs:List (Addr×Addr×Str)
 SO:Nat→Str
 SP:Nat→Value
def G:Gl:=⟨w0,kg,C4,fun a=>a,fun a=>a,22,33,cz,Hd.eI,qU,fun b=>T "",fun b=>.none⟩
abbrev gM:Model:=model G.prog G.w
def Gl.eV(G:Gl)(a:Addr):Prop:=∃c q,(c,a,q)∈G.tabs
structure Wd where
 φ:Nat→Option Addr
 own:Addr→Option Nat
 Z:Addr→Option Obj
noncomputable abbrev gA(xs:Array Value)(n:Nat):Obj:={cls:=.type "list",data:=.seq xs n}
noncomputable abbrev nL(xs:Array Value)(n:Nat):Obj:={cls:=.type "tuple",data:=.seq xs n}
noncomputable abbrev cT(es:Array DictEntry)(n:Nat):Obj:={cls:=.type "dict",data:=.dict es n}
inductive O9(s:Str)(x:Value):Prop|mk(h:s.length<ak)(t:Tok)(e:x=.str s t)
inductive Cp(Z:Addr→Option Obj)(f:Array Value→Nat→Obj)(len:Nat)(R:List Value→Prop)(x:Value):Prop|mk(a:Addr)(n:Nat)(xs:Array Value)(h1:x=.ref a)(h2:Z a=some (f xs n))(h3:len<ak)(h4:R xs.toList)
inductive J6(Z:Addr→Option Obj)(kvs:List (Str×V))(R:List DictEntry→Prop)(x:Value):Prop|mk(a:Addr)(n:Nat)(es:Array DictEntry)(h1:x=.ref a)(h2:Z a=some (cT es n))(h3:a≠sysModules)(h4:(kvs.map (·.1)).Nodup)(h5:kvs.length<ak)(h6:R es.toList)
inductive O_(W:Wd)(k:Nat)(x:Value):Prop|mk(a:Addr)(h1:x=.ref a)(h2:W.φ k=some a)
inductive UT(W:Wd)(k f:Nat)(x:Value):Prop|mk(a b:Addr)(h1:x=.ref a)(h2:W.φ k=some b)(h3:W.Z a=some {cls:=.type "method",data:=.fields #[.ref (G.fa f),.ref b]})(h4:(iO G.C f).isSome)
inductive oG(Z:Addr→Option Obj)(cd:Value)(q:Str):Prop|mk(c:Addr)(oc:Obj)(vs:Array Value)(t:Tok)(h1:cd=.ref c)(h2:Z c=some oc)(h3:oc.data=.fields vs)(h4:vs[1]?=some (.str q t))
theorem oG.mono{Z Z':Addr→Option Obj}{cd:Value}{q:Str}(h:oG Z cd q)(L:∀a o,Z a=some o→Z' a=some o):oG Z' cd q:=by
 induction h with |mk c oc vs t h1 h2 h3 h4=>exact⟨c,oc,vs,t,h1,L _ _ h2,h3,h4⟩
inductive Pa(Z:Addr→Option Obj)(ps:List Str)(body:Expr)(sc:Scope)(R:List (Str×Addr)→Prop)(x:Value):Prop
|mk(a:Addr)(o:Obj)(fd:FuncData)(h1:x=.ref a)(h2:Z a=some o)(h3:o.cls=.type "function")(h4:o.data=.func fd)(h5:cB fd.params=some ps)(h6:fd.body=.expr body)(h7:fd.scope=sc)
  (h8:fd.globals=mainGlobals) (h9:fd.builtins=builtinsNs) (J7:fd.defaults=.none) (Pb:fd.kwdefaults=.none) (Pd:oG Z fd.code fd.qualname) (UU:R fd.closure)
inductive J8(k:Str)(e:DictEntry):Prop|mk(h1:k.length<ak)(h2:e.hash=hashStr G.w k)(t:Tok)(h3:e.key=.str k t)
inductive E_(Z:Addr→Option Obj)(n:Str)(cl:List (Str×Addr))(R:Value→Prop):Prop|mk(c:Addr)(o:Obj)(y:Value)(h1:cl.lookup n=some c)(h2:Z c=some o)(h3:o.data=.cell (some y))(h4:R y)
mutual
def Rel(W:Wd):V→Value→Prop|.none,x=>x=.none|.bool b,x=>x=.bool b|.int i,x=>∃t,x=.int i t|.str s,x=>O9 s x|.lst vs,x=>Cp W.Z gA vs.length (ay W vs) x|.tup vs,x=>Cp W.Z nL vs.length (ay W vs) x|.bf kvs,x=>J6 W.Z kvs (Reld W kvs) x|.nK a b,x=>∃r t u v,x=.ref r∧W.Z r=some {cls:=.type "range",dict:=none,data:=.fields #[.int a t,.int b u,.int 1 v],slots:=#[]}∧Builtin.Range.small a b 1=true|.ref k,x=>O_ W k x|.fn f,x=>x=.ref (G.fa f)∧(iO G.C f).isSome|.cls c,x=>x=.ref (G.ca c)|.blt i,x=>x=.builtin i|.typ i,x=>x=.type i|.bm k f,x=>UT W k f x|.lG ps body sc cQ,x=>Pa W.Z ps body sc (kR W cQ) x|.tabI kvs,x=>x=.ref G.Co∧kvs=G.qW|.wY xs,x=>x=.ref G.w9∧xs=G.cz
def ay(W:Wd):List V→List Value→Prop|[],[]=>True|v::vs,x::xs=>Rel W v x∧ay W vs xs|aM,bL=>False
def Reld(W:Wd):List (Str×V)→List DictEntry→Prop|[],[]=>True|(k,v)::r,e::es=>J8 k e∧Rel W v e.val∧Reld W r es|aM,bL=>False
def kR(W:Wd):List (Str×V)→List (Str×Addr)→Prop|[],aM=>True|(n,v)::r,cl=>E_ W.Z n cl (Rel W v)∧kR W r cl
end
structure Wd.Le(W W':Wd):Prop where
 z:∀a o,W.Z a=some o→W'.Z a=some o
 φ:∀k a,W.φ k=some a→W'.φ k=some a
theorem Wd.Le.refl(W:Wd):W.Le W:=⟨fun a a h=>h,fun a a h=>h⟩
theorem Wd.Le.trans{W₁ W₂ W₃:Wd}(x:W₁.Le W₂)(y:W₂.Le W₃):W₁.Le W₃:=⟨fun a o h=>y.z a o (x.z a o h),fun k a h=>y.φ k a (x.φ k a h)⟩
section
variable{W W':Wd}
mutual
theorem Rel.mono(L:W.Le W'):∀{v:V} {x:Value},Rel W v x→Rel W' v x
|.none,x,h=>h|.bool b,x,h=>h|.int i,x,h=>h|.str s,x,h=>h|.lst vs,x,h=>by obtain⟨a,n,xs,h1,h2,h5,h6⟩:=h;exact⟨a,n,xs,h1,L.z _ _ h2,h5,ay.mono L h6⟩
|.tup vs,x,h=>by obtain⟨a,n,xs,h1,h2,h5,h6⟩:=h;exact⟨a,n,xs,h1,L.z _ _ h2,h5,ay.mono L h6⟩
|.bf kvs,x,h=>by obtain⟨a,n,es,h1,h2,h0,hn,h5,h6⟩:=h;exact⟨a,n,es,h1,L.z _ _ h2,h0,hn,h5,Reld.mono L h6⟩
|.nK a b,x,h=>by obtain⟨r,t,u,v,h1,h2,h3⟩:=h;exact⟨r,t,u,v,h1,L.z _ _ h2,h3⟩
|.ref k,x,h=>by obtain⟨a,h1,h2⟩:=h;exact⟨a,h1,L.φ _ _ h2⟩
|.fn f,x,h=>h|.cls c,x,h=>h|.blt i,x,h=>h|.typ i,x,h=>h|.bm k f,x,h=>by obtain⟨a,b,h1,h2,h3,h4⟩:=h;exact⟨a,b,h1,L.φ _ _ h2,L.z _ _ h3,h4⟩
|.lG ps body sc cQ,x,h=>by obtain⟨a,o,fd,h1,h2,h3,h4,h5,h6,h7,h8,h9,J7,Pb,Pd,UW⟩:=h;exact⟨a,o,fd,h1,L.z _ _ h2,h3,h4,h5,h6,h7,h8,h9,J7,Pb,Pd.mono L.z,kR.mono L UW⟩
|.tabI kvs,x,h=>h|.wY xs,x,h=>h
theorem ay.mono(L:W.Le W'):∀{vs:List V} {xs:List Value},ay W vs xs→ay W' vs xs|[],[],h=>trivial|v::vs,x::xs,h=>by exact⟨Rel.mono L h.1,ay.mono L h.2⟩|[],aM::bL,h=>False.elim h|aM::bL,[],h=>False.elim h
theorem Reld.mono(L:W.Le W'):∀{kvs:List (Str×V)} {es:List DictEntry},Reld W kvs es→Reld W' kvs es|[],[],h=>trivial|(k,v)::r,e::es,h=>by exact⟨h.1,Rel.mono L h.2.1,Reld.mono L h.2.2⟩|[],aM::bL,h=>False.elim h|aM::bL,[],h=>False.elim h
theorem kR.mono(L:W.Le W'):∀{cQ:List (Str×V)} {cl:List (Str×Addr)},kR W cQ cl→kR W' cQ cl|[],aM,h=>trivial|(n,v)::r,cl,h=>by obtain⟨⟨c,o,y,h1,h2,h3,h4⟩,h5⟩:=h;exact⟨⟨c,o,y,h1,L.z _ _ h2,h3,Rel.mono L h4⟩,kR.mono L h5⟩
end
end
def FldR(W:Wd)(m:Str→Option Value)(fs:List (Str×V)):Prop:=∀x,match fs.lookup x with |some v=>∃y,m x=some y∧Rel W v y|none=>m x=none
inductive zl(W:Wd)(h:Heap)(d:Addr)(fs:List (Str×V)):Prop|mk(m:Str→Option Value)(h1:h.Ns1 d m)(h2:FldR W m fs)
inductive Pe(g:Option Obj)(f:Array Value→Nat→Obj)(len:Nat)(R:List Value→Prop):Prop|mk(n:Nat)(xs:Array Value)(h1:g=some (f xs n))(h2:len<ak)(h3:R xs.toList)
inductive Pf(g:Option Obj)(a:Addr)(kvs:List (Str×V))(R:List DictEntry→Prop):Prop|mk(n:Nat)(es:Array DictEntry)(h1:g=some (cT es n))(h2:a≠sysModules)(h3:(kvs.map (·.1)).Nodup)(h4:kvs.length<ak)(h5:R es.toList)
inductive J9(W:Wd)(h:Heap)(a:Addr)(k c:Nat)(fs:List (Str×V)):Prop|mk(o:Obj)(d:Addr)(h1:h.get? a=some o)(h2:o.cls=.ref (G.ca c))(h3:o.dict=some d)(h4:∀c,o.data≠.cls c)(h5:d≠a)(h6:W.own d=some k)(h7:fs.length<ak)(h8:zl W h d fs)
inductive J_(W:Wd)(h:Heap)(a:Addr)(k:Nat)(o:Obj)(fs:List (Str×V)):Prop|mk(d:Addr)(h1:fs≠[])(h2:o.dict=some d)(h3:d≠a)(h4:W.own d=some k)(h5:zl W h d fs)
inductive Pg(W:Wd)(h:Heap)(a:Addr)(k:Nat)(fs:List (Str×V)):Prop|mk(o:Obj)(fd:FuncData)(h1:h.get? a=some o)(h2:o.cls=.type "function")(h3:o.data=.func fd)(h4:(fs=[]∧o.dict=none)∨J_ W h a k o fs)
inductive Ph(h:Heap)(a:Addr)(live:Bool)(R S:Value→Prop):Prop|mk(o:Obj)(x y:Value)(h1:h.get? a=some o)(h2:o.cls=.type "callable_iterator")(h3:o.data=.fields (if live then #[x,y,.bool false] else #[.none,.none,.bool true]))(h4:live=true→R x∧S y)
def kU(W:Wd)(h:Heap)(a:Addr)(k:Nat):aE→Prop|.gone=>True|.lst vs=>Pe (h.get? a) gA vs.length (ay W vs)|.bf kvs=>Pf (h.get? a) a kvs (Reld W kvs)|.inst c fs=>J9 W h a k c fs|.oq _ fs=>Pg W h a k fs|.kP f stop live=>Ph h a live (Rel W f) (Rel W stop)
def nU(H:AH)(k:Nat):Prop:=∃o,H[k]?=some o∧(match o with |.gone=>False|_=>True)
def zo(sc:Scope)(x:Str):Bool:=match kindOf sc x with
|some .local|some .cell=>true
|_=>false
def yS.ok(d:yS):Bool:=d.sc.kind==.function&&!d.sc.isCoroutine&&!d.sc.isGenerator&&d.params.all (zo d.sc)&&decide (d.sc.names.map (·.1)).Nodup&&decide d.params.Nodup&&!gr d.sc
inductive FnAt(h:Heap)(f:Nat)(d:yS):Prop
|mk(o:Obj)(fd:FuncData)(h1:h.get? (G.fa f)=some o)(h2:o.cls=.type "function")(h3:o.data=.func fd)(h4:fd.body=.stmts d.body)(h5:fd.scope=d.sc)(h6:fd.globals=mainGlobals)(h7:fd.builtins=builtinsNs)(h8:fd.closure=[])
  (h9:fd.defaults=.none) (J7:fd.kwdefaults=.none) (Pb:cB fd.params=some d.params) (Pd:h.CodeRec fd.code fd.qualname) (UU:∃c P,fd.code=.ref c∧(c,P,fd.qualname++".<locals>.")∈G.tabs)
structure MethAt(mN:Str→Option Value)(m:Str)(f:Nat):Prop where
 h1:mN m=some (.ref (G.fa f))
 h2:(iO G.C f).isSome
 h3:∃y,typeLookup (.type "object") m=pure y
inductive Gj(h:Heap)(c:Nat)(d:Gb):Prop
|mk(nm q:Str)(N:Addr)(bs:List Value)(sn:List Str)(sub:List Value)(col:Option Bool)(dd:Option Addr)(k0 k1 k2 k3 k5:Option Value)(mN:Str→Option Value)(h1:h.get? (G.ca c)=some (excClassObj nm q (G.ca c) N bs [.type "object"] true sn sub false col dd k0 k1 k2 k3 k5 "object.__new__"))(h2:h.Ns N mN)
 (h3:mN "__getattribute__"=none) (h4:mN "__getattr__"=none) (h5:mN "__setattr__"=none) (h6:∀m f,d.meths.lookup m=some f→MethAt mN m f) (h7:∀a∈d.Ce,mN a=none∧typeLookup (.type "object") a=pure none)
structure zp(h:Heap):Prop where
 noLimit:h.NoLimit
 mods:sysModules<h.objs.size
 fns:∀f d,iO G.C f=some d→d.ok=true∧FnAt h f d
 cls:∀c d,G.C.fW.lookup c=some d→Gj h c d
 bound:∀c d a f,G.C.fW.lookup c=some d→d.meths.lookup a=some f→∀{A:Around} {E:Value→Shared→Prop} {Q:Value→Shared→Prop} {s:Shared} {x dx:Addr} {o od:Obj} {es:Array DictEntry} {ep:Nat},s.heap=h→
  s.heap.get? x=some o→o.cls=.ref (G.ca c)→o.dict=some dx→(∀c,o.data≠.cls c)→s.heap.get? dx=some od→od.data=.dict es ep→StrKeys es→nsFind es a=none→
  Q (.ref s.heap.objs.size) {s with heap:=s.heap.push {cls:=.type "method",data:=.fields #[.ref (G.fa f),.ref x]},toks:=s.toks+1}→wpAny gM A (getAttr (.ref x) a true) Q E s
 setIn:∀{A:Around} {E:Value→Shared→Prop} {Q:Value→Shared→Prop} {s:Shared} {i:Int} {t:Tok},s.heap=h→(∀k,Q (.bool (G.cz.contains i)) {s with toks:=k})→wpAny gM A (compareOp .In (.int i t) (.ref G.w9)) Q E s
 zq:∀c P q c' q',(c,P,q)∈G.tabs→(c',P,q')∈G.tabs→q=q'
 Fb:∃es n,h.get? G.Co=some (cT es n)
 zu:∀{A:Around} {E:Value→Shared→Prop} {Q:Value→Shared→Prop} {s:Shared} {i:Int} {t:Tok},s.heap=h→(∀x,G.qW.lookup i=some x→∀t' k,Q (.str x t') {s with toks:=k})→(G.qW.lookup i=none→∀k,Q .none {s with toks:=k})→wpAny gM A (call (.builtin "dict.get") [.ref G.Co,.int i t]) Q E s
 zv:∀i x,G.qW.lookup i=some x→x.length<ak
 glob:∃mg mb,h.Ns mainGlobals mg∧h.Ns builtinsNs mb∧
  (∀x v,lookGlob G.C x=some v→∃y,(∀W,Rel W v y)∧(mg x=some y∨(mg x=none∧mb x=some y)))∧
  (∀c P q,(c,P,q)∈G.tabs→h.BuiltinsAt mg P∧mainGlobals≠P)
def Base(Z:Addr→Option Obj):Prop:=∀h:Heap,(∀a o,Z a=some o→h.get? a=some o)→zp h
inductive TabAt(W:Wd)(h:Heap)(c P:Addr)(q:Str):Prop|mk(h1:CodeHd h c P)(h2:∃oc,W.Z c=some oc)(h3:W.Z P=none)(h4:W.own P=none)(ps:Array Value)(h5:h.get? P=some (tabObj ps))(h6:TriplesOk ps.toList)(h7:∀pos cv,codeAmong pos ps.toList=some cv→oG W.Z cv (q++"<lambda>"))
structure aG(W:Wd)(H:AH)(s:Shared):Prop where
 z:∀a o,W.Z a=some o→s.heap.get? a=some o
 i5:∀k a,W.φ k=some a→W.own a=some k
 b_:∀a k,W.own a=some k→k<H.length∧a<s.heap.objs.size
 qX:∀a k,W.own a=some k→nU H k→W.Z a=none
 obj:∀k o,H[k]?=some o→∃a,W.φ k=some a∧kU W s.heap a k o
 tab:∀c P q,(c,P,q)∈G.tabs→TabAt W s.heap c P q
 base:Base W.Z
structure ai(W:Wd)(H:AH)(s:Shared)(X:Addr→Prop)(W':Wd)(H':AH)(s':Shared):Prop where
 sim:aG W' H' s'
 le:W.Le W'
 vK:∀a k,W.own a=some k→W'.own a=some k
 BX:∀a k,W'.own a=some k→W.own a=some k∨(s.heap.objs.size≤a∧H[k]?≠some aE.gone)
 vL:∀a o,W'.Z a=some o→W.Z a=some o∨s.heap.objs.size≤a∨(∃k,W.own a=some k∧nU H k)∨X a
 keep:∀a o,s.heap.get? a=some o→¬G.eV a→(∀k,W.own a=some k→¬nU H k)→¬X a→s'.heap.get? a=some o
 cl:∀a ps,G.eV a→s.heap.get? a=some (tabObj ps)→∃more,s'.heap.get? a=some (tabObj (ps++more))
 gone:∀k:Nat,H[k]?=some aE.gone→H'[k]?=some aE.gone
 len:H.length≤H'.length
 size:s.heap.objs.size≤s'.heap.objs.size
 os:s'.os=s.os
 gens:s'.gens=s.gens
theorem nU.kh{H:AH}{k:Nat}(h:¬nU H k)(hk:k<H.length):H[k]?=some aE.gone:=by
 obtain e:=List.getElem?_eq_getElem hk;refine e.trans ?_;induction hg:H[k] with |gone=>rfl|_=>exact absurd ⟨_,e,by refine hg▸?_;trivial⟩ h
namespace ai
variable{W W₁ W₂:Wd}{H H₁ H₂:AH}{s s₁ s₂:Shared}{X X':Addr→Prop}
theorem refl(S:aG W H s):ai W H s X W H s:=⟨S,.refl W,fun a a h=>h,fun a a h=>.inl h,fun a a h=>.inl h,fun a a h a a a=>h,fun a ps a h=>⟨#[],by exact h⟩,fun a h=>h,Nat.le_refl _,Nat.le_refl _,rfl,rfl⟩
theorem dead(P:ai W H s X W₁ H₁ s₁)(S:aG W H s){a:Addr}(bT:a<s.heap.objs.size)(h:∀k,W.own a=some k→¬nU H k):∀k,W₁.own a=some k→¬nU H₁ k:=by
 intro k hk hl;rcases P.BX a k hk with h1|h1
 ·obtain hg:=P.gone k (nU.kh (h k h1) (S.b_ a k h1).1);obtain⟨o,ho,hn⟩:=hl;rw[hg] at ho;obtain rfl:=Option.some.inj ho;exact hn
 ·exact absurd bT (Nat.not_lt_of_le h1.1)
theorem trans(S:aG W H s)(P:ai W H s X W₁ H₁ s₁)(Q:ai W₁ H₁ s₁ X W₂ H₂ s₂):ai W H s X W₂ H₂ s₂:=by
 refine⟨Q.sim,P.le.trans Q.le,fun a k h=>Q.vK a k (P.vK a k h),?_,?_,?_,?_,fun k h=>Q.gone k (P.gone k h),Nat.le_trans P.len Q.len,Nat.le_trans P.size Q.size,Q.os.trans P.os,Q.gens.trans P.gens⟩
 ·intro a k h;rcases Q.BX a k h with h1|h1
  ·exact P.BX a k h1
  ·exact .inr ⟨Nat.le_trans P.size h1.1,fun e=>h1.2 (P.gone k e)⟩
 ·intro a o h;rcases Q.vL a o h with h1|h1|⟨k,h1,hl⟩|h1
  ·exact P.vL a o h1
  ·exact .inr (.inl (Nat.le_trans P.size h1))
  ·rcases P.BX a k h1 with h2|h2
   ·refine .inr (.inr (.inl ⟨k,h2,?_⟩));refine Classical.byContradiction fun hn=>?_
    obtain hg:=P.gone k (nU.kh hn (S.b_ a k h2).1);obtain⟨o,ho,hx⟩:=hl;rw[hg] at ho;obtain rfl:=Option.some.inj ho;exact hx
   ·exact .inr (.inl h2.1)
  ·exact .inr (.inr (.inr h1))
 ·intro a o h hc hd hx;exact Q.keep a o (P.keep a o h hc hd hx) hc (P.dead S (Heap.lt_size h) hd) hx
 ·intro a ps ht h;obtain⟨m1,h1⟩:=P.cl a ps ht h;obtain⟨m2,h2⟩:=Q.cl a _ ht h1;exact⟨m1++m2,by rw[h2,Array.append_assoc]⟩
theorem wk(P:ai W H s X W₁ H₁ s₁)(h:∀a,X a→X' a):ai W H s X' W₁ H₁ s₁:=
 {P with
  vL:=fun a o ha=>(P.vL a o ha).imp id (Or.imp id (Or.imp id (h a)))
  keep:=fun a o e hc hd hx=>P.keep a o e hc hd fun hh=>hx (h a hh)}
theorem drop(P:ai W H s X W₁ H₁ s₁)(h:∀a,X a→X' a∨s.heap.objs.size≤a):ai W H s X' W₁ H₁ s₁:=
 {P with
  vL:=fun a o ha=>by
   rcases P.vL a o ha with h1|h1|h1|h1
   ·exact .inl h1
   ·exact .inr (.inl h1)
   ·exact .inr (.inr (.inl h1))
   ·rcases h a h1 with h2|h2
    ·exact .inr (.inr (.inr h2))
    ·exact .inr (.inl h2)
  keep:=fun a o e hc hd hx=>P.keep a o e hc hd fun hh=>by
   rcases h a hh with h2|h2
   ·exact hx h2
   ·exact absurd (Heap.lt_size e) (Nat.not_lt_of_le h2)}
theorem Fc(P:ai W H s X W₁ H₁ s₁)(h:∀a,X a→X' a∨∃k,W.own a=some k∧nU H k):ai W H s X' W₁ H₁ s₁:=
 {P with
  vL:=fun a o ha=>by
   rcases P.vL a o ha with h1|h1|h1|h1
   ·exact .inl h1
   ·exact .inr (.inl h1)
   ·exact .inr (.inr (.inl h1))
   ·rcases h a h1 with h2|h2
    ·exact .inr (.inr (.inr h2))
    ·exact .inr (.inr (.inl h2))
  keep:=fun a o e hc hd hx=>P.keep a o e hc hd fun hh=>by
   rcases h a hh with h2|⟨k,h2,h3⟩
   ·exact hx h2
   ·exact hd k h2 h3}
theorem trans'{Y:Addr→Prop}(S:aG W H s)(P:ai W H s X W₁ H₁ s₁)(Q:ai W₁ H₁ s₁ Y W₂ H₂ s₂)(h:∀a,Y a→X a∨s.heap.objs.size≤a):ai W H s X W₂ H₂ s₂:=((P.wk fun b=>.inl).trans S (Q.wk h)).drop fun b x=>x
end ai
end Mine
end
noncomputable section
open PySem PySem.W PySem.Builtin PySem.Builtin.Str PyProof.Rows
namespace Mine
theorem aG.cj{W:Wd}{H:AH}{s:Shared}(S:aG W H s):zp s.heap:=S.base _ S.z
def bY(sc:Scope)(e:Env)(a:Addr):Prop:=a=e.locals∨∃x,kindOf sc x=some .cell∧e.cells.lookup x=some a
structure ao(sc:Scope)(env:ah)(e:Env)(W:Wd)(s:Shared):Prop where
 kind:e.scope.kind=.function
 globals:e.globals=mainGlobals
 builtins:e.builtins=builtinsNs
 code:gr sc=false→∃c P,e.code=.ref c∧(c,P,e.qual)∈G.tabs
 kinds:∀x k,kindOf sc x=some k→k≠.globalExplicit→e.kindOf x=some k∨(k=.free∧e.kindOf x=some .cell)
 locals:∃o es ep m,s.heap.get? e.locals=some o∧¬G.eV e.locals∧o.data=.dict es ep∧s.heap.Ns e.locals m∧W.own e.locals=none∧W.Z e.locals=none∧∀x v,kindOf sc x=some .local→a_ env x=some v→∃y,m x=some y∧Rel W v y
 cells:∀x,kindOf sc x=some .cell→∃c o u,e.cells.lookup x=some c∧s.heap.get? c=some o∧¬G.eV c∧o.data=.cell u∧W.own c=none∧
  (match a_ env x with |some v=>(∃y,u=some y∧Rel W v y)∧(if G.C.wo x then W.Z c=some o else W.Z c=none)|none=>W.Z c=none)
 frees:∀x v,kindOf sc x=some .free→a_ env x=some v→∃c o y,e.cells.lookup x=some c∧s.heap.get? c=some o∧o.data=.cell (some y)∧Rel W v y∧(x==("__classdict__":Str))=false∧(W.Z c=some o∨(G.C.wo x=false∧W.own c=none∧¬G.eV c))
 inj:∀x y c,kindOf sc x=some .cell→(kindOf sc y=some .cell∨kindOf sc y=some .free)→e.cells.lookup x=some c→e.cells.lookup y=some c→x=y
theorem ao.old{sc:Scope}{env:ah}{e:Env}{W W':Wd}{H H':AH}{s s':Shared}{X:Addr→Prop}(x:ao sc env e W s)(P:ai W H s X W' H' s')
  (hX:∀a,X a→a≠e.locals∧∀y,(kindOf sc y=some .cell∨(kindOf sc y=some .free∧(a_ env y).isSome=true))→e.cells.lookup y≠some a):ao sc env e W' s':=by
 have kp:∀a o,s.heap.get? a=some o→¬G.eV a→W.own a=none→¬X a→s'.heap.get? a=some o:=fun a o h1 h2 h3 h4=>P.keep a o h1 h2 (fun k hk=>by rw[h3] at hk;exact nE hk) h4
 have ow:∀a,a<s.heap.objs.size→W.own a=none→W'.own a=none:=fun a h1 h2=>by
  induction hh:W'.own a with
  |none=>rfl|some k=>
   rcases P.BX a k hh with h3|h3
   ·rw[h2] at h3;exact nE h3
   ·exact absurd h1 (Nat.not_lt_of_le h3.1)
 have zn:∀a,a<s.heap.objs.size→W.own a=none→¬X a→W.Z a=none→W'.Z a=none:=fun a h1 h2 h3 h4=>by
  induction hh:W'.Z a with
  |none=>rfl|some o=>
   rcases P.vL a o hh with h5|h5|⟨k,h5,_⟩|h5
   ·rw[h4] at h5;exact nE h5
   ·exact absurd h1 (Nat.not_lt_of_le h5)
   ·rw[h2] at h5;exact nE h5
   ·exact absurd h5 h3
 refine⟨x.kind,x.globals,x.builtins,x.code,x.kinds,?_,?_,?_,x.inj⟩
 ·refine x.locals.elim fun o Gk=>?_;refine Gk.elim fun es Pj=>?_;refine Pj.elim fun ep BY=>?_;refine BY.elim fun m tV=>?_;obtain h1:=tV.1;obtain h2:=tV.2.1;obtain h3:=tV.2.2.1;obtain h4:=tV.2.2.2.1;obtain h5:=tV.2.2.2.2.1;obtain h6:=tV.2.2.2.2.2.1;obtain h7:=tV.2.2.2.2.2.2
  obtain nx:=fun h=>(hX _ h).1 rfl
  obtain lt:=Heap.lt_size h1;obtain SQ:=kp _ _ h1 h2 h5 nx;refine⟨o,es,ep,m,SQ,h2,h3,?_,ow _ lt h5,zn _ lt h5 nx h6,fun y v hk hv=>?_⟩
  ·obtain⟨o',Gm,Pk,e1,r⟩:=h4;rw[h1] at e1;obtain rfl:=Option.some.inj e1;exact⟨o,Gm,Pk,SQ,r⟩
  ·obtain⟨z,hz,hr⟩:=h7 y v hk hv;exact⟨z,hz,hr.mono P.le⟩
 ·intro y hy;refine(x.cells y hy).elim fun c Pn=>?_;refine Pn.elim fun o Gn=>?_;refine Gn.elim fun u qY=>?_;obtain h1:=qY.1;obtain h2:=qY.2.1;obtain h3:=qY.2.2.1;obtain h4:=qY.2.2.2.1;obtain h5:=qY.2.2.2.2.1;obtain h6:=qY.2.2.2.2.2
  have nx:=fun h=>(hX _ h).2 y (.inl hy) h1
  obtain lt:=Heap.lt_size h2;refine⟨c,o,u,h1,kp _ _ h2 h3 h5 nx,h3,h4,ow _ lt h5,?_⟩
  revert h6
  induction a_ env y with
  |none=>exact zn _ lt h5 nx|some v=>
   rintro⟨⟨z,h7,h8⟩,h9⟩;refine⟨⟨z,h7,h8.mono P.le⟩,?_⟩;by_cases hw:G.C.wo y=true
   ·rw[if_pos hw] at h9⊢;exact P.le.z _ _ h9
   ·rw[if_neg hw] at h9⊢;exact zn _ lt h5 nx h9
 ·intro y v hy hv;refine(x.frees y v hy hv).elim fun c Po=>?_;refine Po.elim fun o Pp=>?_;refine Pp.elim fun z w_=>?_;obtain h1:=w_.1;obtain h2:=w_.2.1;obtain h4:=w_.2.2.1;obtain h5:=w_.2.2.2.1;obtain h8:=w_.2.2.2.2.1;obtain h6:=w_.2.2.2.2.2
  rcases h6 with h6|⟨hw,h6,h3⟩
  ·exact⟨c,o,z,h1,P.sim.z _ _ (P.le.z _ _ h6),h4,h5.mono P.le,h8,.inl (P.le.z _ _ h6)⟩
  ·obtain nx:=fun h=>(hX _ h).2 y (.inr ⟨hy,by rw[hv];rfl⟩) h1
   exact⟨c,o,z,h1,kp _ _ h2 h3 h6 nx,h4,h5.mono P.le,h8,.inr ⟨hw,ow _ (Heap.lt_size h2) h6,h3⟩⟩
theorem ao.expr{sc:Scope}{env:ah}{e:Env}{W W':Wd}{H H':AH}{s s':Shared}(x:ao sc env e W s)(P:ai W H s (fun a=>False) W' H' s'):ao sc env e W' s':=x.old P fun a h=>h.elim
structure bA(A:Around)(n:Nat):Prop where
 handled:A.handled=none
 depth:A.depth+n<recursionLimit
 units:A.units+12* n<cLine
abbrev aH:Addr→Prop:=fun a=>False
abbrev aU(W:Wd)(H:AH)(s:Shared)(X:Addr→Prop)(H':AH)(P:Wd→Shared→Prop):Shared→Prop:=fun s'=>∃W',ai W H s X W' H' s'∧P W' s'
def kj(W:Wd):Fl→Flow→Prop|.next,f=>f=.next|.cont,f=>f=.cont|.ret v,f=>∃x,f=.ret x∧Rel W v x
theorem bA.le{A:Around}{n m:Nat}(h:bA A n)(hm:m≤n):bA A m:=⟨h.handled,by obtain this:=h.depth;exact eO (nat_lit 0x230811130121081102) ae this hm,by obtain this:=h.units;lia⟩
theorem aG.toks{W:Wd}{H:AH}{s:Shared}(S:aG W H s)(t:Nat):aG W H {s with toks:=t}:=⟨S.z,S.i5,S.b_,S.qX,S.obj,S.tab,S.base⟩
theorem ai.toks{W:Wd}{H:AH}{s:Shared}(S:aG W H s)(X:Addr→Prop)(t:Nat):ai W H s X W H {s with toks:=t}:=⟨S.toks t,.refl W,fun a a h=>h,fun a a h=>.inl h,fun a a h=>.inl h,fun a a h a a a=>h,fun a ps a h=>⟨#[],by exact h⟩,fun a h=>h,Nat.le_refl _,Nat.le_refl _,rfl,rfl⟩
section
variable{n:Nat}{A:Around}{E:Value→Shared→Prop}{W:Wd}{H:AH}{s:Shared}{sc:Scope}{env:ah}{e':Env}
theorem bO{X:Addr→Prop}{P:Wd→Shared→Prop}(S:aG W H s)(h:P W s):aU W H s X H P s:=⟨W,.refl S,h⟩
theorem cu{X:Addr→Prop}{P:Wd→Shared→Prop}(S:aG W H s)(t:Nat)(h:P W {s with toks:=t}):aU W H s X H P {s with toks:=t}:=⟨W,.toks S X t,h⟩
theorem lX{α:Type}{o:Option α}{H H':AH}{a:α}(h:opt o H=some (a,H')):o=some a∧H'=H:=by
 induction o with |none=>exact nE h|some b=>cases h;exact⟨rfl,rfl⟩
theorem aW{α:Type}{a b:α}{H H':AH}(h:(pure a:M α) H=some (b,H')):b=a∧H'=H:=by have h':=h;cases h';exact⟨rfl,rfl⟩
theorem jK{x:Str}{v:V}(h:dD G.C sc env x=some v)(S:aG W H s)(N:ao sc env e' W s):
  wpAny gM A (loadName e' x) (fun y=>aU W H s aH H fun W' a=>Rel W' v y) E s:=by
 unfold dD at h;induction hk:kindOf sc x with
 |none=>obtain h:=hk▸h;exact nE h
 |some k=>
  obtain h:=hk▸h;induction k with
  |«local»=>
   refine N.locals.elim fun o Pr=>?_;refine Pr.elim fun es Pu=>?_;refine Pu.elim fun ep Pw=>?_;refine Pw.elim fun m J'=>?_;obtain h4:=J'.2.2.2.1;obtain h7:=J'.2.2.2.2.2.2
   obtain⟨y,hy,hr⟩:=h7 x v hk h;obtain gz:=(N.kinds x _ hk (by decide)).resolve_right (fun q=>nomatch q.1);exact wpAny_loadName_local N.kind gz h4 hy (bO S hr)
  |cell=>
   refine(N.cells x hk).elim fun c Ka=>?_;refine Ka.elim fun o Kc=>?_;refine Kc.elim fun u vM=>?_;obtain h1:=vM.1;obtain h2:=vM.2.1;obtain h4:=vM.2.2.2.1;obtain h6:=vM.2.2.2.2.2
   dsimp only at h;rw[h] at h6;obtain⟨⟨y,rfl,hr⟩,_⟩:=h6;have gz:=(N.kinds x _ hk (by decide)).resolve_right (fun q=>nomatch q.1)
   exact wpAny_loadName_cell N.kind gz h1 ⟨o,h2,h4⟩ (bO S hr)
  |free=>
   refine(N.frees x v hk h).elim fun c Kd=>?_;refine Kd.elim fun o Ke=>?_;refine Ke.elim fun y qZ=>?_;obtain h1:=qZ.1;obtain h2:=qZ.2.1;obtain h4:=qZ.2.2.1;obtain h5:=qZ.2.2.2.1;obtain h8:=qZ.2.2.2.2.1
   rcases N.kinds x _ hk (by decide) with gz|⟨_,gz⟩
   ·exact wpAny_loadName_free N.kind gz h1 ⟨o,h2,h4⟩ (bO S h5) h8
   ·exact wpAny_loadName_cell N.kind gz h1 ⟨o,h2,h4⟩ (bO S h5)
  |globalImplicit=>
   refine S.cj.glob.elim fun mg z=>z.elim fun mb z=>z.elim fun g1 z=>z.elim fun g2 z=>z.elim fun g3 a=>?_
   obtain⟨y,hr,hy⟩:=g3 x v h;have gz:=(N.kinds x _ hk (by decide)).resolve_right (fun q=>nomatch q.1)
   obtain core:wpAny gM A (loadGlobal e' x) (fun y=>aU W H s aH H fun W' a=>Rel W' v y) E s:=by
    rcases hy with hy|⟨hy,Kf⟩
    ·exact Calls.loadGlobal_global (N.globals▸(g1)) hy (bO S (hr W))
    ·exact Calls.loadGlobal_builtin (N.globals▸(g1)) hy (by refine N.builtins▸?_;exact g2) Kf (bO S (hr W))
   exact(PyProof.Rows.loadName_read N.kind gz).symm▸core
  |_=>exact nE h
theorem xd{α:Type}{t:Sem α}{H₁ H':AH}{X Y:Addr→Prop}{Q:α→Wd→Shared→Prop}{W₁:Wd}{s₁:Shared}(S:aG W H s)(P₁:ai W H s Y W₁ H₁ s₁)
  (h2:wpAny gM A t (fun b=>aU W₁ H₁ s₁ X H' (Q b)) E s₁)(hY:∀a,Y a→X a:=by intro _ h;exact h.elim):
  wpAny gM A t (fun b=>aU W H s X H' (Q b)) E s₁:=
 wpAny_mono h2 (fun b s₂ ⟨W₂,P₂,hQ⟩=>⟨W₂,(P₁.wk hY).trans S P₂,hQ⟩) fun c c h=>h
end
theorem Base.mono{Z Z':Addr→Option Obj}(h:Base Z)(hz:∀a o,Z a=some o→Z' a=some o):Base Z':=fun h' hh=>h h' fun a o e=>hh a o (hz a o e)
theorem FldR.mono{W W':Wd}{m:Str→Option Value}{fs:List (Str×V)}(x:FldR W m fs)(L:W.Le W'):FldR W' m fs:=fun y=>by
 obtain this:=x y
 revert this
 induction fs.lookup y with |none=>exact fun h=>h|some v=>exact fun⟨z,h1,h2⟩=>⟨z,h1,h2.mono L⟩
theorem zl.keeps{W W':Wd}{h h':Heap}{d:Addr}{fs:List (Str×V)}(x:zl W h d fs)(L:W.Le W')(hk:∀o,h.get? d=some o→h'.get? d=some o):zl W' h' d fs:=by obtain⟨m,hn,hm⟩:=x;exact⟨m,hn.at hk,hm.mono L⟩
theorem kU.keeps{W W':Wd}{h h':Heap}{a:Addr}{k:Nat}{o:aE}(x:kU W h a k o)(L:W.Le W')(hO:∀b,W.own b=some k→W'.own b=some k)
  (ha:∀o,h.get? a=some o→h'.get? a=some o)(hd:∀b o,W.own b=some k→h.get? b=some o→h'.get? b=some o):kU W' h' a k o:=by
 induction o with
 |gone=>trivial|lst vs=>obtain⟨n,xs,h1,h2,h3⟩:=x;exact⟨n,xs,ha _ h1,h2,h3.mono L⟩
 |bf kvs=>obtain⟨n,es,h1,h0,hn,h2,h3⟩:=x;exact⟨n,es,ha _ h1,h0,hn,h2,h3.mono L⟩
 |inst c fs=>obtain⟨o,d,h1,h2,h3,h4,h6,h7,hz,h8⟩:=x;exact⟨o,d,ha _ h1,h2,h3,h4,h6,hO _ h7,hz,h8.keeps L fun o e=>hd _ _ h7 e⟩
 |oq c fs=>
  obtain⟨o,fd,h1,h2,h3,h4⟩:=x;refine⟨o,fd,ha _ h1,h2,h3,?_⟩;rcases h4 with h4|⟨d,e1,e2,e3,e4,e5⟩
  ·exact .inl h4
  ·exact .inr ⟨d,e1,e2,e3,hO _ e4,e5.keeps L fun o e=>hd _ _ e4 e⟩
 |kP f stop live=>obtain⟨o,y,z,h1,h2,h3,h4⟩:=x;exact⟨o,y,z,ha _ h1,h2,h3,fun hl=>⟨(h4 hl).1.mono L,(h4 hl).2.mono L⟩⟩
section
variable{W W':Wd}{H:AH}{s s':Shared}
theorem aG.grow(S:aG W H s)(hk:∀a o,s.heap.get? a=some o→s'.heap.get? a=some o)(hsz:s.heap.objs.size≤s'.heap.objs.size)(hφ:W'.φ=W.φ)(hO:W'.own=W.own)
  (hz:∀a o,W.Z a=some o→W'.Z a=some o)(Kg:∀a o,W'.Z a=some o→W.Z a=some o∨(s.heap.objs.size≤a∧s'.heap.get? a=some o)):aG W' H s':=by
 obtain L:W.Le W':=⟨hz,fun k a h=>by exact hφ▸(h)⟩;have zn:∀a,a<s.heap.objs.size→W.Z a=none→W'.Z a=none:=fun a h1 h2=>by
  induction e:W'.Z a with
  |none=>rfl|some o=>
   rcases Kg a o e with h3|h3
   ·rw[h2] at h3;exact nE h3
   ·exact absurd h1 (Nat.not_lt_of_le h3.1)
 refine⟨fun a o e=>?_,fun k a h=>?_,fun a k h=>?_,fun a k h hl=>?_,fun k o h=>?_,fun c P q hm=>?_,S.base.mono hz⟩
 ·rcases Kg a o e with h|h
  ·exact hk _ _ (S.z a o h)
  ·exact h.2
 ·obtain h:=hφ▸h;rw[hO];exact S.i5 k a h
 ·rw[hO] at h;exact⟨(S.b_ a k h).1,Nat.lt_of_lt_of_le (S.b_ a k h).2 hsz⟩
 ·rw[hO] at h;exact zn a (S.b_ a k h).2 (S.qX a k h hl)
 ·obtain⟨a,h1,h2⟩:=S.obj k o h;exact⟨a,by rw[hφ];exact h1,h2.keeps L (fun b hb=>by exact hO▸(hb)) (fun o e=>hk _ _ e) fun b o d e=>hk _ _ e⟩
 ·obtain⟨h1,⟨oc,h0⟩,h2,lY,ps,h3,h4,h5⟩:=S.tab c P q hm;refine⟨h1.keeps hk,⟨oc,hz _ _ h0⟩,zn P (Heap.lt_size h3) h2,by refine hO▸?_;exact lY,ps,hk _ _ h3,h4,fun pos cv hc=>(h5 pos cv hc).mono hz⟩
theorem ai.grow(S:aG W H s)(X:Addr→Prop)(hk:∀a o,s.heap.get? a=some o→s'.heap.get? a=some o)(hsz:s.heap.objs.size≤s'.heap.objs.size)(hφ:W'.φ=W.φ)(hO:W'.own=W.own)
  (hz:∀a o,W.Z a=some o→W'.Z a=some o)(Kg:∀a o,W'.Z a=some o→W.Z a=some o∨(s.heap.objs.size≤a∧s'.heap.get? a=some o))(qJ:s'.os=s.os)(hg:s'.gens=s.gens):ai W H s X W' H s':=
 ⟨S.grow hk hsz hφ hO hz Kg,⟨hz,fun k a h=>by exact hφ▸(h)⟩,fun a k h=>by rw[hO];exact h,fun a k h=>.inl (by rw[hO] at h;exact h),fun a o h=>(Kg a o h).imp (fun x=>x) fun x=>.inl x.1,fun a o e b b b=>hk _ _ e,fun a ps b e=>⟨#[],by exact hk _ _ e⟩,fun k h=>h,Nat.le_refl _,hsz,qJ,hg⟩
noncomputable def Wd.add(W:Wd)(a:Addr)(o:Obj):Wd:={W with Z:=fun b=>if b=a then some o else W.Z b}
theorem Wd.aZ(W:Wd)(a:Addr)(o:Obj):(W.add a o).Z a=some o:=by simp[Wd.add]
theorem aG.Px(S:aG W H s){a:Addr}{o:Obj}(h:W.Z a=some o):a<s.heap.objs.size:=Heap.lt_size (S.z a o h)
theorem aG.gJ(S:aG W H s){a:Addr}(h:s.heap.objs.size≤a):W.Z a=none:=by
 induction e:W.Z a with |none=>rfl|some o=>exact absurd (S.Px e) (Nat.not_lt_of_le h)
set_option tactic.hygienic true in
theorem ai.push(S:aG W H s)(X:Addr→Prop)(o:Obj)(ho:o.isFreed=false:=by rfl)(t:Nat:=s.toks):ai W H s X (W.add s.heap.objs.size o) H {s with heap:=s.heap.push o,toks:=t}:=
 .grow S X (fun a o' e=>Heap.get?_push_of_some _ e) (by rw[Heap.size_push];exact aJ (nat_lit 6719275264) ae) rfl rfl
  (fun a o' h=>by refine(?_:(if a=s.heap.objs.size then some o else W.Z a)=some o');rw[if_neg (Nat.ne_of_lt (S.Px h))];exact h)
  (fun a o' h=>by
   have h':(if a=s.heap.objs.size then some o else W.Z a)=some o':=h;split at h'
   ·rename_i he;obtain rfl:=Option.some.inj h';exact .inr ⟨he▸Nat.le_refl _,by rw[he];exact Heap.get?_push_size _ ho⟩
   ·exact .inl h') rfl rfl
theorem ai.fF(S:aG W H s)(X:Addr→Prop)(o:Obj)(t:Nat:=s.toks):ai W H s X W H {s with heap:=s.heap.push o,toks:=t}:=.grow S X (fun a o' e=>Heap.get?_push_of_some _ e) (by rw[Heap.size_push];exact aJ (nat_lit 6719275264) ae) rfl rfl (fun a o' h=>h) (fun a o' h=>.inl h) rfl rfl
theorem ay.length:∀{vs:List V} {xs:List Value},ay W vs xs→vs.length=xs.length|[],[],aM=>rfl|v::vs,x::xs,h=>by simp only[List.length_cons,ay.length h.2]|[],aM::bL,h=>False.elim h|aM::bL,[],h=>False.elim h
theorem ay.append:∀{vs:List V} {xs:List Value} {us:List V} {ys:List Value},ay W vs xs→ay W us ys→ay W (vs++us) (xs++ys)|[],[],aM,bL,gn,h=>h|v::vs,x::xs,aM,bL,h,h'=>by exact⟨h.1,h.2.append h'⟩|[],aM::bL,gn,tR,h,E8=>False.elim h|aM::bL,[],gn,tR,h,E8=>False.elim h
theorem ay.get:∀{vs:List V} {xs:List Value} {i:Nat} {v:V},ay W vs xs→vs[i]?=some v→∃x,xs[i]?=some x∧Rel W v x|[],aM,i,v,h,hv=>by simp at hv|v::vs,x::xs,0,u,h,hv=>by simp only[List.getElem?_cons_zero,Option.some.injEq] at hv⊢;subst hv;exact⟨x,rfl,h.1⟩|v::vs,x::xs,i+1,u,h,hv=>by exact h.2.get hv|aM::bL,[],gn,tR,h,E8=>False.elim h
theorem ay.take:∀{vs:List V} {xs:List Value} (n:Nat),ay W vs xs→ay W (vs.take n) (xs.take n)|[],[],n,aM=>by rw[List.take_nil,List.take_nil];trivial|v::vs,x::xs,0,aM=>by trivial|v::vs,x::xs,n+1,h=>by exact⟨h.1,h.2.take n⟩|[],aM::bL,gn,h=>False.elim h|aM::bL,[],gn,h=>False.elim h
theorem ay.drop:∀{vs:List V} {xs:List Value} (n:Nat),ay W vs xs→ay W (vs.drop n) (xs.drop n)|[],[],n,aM=>by rw[List.drop_nil,List.drop_nil];trivial|v::vs,x::xs,0,h=>h|v::vs,x::xs,n+1,h=>by exact h.2.drop n|[],aM::bL,gn,h=>False.elim h|aM::bL,[],gn,h=>False.elim h
end
section
variable{A:Around}{E:Value→Shared→Prop}{W:Wd}{H:AH}{s:Shared}
theorem br{n:Nat}(h:n<ak):n≤sizeLine:=by rw[sizeLine_eq];unfold ak at h;exact aJ (nat_lit 0x10000007f0011000006f01101) ae h
theorem ck{n:Nat}(h:Mine.sizeOk n=true):n<ak:=by simpa [Mine.sizeOk,ak] using h
theorem fh{i:Int}(h:small i=true):Builtin.Int.intBits i≤128:=by
 obtain hn:=of_decide_eq_true h;unfold Builtin.Int.intBits;split
 ·exact Nat.zero_le _
 ·rcases Nat.eq_zero_or_pos i.natAbs with h0|hp
  ·rw[h0];decide
  ·obtain this:=(Nat.log2_lt (Nat.ne_of_gt hp)).mpr hn;assumption
theorem q_{i j:Int}(h:small i=true)(h':small j=true):IntMulOk i j:=IntMulOk.of_le (fh h) (fh h') (by decide)
theorem noPylong{i j:Int}(h:small j=true):Builtin.divisionGoesByPylong i j=false:=by
 refine PyProof.noPylong_of_log2 ?_;have hn:=of_decide_eq_true h
 rcases Nat.eq_zero_or_pos j.natAbs with h0|hp
 ·rw[h0];decide+kernel
 ·have :=(Nat.log2_lt (Nat.ne_of_gt hp)).mpr hn;exact aJ (nat_lit 0x23284f01180e01101) ae this
end
section
variable{W:Wd}{α:Type}{a:V}{x:Value}{c:α}{P:Value→Prop}
theorem gy{a b:Option α}{P:Prop}(h:alt a b=some c)(k:a=some c→P)(l:b=some c→P):P:=by
 induction a with |none=>exact l h|some _=>exact k h
@[elab_as_elim] theorem av.el{f:Int→Option α}(h:av a f=some c)(hx:Rel W a x)(k:∀i t,f i=some c→P (.int i t)):P x:=by
 induction a using V.casesOn with
 |int i=>obtain⟨t,rfl⟩:=hx;exact k i t h
 |_=>exact nE h
@[elab_as_elim] theorem onStr.el{f:Str→Option α}(h:onStr a f=some c)(hx:Rel W a x)(k:∀i t,i.length<ak→f i=some c→P (.str i t)):P x:=by
 induction a using V.casesOn with
 |str i=>obtain⟨hl,t,rfl⟩:=hx;exact k i t hl h
 |_=>exact nE h
@[elab_as_elim] theorem b9.el{f:Bool→Option α}(h:b9 a f=some c)(hx:Rel W a x)(k:∀i,f i=some c→P (.bool i)):P x:=by
 induction a using V.casesOn with |bool i=>subst hx;exact k i h|_=>exact nE h
@[elab_as_elim] theorem jG.el{f:Option α}(h:jG a f=some c)(hx:Rel W a x)(k:f=some c→P .none):P x:=by
 induction a using V.casesOn with |none=>subst hx;exact k h|_=>exact nE h
theorem onSet.el{f:List Int→Option α}{P:Prop}(h:onSet a f=some c)(k:∀i,a=.wY i→f i=some c→P):P:=by
 induction a using V.casesOn with |wY i=>exact k i rfl h|_=>exact nE h
@[elab_as_elim] theorem vm.el{f:Nat→Option α}(h:vm a f=some c)(hx:Rel W a x)(k:∀i b,W.φ i=some b→f i=some c→P (.ref b)):P x:=by
 induction a using V.casesOn with
 |ref i=>obtain⟨b,rfl,hb⟩:=hx;exact k i b hb h
 |_=>exact nE h
@[elab_as_elim] theorem Cf.el{f:Int→Option α}{g:Str→Option α}(h:Cf a f g=some c)(hx:Rel W a x)(k:∀i t,f i=some c→P (.int i t))(l:∀i t,i.length<ak→g i=some c→P (.str i t)):P x:=by
 induction a using V.casesOn with
 |int i=>obtain⟨t,rfl⟩:=hx;exact k i t h
 |str i=>obtain⟨hl,t,rfl⟩:=hx;exact l i t hl h
 |_=>exact nE h
@[elab_as_elim] theorem jD.el{as:List V}{xs:List Value}{P:List Value→Prop}{f:V→Option α}(h:jD as f=some c)(r:ay W as xs)(k:∀v y,Rel W v y→f v=some c→P [y]):P xs:=by
 induction as using List.casesOn with |nil=>exact nE h|cons v as=>induction as using List.casesOn with |cons _ _=>exact nE h|nil=>induction xs using List.casesOn with |nil=>exact r.elim|cons y xs=>induction xs using List.casesOn with |cons _ _=>exact r.2.elim|nil=>exact k v y r.1 h
@[elab_as_elim] theorem tN.el{as:List V}{xs:List Value}{P:List Value→Prop}{f:V→V→Option α}(h:tN as f=some c)(r:ay W as xs)(k:∀v y u z,Rel W v y→Rel W u z→f v u=some c→P [y,z]):P xs:=by
 induction as using List.casesOn with |nil=>exact nE h|cons v as=>induction as using List.casesOn with |nil=>exact nE h|cons u as=>induction as using List.casesOn with |cons _ _=>exact nE h|nil=>induction xs using List.casesOn with |nil=>exact r.elim|cons y xs=>induction xs using List.casesOn with |nil=>exact r.2.elim|cons z xs=>induction xs using List.casesOn with |cons _ _=>exact r.2.2.elim|nil=>exact k v y u z r.1 r.2.1 h
@[elab_as_elim] theorem vp.el{f:String→Option α}(h:vp a f=some c)(hx:Rel W a x)(k:∀i,f i=some c→P (.type i)):P x:=by
 induction a using V.casesOn with |typ i=>subst hx;exact k i h|_=>exact nE h
theorem jD.inv{as:List V}{P:Prop}{f:V→Option α}(h:jD as f=some c)(k:∀v,as=[v]→f v=some c→P):P:=by
 induction as with |nil=>exact nE h|cons v as=>induction as with |cons _ _=>exact nE h|nil=>exact k v rfl h
theorem tN.inv{as:List V}{P:Prop}{f:V→V→Option α}(h:tN as f=some c)(k:∀v u,as=[v,u]→f v u=some c→P):P:=by
 induction as using List.casesOn with |nil=>exact nE h|cons v as=>induction as using List.casesOn with |nil=>exact nE h|cons u as=>induction as using List.casesOn with |cons _ _=>exact nE h|nil=>exact k v u rfl h
theorem av.inv{f:Int→Option α}{P:Prop}(h:av a f=some c)(k:∀i,a=.int i→f i=some c→P):P:=by
 induction a using V.casesOn with |int i=>exact k i rfl h|_=>exact nE h
theorem Cj.el{f:Option α}{P:Prop}(h:Cj a f=some c)(k:∀i j,a=.bm i j→f=some c→P):P:=by
 induction a using V.casesOn with |bm i j=>exact k i j rfl h|_=>exact nE h
theorem rh{c:Bool}{a r:α}{P:Prop}(h:(bif c then some a else none)=some r)(k:c=true→a=r→P):P:=by
 induction c with |true=>exact k rfl (Option.some.inj h)|false=>exact nE h
theorem cM.el{f:List V→Option α}{P:Prop}(h:cM a f=some c)(k:∀i,a=.lst i→f i=some c→P):P:=by
 induction a using V.casesOn with |lst i=>exact k i rfl h|_=>exact nE h
theorem iE.el{f:List V→Option α}{P:Prop}(h:iE a f=some c)(k:∀i,a=.tup i→f i=some c→P):P:=by
 induction a using V.casesOn with |tup i=>exact k i rfl h|_=>exact nE h
theorem gD.el{f:List (Str×V)→Option α}{P:Prop}(h:gD a f=some c)(k:∀i,a=.bf i→f i=some c→P):P:=by
 induction a using V.casesOn with |bf i=>exact k i rfl h|_=>exact nE h
end
section
variable{A:Around}{E:Value→Shared→Prop}{W:Wd}{H:AH}{s:Shared}
theorem bP{i:Int}{X:Addr→Prop}(S:aG W H s):aU W H s X H (fun W' a=>Rel W' (.int i) (.int i s.toks)) {s with toks:=s.toks+1}:=cu S _ ⟨_,rfl⟩
theorem dF{x:Str}{t u:Nat}{X:Addr→Prop}(S:aG W H s)(hx:x.length<ak):aU W H s X H (fun W' a=>Rel W' (.str x) (.str x t)) {s with toks:=u}:=cu S _ (⟨hx,_,rfl⟩)
theorem Gp{i j:Int}{t u:Tok}{Q:Value→Shared→Prop}(Py:1<i)(hi:small i=true)(h0:0≤j)(h1:j<100)(h:∀t k,Q (.int (i^j.toNat) t) {s with toks:=k}):
  wpAny gM A (binaryOp .Pow (.int i t) (.int j u)) Q E s:=by
 induction c1:j==0 with
 |true=>cases eq_of_beq c1;exact AutoIntOps.pow_0 h0 c1 (Eq.subst (motive:=fun z=>Q (.int z s.toks) _) (Int.pow_zero i) (h _ _))
 |false=>obtain n0:=nR (Int.ne_of_gt (Int.lt_trans Int.zero_lt_one Py));obtain n1:=nR (Int.ne_of_gt Py);obtain n2:(i==-1)=false:=nR (Int.ne_of_gt (Int.lt_trans (by simp_all) Py));refine AutoIntOps.pow_4 h0 (fun q=>nomatch c1.symm.trans q) (by simp only[n0,n1];exact Bool.false_ne_true) (fun q=>nomatch n2.symm.trans q) (fun q=>?_) (h _ _);obtain hb:=Int.mul_le_mul (Int.ofNat_le.mpr (fh hi)) (Int.le_of_lt h1) h0 (by simp_all);exact absurd (of_decide_eq_true q) (Int.not_lt.mpr (Int.le_trans hb (by decide)))
set_option tactic.hygienic true in
theorem tW{x y:Str}{t u:Tok}{Q:Value→Shared→Prop}(hz:(x++y).length≤sizeLine)(h:∀t k,Q (.str (x++y) t) {s with toks:=k}):
  wpAny gM A (binaryOp .Add (.str x t) (.str y u)) Q E s:=by
 refine P.add_str ?_;have ex:x.length=0→x=Str.empty:=fun h=>by induction x with |mk c=>simp only[Str.length] at h;rw[Array.size_eq_zero_iff.mp h];rfl
 have ey:y.length=0→y=Str.empty:=fun h=>by induction y with |mk c=>simp only[Str.length] at h;rw[Array.size_eq_zero_iff.mp h];rfl
 split
 ·rename_i hx;have Cq:x.length=0:=by simpa using hx
  rw[ex Cq] at h;rw[Str.empty_append] at h;exact h u s.toks
 ·split
  ·rename_i hy;obtain Kf:y.length=0:=by simpa using hy
   obtain h:=(ey Kf)▸h;exact h t s.toks
  ·exact⟨hz,h _ _⟩
theorem vN{W':Wd}{v:V}{x:Value}(h:Rel W' v x):∀k:Nat,ay W' (List.replicate k v) (List.replicate k x)|0=>trivial|k+1=>⟨h,vN h k⟩
theorem rj(x:Value):∀(k:Nat) (acc:Array Value),(List.foldl (fun x1 x2=>x1++x2) acc (List.replicate k #[x])).toList=acc.toList++List.replicate k x|0,acc=>(List.append_nil _).symm|k+1,acc=>by simp only[List.replicate_succ,List.foldl_cons,rj x k,Array.toList_append,List.append_assoc];rfl
theorem jL{α:Type}{c:Bool}{a r:α}{P:Prop}(h:(if c=true then some a else none)=some r)(k:c=true→a=r→P):P:=by
 cases c with |true=>exact k rfl (Option.some.inj h)|false=>exact nE h
theorem xe{a b c:V}{x y:Value}(h:yT a b=some c)(S:aG W H s)(hx:Rel W a x)(hy:Rel W b y):wpAny gM A (binaryOp .Add x y) (fun z=>aU W H s aH H fun W' d=>Rel W' c z) E s:=by
 induction a using V.casesOn with
 |int i=>obtain⟨t,rfl⟩:=hx;exact av.el h hy fun j u h=>Option.some.inj h▸P.add_int (bP S)
 |str p=>obtain⟨_,t,rfl⟩:=hx;exact onStr.el h hy fun q u d h=>jL h fun hs h=>have hz:=strLen_append ..▸ck hs;h▸tW (br hz) fun t k=>dF S hz
 |lst p=>
   refine cM.el h fun q e h=>?_
   cases e;obtain⟨a1,n1,Cs,rfl,z1,l1,r1⟩:=hx;obtain⟨a2,n2,Gq,rfl,z2,l2,r2⟩:=hy;refine jL h fun hs h=>h▸?_
   have hz:=ck hs;have e1:p.length=Cs.size:=r1.length;have e2:q.length=Gq.size:=r2.length
   exact P.add_list (S.z _ _ z1) (S.z _ _ z2) ⟨_,.push S aH _,_,_,_,rfl,Wd.aZ ..,List.length_append ..▸hz,(show(Cs++Gq).toList=Cs.toList++Gq.toList from Array.toList_append ..)▸(r1.append r2).mono (ai.push S aH _).le⟩ (br (e1▸e2▸hz))
 |tup p=>
   refine iE.el h fun q e h=>?_
   cases e;obtain⟨a1,n1,Cs,rfl,z1,l1,r1⟩:=hx;obtain⟨a2,n2,Gq,rfl,z2,l2,r2⟩:=hy;refine jL h fun hs h=>h▸?_
   obtain h1:=bj hs;obtain h2:=bj h1.1;obtain hz:=ck h1.2;have e1:p.length=Cs.size:=r1.length;have e2:q.length=Gq.size:=r2.length
   have ne:∀{l:List V} {xs:Array Value},l.length=xs.size→(l.length !=0)=true→¬xs.isEmpty=true:=fun e h q=>bne_iff_ne.mp h (e.trans (Array.isEmpty_iff_size_eq_zero.mp q))
   exact P.add_tuple (S.z _ _ z1) (S.z _ _ z2) (ne e1 h2.1) (ne e2 h2.2) ⟨_,.push S aH _,_,_,_,rfl,Wd.aZ ..,List.length_append ..▸hz,(show(Cs++Gq).toList=Cs.toList++Gq.toList from Array.toList_append ..)▸(r1.append r2).mono (ai.push S aH _).le⟩ (br (e1▸e2▸hz))
 |_=>exact nE h
theorem Ct{a1:Addr}{n1:Nat}{v:V}{x:Value}{j:Int}{u:Tok}(S:aG W H s)(z1:W.Z a1=some (gA #[x] n1))(r1:Rel W v x)(h0:0≤j)(hj:j<1000):wpAny gM A (binaryOp .Mult (.ref a1) (.int j u)) (fun z=>aU W H s aH H fun W' a=>Rel W' (.lst (List.replicate j.toNat v)) z) E s:=by
 obtain g:=S.z _ _ z1;obtain hn:=Int.toNat_le.mpr (Int.le_of_lt hj);obtain hm:=Nat.le_trans (Nat.le_of_eq (Nat.one_mul _)) hn
 refine wpAny_binaryOp_repeat_ref rfl ⟨_,g,rfl⟩ (fun s'=>typeIs_int s' j u) noFill_list_mul F.fills_int_mul F.slot_int_rmul repeat_list F.slot_int_index.lookup
  (call_meets F.slot_int_rmul (typeIs_int s j u) F.entry_int_rmul (F.args_int_rmul_2 _ _) (int___rmul___int_list j u a1 #[x] n1)
   ⟨g,rfl,⟨_,g,rfl⟩,call_meets F.slot_list_mul ⟨_,g,rfl⟩ F.entry_list_mul (F.args_list_mul_2 _ _)
    (lm_list_mul_any a1 #[x] n1 none #[] j u ?_ (Nat.not_lt_of_le (Nat.le_trans hm (by decide))) (fun q=>absurd (of_decide_eq_true q) (Nat.not_lt_of_le (Nat.le_trans hm (by decide))))) ⟨g,?_⟩⟩)
 ·rw[show Builtin.List.listFitsIndex j=true from dB ⟨decide_eq_true (Int.le_trans (by decide) h0),decide_eq_true (Int.lt_trans hj (by decide))⟩];exact Bool.false_ne_true
 ·exact⟨_,.push S aH _,_,_,_,rfl,Wd.aZ ..,(List.length_replicate ..)▸Nat.lt_of_le_of_lt hn (show 1000<ak by decide),(rj x j.toNat #[]).symm▸vN (r1.mono (ai.push S aH _).le) _⟩
theorem zw{op:Operator}{a b c:V}{x y:Value}(h:binop op a b=some c)(S:aG W H s)(hx:Rel W a x)(hy:Rel W b y):
  wpAny gM A (binaryOp op x y) (fun z=>aU W H s aH H fun W' d=>Rel W' c z) E s:=by
 induction op with
 |Add=>exact xe h S hx hy|Mult=>induction a using V.casesOn with
  |int i=>obtain⟨t,rfl⟩:=hx;exact av.el h hy fun j u h=>jL h fun hs h=>have q:=bj hs;h▸P.mul_int (bP S) (q_ q.1 q.2)
  |lst p=>
   obtain⟨a1,n1,⟨Cs⟩,rfl,z1,l1,r1⟩:=hx;refine av.el h hy fun j u h=>?_
   induction p using List.casesOn with |nil=>exact nE h|cons v p=>induction p using List.casesOn with |cons _ _=>exact nE h|nil=>induction Cs using List.casesOn with |nil=>exact r1.elim|cons x r=>induction r using List.casesOn with |cons _ _=>exact r1.2.elim|nil=>exact jL h fun hs h=>have q:=bj hs;h▸Ct S z1 r1.1 (of_decide_eq_true q.1) (of_decide_eq_true q.2)
  |_=>exact nE h
 |Sub=>exact av.el h hx fun i t h=>av.el h hy fun j u h=>Option.some.inj h▸P.sub_int (bP S)|FloorDiv=>
   refine av.el h hx fun i t h=>av.el h hy fun j u h=>jL h fun hs h=>?_
   obtain q:=bj hs;exact h▸AutoIntOps.floordiv_1 (fun e=>bne_iff_ne.mp q.1 (eq_of_beq e)) ((noPylong q.2)▸(Bool.false_ne_true)) (bP S)
 |Mod=>exact av.el h hx fun i t h=>av.el h hy fun j u h=>jL h fun hs h=>h▸AutoIntOps.mod_1 (fun e=>bne_iff_ne.mp hs (eq_of_beq e)) (bP S)|Pow=>
   refine av.el h hx fun i t h=>av.el h hy fun j u h=>jL h fun hs h=>?_
   have q:=bj hs;have q1:=bj q.1
   obtain q2:=bj q1.1;exact h▸Gp (of_decide_eq_true q2.1) q2.2 (of_decide_eq_true q1.2) (of_decide_eq_true q.2) fun t k=>cu S _ ⟨_,rfl⟩
 |_=>exact nE h
end
end Mine
end
noncomputable section
namespace Mine
inductive Iz where
|at(i:Nat)|cast(t:Ln)|lit(n:Nat)|add(a b:Iz)|sub(a b:Iz)|neg(a:Iz)|mul(n:Nat)(a:Iz)|nS(n:Nat)(a:Iz)
namespace Iz
noncomputable def F9:List Int→Nat→Int|[],aM=>0|a::aM,0=>a|aM::v,i+1=>F9 v i
def den(u:List Nat)(v:List Int):Iz→Int|.at i=>F9 v i|.cast t=>(t.den u:Nat)|.lit n=>Int.ofNat n|.add a b=>a.den u v+b.den u v|.sub a b=>a.den u v-b.den u v|.neg a=>-a.den u v|.mul n a=>Int.ofNat n* a.den u v|.nS n a=>a.den u v* Int.ofNat n
noncomputable def bg(f:Nat→Int)(g:Ln→Int)(h:Nat→Int):Iz→Int|.at i=>f i|.cast t=>g t|.lit n=>h n|.add a b=>a.bg f g h+b.bg f g h|.sub a b=>a.bg f g h+-1* b.bg f g h|.neg a=>-1* a.bg f g h|.mul n a=>Int.ofNat n* a.bg f g h|.nS n a=>Int.ofNat n* a.bg f g h
noncomputable def ci(i:Nat)(t:Iz):Int:=t.bg (fun j=>bif Nat.beq i j then 1 else 0) (fun a=>0) fun a=>0
noncomputable def cn(i:Nat)(t:Iz):Int:=t.bg (fun a=>0) (fun t=>Int.ofNat (t.co i)) fun a=>0
noncomputable def c0(t:Iz):Int:=t.bg (fun a=>0) (fun t=>Int.ofNat t.c0) fun n=>Int.ofNat n
noncomputable def dec(f c:Nat):Iz×Nat:=match f with
|0=>(.lit 0,c)|f+1=>
 bif Nat.ble (c %16) 5 then(.at (c %16),c/16)
 else bif Nat.beq (c %16) 6 then(.at (c/16 %16),c/256)
 else bif Nat.beq (c %16) 7 then match Ln.dec 64 (c/16) with |(t,r)=>(.cast t,r)
 else bif Nat.beq (c %16) 8 then match dec f (c/16) with |(a,c)=>match dec f c with |(b,c)=>(.add a b,c)
 else bif Nat.beq (c %16) 9 then(.lit (c/16 %16),c/256)
 else bif Nat.beq (c %16) 10 then match dec f (c/256) with |(a,r)=>(.mul (c/16 %16) a,r)
 else bif Nat.beq (c %16) 11 then match dec f (c/256) with |(a,r)=>(.nS (c/16 %16) a,r)
 else bif Nat.beq (c %16) 12 then match dec f (c/16) with |(a,c)=>match dec f c with |(b,c)=>(.sub a b,c)
 else bif Nat.beq (c %16) 13 then match dec f (c/16) with |(a,r)=>(.neg a,r)
 else(.lit (c/4096 %16^(c/16 %256)),c/4096/16^(c/16 %256))
def side(b:Bool)(c:Nat):Iz×Nat:=bif b then dec 64 c else match Ln.dec 64 c with |(t,r)=>(.cast t,r)
noncomputable def jF{α:Type}(p:Iz×Nat)(q:Nat→Iz×Nat)(m:Nat)(i:Bool)(t:Ln.Rk)(k:Nat→Bool→Ln.Rk→Iz→Iz→Nat→α):α:=match p with |(a,r)=>match q r with |(b,r)=>k m i t a b r
def xg(u:List Nat)(v:List Int)(k:Ln.Rk)(a b:Iz):Prop:=match k with |.le=>a.den u v≤b.den u v|.lt=>a.den u v<b.den u v|.eq=>a.den u v=b.den u v|.qe=>a.den u v=b.den u v|.yH=>¬a.den u v≤b.den u v|.yI=>¬a.den u v<b.den u v|.no=>False
def Gr(a:Iz)(f:Ln→Prop)(g:Prop):Prop:=@Iz.casesOn (fun b=>Prop) a (fun b=>g) f (fun b=>g) (fun b b=>g) (fun b b=>g) (fun b=>g) (fun b b=>g) (fun b b=>g)
def Gs(u:List Nat)(v:List Int)(i:Bool)(k:Ln.Rk)(a b:Iz):Prop:=bif i then xg u v k a b else a.Gr (fun x=>b.Gr (fun y=>k.den u x y) (xg u v k a b)) (xg u v k a b)
def Dn(u:List Nat)(v:List Int):Nat→Nat→Prop|0,c=>jF (side (Nat.ble 8 (c/16 %16)) (c/256)) (side (Nat.ble 8 (c/16 %16))) (c %16) (Nat.ble 8 (c/16 %16)) (.dec (c/16 %8)) fun d i k a b d=>Gs u v i k a b|n+1,c=>jF (side (Nat.ble 8 (c/16 %16)) (c/256)) (side (Nat.ble 8 (c/16 %16))) (c %16) (Nat.ble 8 (c/16 %16)) (.dec (c/16 %8)) fun d i k a b c=>Gs u v i k a b→Dn u v n c
noncomputable def step(m e:Nat)(l r P:Iz):Iz:=.add (.mul m (.add (.sub l r) (.lit e))) P
def Gu(t:Bool)(m:Nat)(k:Ln.Rk)(a b P:Iz):Iz:=match k with |.le=>step m 0 a b P|.lt=>step m 1 a b P|.eq=>bif t then step m 0 a b P else step m 0 b a P|.qe=>bif t then step m 0 b a P else step m 0 a b P|.yH=>step m 1 b a P|.yI=>step m 0 b a P|.no=>P
noncomputable def sgn:Int→Bool|.ofNat _=>true|.negSucc _=>false
noncomputable def Pz:Int→Bool|.ofNat (_+1)=>true|_=>false
noncomputable def UX:Int→Bool|.ofNat 0=>true|_=>false
noncomputable def un(u:List Nat)(i:Nat)(P:Iz):Bool:=match u with |[]=>true|_::u=>sgn (P.cn i)&&un u (i+1) P
noncomputable def vn(v:List Int)(i:Nat)(P:Iz):Bool:=match v with |[]=>true|_::v=>UX (P.ci i)&&vn v (i+1) P
def fin(u:List Nat)(v:List Int)(P:Iz):Bool:=Pz P.c0&&(un u 0 P&&vn v 0 P)
def goal(u:List Nat)(v:List Int)(m:Nat)(k:Ln.Rk)(a b P Q:Iz):Bool:=match k with |.le=>fin u v (step m 1 b a P)|.lt=>fin u v (step m 0 b a P)|.eq=>fin u v (step (m %4) 1 b a P)&&fin u v (step (m/4) 1 a b Q)|.yH=>fin u v (step m 0 a b P)|.yI=>fin u v (step m 1 a b P)|_=>fin u v P
noncomputable def cL(u:List Nat)(v:List Int)(q:Bool):Nat→Nat→Iz→Iz→Bool|0,c,P,Q=>jF (side (Nat.ble 8 (c/16 %16)) (c/256)) (side (Nat.ble 8 (c/16 %16))) (c %16) (Nat.ble 8 (c/16 %16)) (.dec (c/16 %8)) fun m d k a b d=>goal u v m k a b P Q|n+1,c,P,Q=>jF (side (Nat.ble 8 (c/16 %16)) (c/256)) (side (Nat.ble 8 (c/16 %16))) (c %16) (Nat.ble 8 (c/16 %16)) (.dec (c/16 %8)) fun m d k a b c=>cL u v q n c (Gu true (bif q then m %4 else m) k a b P) (Gu false (m/4) k a b Q)
noncomputable def di(v:List Int)(f:Nat→Int):Int:=match v with |[]=>0|a::v=>f 0* a+di v fun i=>f (i+1)
abbrev dn(u:List Nat):(Nat→Int)→Int:=di (u.map Int.ofNat)
theorem Kh(a b c d:Int):a+b+(c+d)=a+c+(b+d):=by omega
theorem pN(u:List Int)(f g:Nat→Int):di u (fun i=>f i+g i)=di u f+di u g:=by
 induction u generalizing f g with |nil=>rfl|cons a v ih=>exact(congr (congrArg HAdd.hAdd (Int.add_mul ..)) (ih ..)).trans (Kh ..)
theorem zx(u:List Int)(n:Int)(f:Nat→Int):di u (fun i=>n* f i)=n* di u f:=by
 induction u generalizing f with |nil=>exact(Int.mul_zero n).symm|cons a v ih=>exact(congr (congrArg HAdd.hAdd (Int.mul_assoc ..)) (ih ..)).trans (Int.mul_add ..).symm
theorem jd(u:List Int):di u (fun b=>0)=0:=by
 induction u with |nil=>rfl|cons a v ih=>exact(congr (congrArg HAdd.hAdd (Int.zero_mul a)) ih).trans rfl
theorem Kl(v:List Int)(j:Nat):di v (fun i=>bif Nat.beq i j then 1 else 0)=F9 v j:=by
 induction v generalizing j with |nil=>rfl|cons a v ih=>induction j with |zero=>exact(congr (congrArg HAdd.hAdd (Int.one_mul a)) (jd v)).trans (Int.add_zero a)|succ j=>exact(congr (congrArg HAdd.hAdd (Int.zero_mul a)) (ih j)).trans (Int.zero_add _)
theorem Km(u:List Nat)(f:Nat→Nat):dn u (fun i=>Int.ofNat (f i))=(Ln.dot u f:Nat):=by
 induction u generalizing f with |nil=>rfl|cons a u ih=>exact congrArg (Int.ofNat (f 0)* Int.ofNat a+·) (ih ..)
theorem PA{x c n i k:Int}(h:x=c+n+i):k* x=k* c+k* n+k* i:=h▸(Int.mul_add ..).trans (congrArg (·+_) (Int.mul_add ..))
theorem sum(u:List Nat)(v:List Int)(t:Iz):t.den u v=t.c0+dn u (fun i=>t.cn i)+di v fun i=>t.ci i:=by
 have mul (n:Int) (a:Iz) (h:a.den u v=a.c0+dn u (fun i=>a.cn i)+di v fun i=>a.ci i):n* a.den u v=n* a.c0+dn u (fun i=>n* a.cn i)+di v fun i=>n* a.ci i:=(PA h).trans (congr (congrArg HAdd.hAdd (congrArg _ (zx ..).symm)) (zx ..).symm)
 have add (a b:Iz) (ha:a.den u v=a.c0+dn u (fun i=>a.cn i)+di v fun i=>a.ci i) (hb:b.den u v=b.c0+dn u (fun i=>b.cn i)+di v fun i=>b.ci i):a.den u v+b.den u v=(a.c0+b.c0)+dn u (fun i=>a.cn i+b.cn i)+di v fun i=>a.ci i+b.ci i:=(congr (congrArg HAdd.hAdd ha) hb).trans ((Kh ..).trans (congr (congrArg HAdd.hAdd ((Kh ..).trans (congrArg _ (pN ..).symm))) (pN ..).symm))
 induction t with |«at»j=>exact(Kl v j).symm.trans ((Int.zero_add _).symm.trans (congrArg (·+_) (((jd _).symm.trans (Int.zero_add _).symm))))|cast t=>exact(congrArg Int.ofNat (Ln.sum u t)).trans ((congrArg (Int.ofNat t.c0+·) (Km u _).symm).trans ((Int.add_zero _).symm.trans (congrArg (_+·) (jd v).symm)))|lit n=>exact((Int.add_zero _).symm.trans (congrArg (_+·) (jd _).symm)).trans ((Int.add_zero _).symm.trans (congrArg (_+·) (jd v).symm))|add a b ha hb=>exact add a b ha hb|sub a b ha hb=>exact(Int.sub_eq_add_neg.trans (congrArg (_+·) (Int.neg_eq_neg_one_mul _))).trans ((congr (congrArg HAdd.hAdd ha) (mul (-1) b hb)).trans ((Kh ..).trans (congr (congrArg HAdd.hAdd ((Kh ..).trans (congrArg _ (pN ..).symm))) (pN ..).symm)))|neg a h=>exact(Int.neg_eq_neg_one_mul _).trans (mul (-1) a h)|mul n a h=>exact mul n a h|nS n a h=>exact(Int.mul_comm ..).trans (mul n a h)
theorem Kn{u:List Nat}{i:Nat}{P:Iz}(h:un u i P=true):0≤dn u fun j=>P.cn (j+i):=by
 induction u generalizing i with
 |nil=>exact Int.le_refl _|cons a u ih=>
  obtain⟨h1,h2⟩:=bj h;refine Int.add_nonneg (Int.mul_nonneg ?_ (Int.natCast_nonneg a)) ?_
  ·show 0≤P.cn (0+i);rw[Nat.zero_add];induction e:P.cn i with |ofNat n=>exact Int.natCast_nonneg n|negSucc n=>rw[e] at h1;exact bE h1
  ·have :=ih h2;simp only[Nat.add_assoc,Nat.add_comm 1 i];exact this
theorem Ko{v:List Int}{i:Nat}{P:Iz}(h:vn v i P=true):(di v fun j=>P.ci (j+i))=0:=by
 induction v generalizing i with
 |nil=>rfl|cons a u ih=>
  obtain⟨h1,h2⟩:=bj h;have e0:P.ci (0+i)=0:=by
   rw[Nat.zero_add];induction e:P.ci i with
   |ofNat n=>induction n with |zero=>rfl|succ n=>rw[e] at h1;exact bE h1
   |negSucc n=>rw[e] at h1;exact bE h1
  have :=ih h2;simp only[di,e0,Int.zero_mul,Nat.add_assoc,Nat.add_comm 1 i,this];rfl
theorem cf{u:List Nat}{v:List Int}{P:Iz}(h:fin u v P=true)(q:P.den u v≤0):False:=by
 obtain⟨h1,h2⟩:=bj h;obtain⟨h2,h3⟩:=bj h2;rw[sum] at q;have a:=Kn h2
 have b:=Ko h3;have c:0<P.c0:=by
  induction e:P.c0 with
  |ofNat n=>induction n with |zero=>rw[e] at h1;exact bE h1|succ n=>exact Int.natCast_pos.mpr (Nat.succ_pos n)
  |negSucc n=>rw[e] at h1;exact bE h1
 simp only[Nat.add_zero] at a b;omega
theorem aN{u:List Nat}{v:List Int}{m e:Nat}{l r P:Iz}(h:l.den u v+(e:Nat)≤r.den u v)(q:P.den u v≤0):(step m e l r P).den u v≤0:=by have :=Int.mul_le_mul_of_nonneg_left (show l.den u v-r.den u v+(e:Nat)≤0 by omega) (Int.natCast_nonneg m);rw[Int.mul_zero] at this;exact Int.add_le_add this q
theorem zy{a:Iz}{f:Ln→Prop}{g:Prop}(h:∀t,a=.cast t→(f t↔g)):a.Gr f g↔g:=by
 induction a with |cast t=>exact h t rfl|_=>exact .rfl
theorem tX{u:List Nat}{v:List Int}{i:Bool}{k:Ln.Rk}{a b:Iz}:Gs u v i k a b↔xg u v k a b:=by
 induction i with
 |true=>exact .rfl|false=>
  refine zy fun x ha=>zy fun y hb=>?_
  subst ha hb;induction k with |le=>exact Int.ofNat_le.symm|lt=>exact Int.ofNat_lt.symm|eq=>exact Int.ofNat_inj.symm|qe=>exact Int.ofNat_inj.symm|yH=>exact not_congr Int.ofNat_le.symm|yI=>exact not_congr Int.ofNat_lt.symm|no=>exact .rfl
theorem vO{u:List Nat}{v:List Int}{t:Bool}{m:Nat}{k:Ln.Rk}{a b P:Iz}(h:xg u v k a b)(q:P.den u v≤0):(Gu t m k a b P).den u v≤0:=by
 have z (x:Int):x+(0:Nat)=x:=Int.add_zero x;induction k with
 |le=>exact aN ((z _).symm▸h) q|lt=>exact aN h q|yH=>exact aN (Int.lt_of_not_ge h) q|yI=>exact aN ((z _).symm▸Int.not_lt.mp h) q|no=>exact q|eq=>induction t;exact aN ((z _).symm▸Int.le_of_eq h.symm) q;exact aN ((z _).symm▸Int.le_of_eq h) q
 |qe=>induction t;exact aN ((z _).symm▸Int.le_of_eq h) q;exact aN ((z _).symm▸Int.le_of_eq h.symm) q
theorem pG{u:List Nat}{v:List Int}{m:Nat}{k:Ln.Rk}{a b P Q:Iz}(h:goal u v m k a b P Q=true)(p:P.den u v≤0)(q:Q.den u v≤0):xg u v k a b:=by
 have z (x:Int):x+(0:Nat)=x:=Int.add_zero x;induction k with |le=>exact Int.not_lt.mp fun x=>cf h (aN x p)|lt=>exact Int.not_le.mp fun x=>cf h (aN ((z _).symm▸x) p)|eq=>exact Int.le_antisymm (Int.not_lt.mp fun x=>cf (bj h).1 (aN x p)) (Int.not_lt.mp fun x=>cf (bj h).2 (aN x q))|yH=>exact fun x=>cf h (aN ((z _).symm▸x) p)|yI=>exact fun x=>cf h (aN x p)|no=>exact cf h p|qe=>exact(cf h p).elim
theorem i7{α β:Type}{R:α→β→Prop}{p:Iz×Nat}{q:Nat→Iz×Nat}{m:Nat}{i:Bool}{t:Ln.Rk}{k:Nat→Bool→Ln.Rk→Iz→Iz→Nat→α}{k':Nat→Bool→Ln.Rk→Iz→Iz→Nat→β}(h:∀m i t a b c,R (k m i t a b c) (k' m i t a b c)):R (jF p q m i t k) (jF p q m i t k'):=h ..
theorem tM{u:List Nat}{v:List Int}{g:Bool}{n c:Nat}{P Q:Iz}(h:cL u v g n c P Q=true)(p:P.den u v≤0)(q:Q.den u v≤0):Dn u v n c:=by
 induction n generalizing c P Q with |zero=>exact i7 (R:=fun x y=>x=true→y) (fun a a a a a a h=>tX.mpr (pG h p q)) h|succ n ih=>exact i7 (R:=fun x y=>x=true→y) (fun a a a a a a h x=>ih h (vO (tX.mp x) p) (vO (tX.mp x) q)) h
theorem go(c:Nat)(u:List Nat)(v:List Int)(h:cL u v (Nat.beq (c/16 %16) 1) (c %16) (c/256) (.lit 0) (.lit 0)=true):Dn u v (c %16) (c/256):=tM h (Int.le_refl _) (Int.le_refl _)
end Iz
theorem Cu(c:Nat){a:Nat}(h:Iz.cL [a] [] (Nat.beq (c/16 %16) 1) (c %16) (c/256) (.lit 0) (.lit 0)=true):Iz.Dn [a] [] (c %16) (c/256):=Iz.go c _ _ h
theorem yJ(c:Nat){x:Int}(h:Iz.cL [] [x] (Nat.beq (c/16 %16) 1) (c %16) (c/256) (.lit 0) (.lit 0)=true):Iz.Dn [] [x] (c %16) (c/256):=Iz.go c _ _ h
theorem BZ(c:Nat){a b:Nat}(h:Iz.cL [a,b] [] (Nat.beq (c/16 %16) 1) (c %16) (c/256) (.lit 0) (.lit 0)=true):Iz.Dn [a,b] [] (c %16) (c/256):=Iz.go c _ _ h
theorem IX(c:Nat){a:Nat}{x:Int}(h:Iz.cL [a] [x] (Nat.beq (c/16 %16) 1) (c %16) (c/256) (.lit 0) (.lit 0)=true):Iz.Dn [a] [x] (c %16) (c/256):=Iz.go c _ _ h
theorem SR(c:Nat){a b d e:Nat}(h:Iz.cL [a,b,d,e] [] (Nat.beq (c/16 %16) 1) (c %16) (c/256) (.lit 0) (.lit 0)=true):Iz.Dn [a,b,d,e] [] (c %16) (c/256):=Iz.go c _ _ h
theorem UY(c:Nat){x y:Int}(h:Iz.cL [] [x,y] (Nat.beq (c/16 %16) 1) (c %16) (c/256) (.lit 0) (.lit 0)=true):Iz.Dn [] [x,y] (c %16) (c/256):=Iz.go c _ _ h
end Mine
end
noncomputable section
open PySem PySem.W PySem.Builtin PySem.Builtin.Str PyProof.Rows
namespace Mine
section
variable{n:Nat}{A:Around}{E:Value→Shared→Prop}{W:Wd}{H H':AH}{s:Shared}{sc:Scope}{env:ah}{e':Env}
theorem ko(xs:Array Value):(!xs.isEmpty)=(xs.size !=0):=by rfl
set_option tactic.hygienic true in
theorem bQ{k:Nat}{o:aE}(h:hget k H=some (o,H')):H[k]?=some o∧nU H k∧H'=H:=by
 unfold hget at h;split at h
 ·exact nE h
 ·rename_i o' hn ho;cases h;refine⟨ho,⟨o,ho,?_⟩,rfl⟩;induction o<;>first|trivial|exact hn ho
 ·exact nE h
theorem aG.at(S:aG W H s){k:Nat}{o:aE}{a:Addr}(h:H[k]?=some o)(ha:W.φ k=some a):kU W s.heap a k o:=by obtain⟨a',h1,h2⟩:=S.obj k o h;rw[ha] at h1;obtain rfl:=Option.some.inj h1;exact h2
theorem tY{v:V}{b:Bool}{x:Value}(h:NJ v H=some (b,H'))(S:aG W H s)(r:Rel W v x){Q:Bool→Shared→Prop}
  (k:∀t,Q b {s with toks:=t})(hH:H'=H:=by rfl):wpAny gM A (truthy x) Q E s:=by
 induction v using V.casesOn with
 |none=>obtain UZ:=(aW h).1;subst UZ;subst r;exact truthy_none (k s.toks)
 |bool c=>obtain Kp:=(aW h).1;subst Kp;subst r;exact wpAny_truthy_bool (k s.toks)
 |int i=>obtain⟨rfl,_⟩:=aW h;obtain⟨t,rfl⟩:=r;exact P.truthy_int (k s.toks)
 |str y=>
  obtain⟨rfl,_⟩:=aW h;obtain⟨hz,t,rfl⟩:=r;refine P.truthy_str (by unfold ak at hz;exact Cu (nat_lit 0x9096107800000000000000010e811000006f01102) ae hz) ?_;obtain e:((y.length:Int)!=0)=(y.length !=0):=by rw[Bool.eq_iff_iff];simp
  rw[e];exact k _
 |lst vs=>obtain⟨rfl,_⟩:=aW h;obtain⟨a,n,xs,rfl,z,hz,rs⟩:=r;obtain el:=rs.length;simp only[Array.length_toList] at el;obtain il:s.heap.IsList a xs:=⟨_,S.z _ _ z,rfl,n,rfl⟩;refine wpAny_truthy_list il (by unfold ak at hz;exact BZ (nat_lit 0x800000000000000010e17911000006f011103102) ae el hz) ?_;rw[ko,←el];exact k _
 |ref j=>
  refine bJ h fun o H₁ h1 h2=>?_
  obtain⟨ho,hn,rfl⟩:=bQ h1;obtain⟨a,rfl,ha⟩:=r;obtain O:=S.at ho ha;induction o with
  |lst vs=>obtain⟨rfl,_⟩:=aW h2;obtain⟨n,xs,g1,hz,rs⟩:=O;obtain el:=rs.length;simp only[Array.length_toList] at el;obtain il:s.heap.IsList a xs:=⟨_,g1,rfl,n,rfl⟩;refine wpAny_truthy_list il (by unfold ak at hz;exact BZ (nat_lit 0x800000000000000010e17911000006f011103102) ae el hz) ?_;rw[ko,←el];exact k _
  |_=>exact nE h2
 |_=>exact nE h
theorem tZ{M:Model}{E:Value→Shared→Prop}{l r:Expr}{op:CmpOp}{p:Pos}{Q:Bool→Shared→Prop}{s:Shared}(h:wpAny M A (eval (.Compare l [op] [r] p) e') (fun v s₁=>wpAny M A (truthy v) Q E s₁) E s):
  wpAny M A (isTrue (.Compare l [op] [r] p) e' (eval (.Compare l [op] [r] p) e')) Q E s:=fun Γ q hΓ=>by
 obtain h':=h Γ q hΓ;simp only[isTrue_Compare1];simp only[eval_Compare1] at h';simp only[Sem.wp_bind',Sem.wp_holding,Sem.wp_cmd_standAt,Sem.wp_operate] at h'⊢;refine Sem.wp_mono M Γ _ (fun a p₁ s₁ h₁=>Sem.wp_mono M Γ _ (fun b p₂ s₂ h₂=>Sem.wp_mono M Γ _ (fun c p₃ s₃ h₃=>h₃ Γ _ hΓ) (fun d d d h'=>h') _ _ h₂) (fun d d d h'=>h') _ _ h₁) (fun d d d h'=>h') _ _ h'
end
noncomputable def Wd.ref(W:Wd)(k:Nat)(a:Addr):Wd:={W with φ:=fun j=>if j=k then some a else W.φ j,own:=fun b=>if b=a then some k else W.own b}
section
variable{n:Nat}{A:Around}{E:Value→Shared→Prop}{W:Wd}{H H':AH}{s:Shared}{sc:Scope}{env:ah}{e':Env}
theorem Wd.gK(S:aG W H s){k:Nat}{a:Addr}(hk:H.length≤k):W.Le (W.ref k a):=
 ⟨fun c c h=>h,fun j b h=>by
  refine(?_:(if j=k then some a else W.φ j)=some b);have :=(S.b_ b j (S.i5 j b h)).1
  refine(if_neg (aQ (nat_lit 0x9096120312101101103) ae this hk)).trans ?_;exact h⟩
set_option tactic.hygienic true in
theorem ai.new(S:aG W H s)(X:Addr→Prop)(o:aE)(ob:Obj)(hf:ob.isFreed=false)(t:Nat)
  (hr:kU (W.ref H.length s.heap.objs.size) (s.heap.push ob) s.heap.objs.size H.length o):
  ai W H s X (W.ref H.length s.heap.objs.size) (H++[o]) {s with heap:=s.heap.push ob,toks:=t}:=by
 have L:W.Le (W.ref H.length s.heap.objs.size):=Wd.gK S (Nat.le_refl _);have kp:∀a o,s.heap.get? a=some o→(s.heap.push ob).get? a=some o:=fun a o e=>Heap.get?_push_of_some _ e
 have ow:∀a k,(W.ref H.length s.heap.objs.size).own a=some k→(a=s.heap.objs.size∧k=H.length)∨(a≠s.heap.objs.size∧W.own a=some k):=by
  intro a k h;have h':(if a=s.heap.objs.size then some H.length else W.own a)=some k:=h
  split at h'
  ·rename_i e;obtain rfl:=Option.some.inj h';exact .inl ⟨e,rfl⟩
  ·rename_i e;exact .inr ⟨e,h'⟩
 have vK:∀a k,W.own a=some k→(W.ref H.length s.heap.objs.size).own a=some k:=by intro a k h;refine(if_neg (Nat.ne_of_lt (S.b_ a k h).2)).trans ?_;exact h
 refine⟨⟨?_,?_,?_,?_,?_,?_,S.base⟩,L,vK,?_,fun d d h=>.inl h,fun a o e d d d=>kp _ _ e,fun a ps d e=>⟨#[],by exact kp _ _ e⟩,?_,by simp,by rw[Heap.size_push];exact aJ (nat_lit 6719275264) ae,rfl,rfl⟩
 ·exact fun a o h=>kp _ _ (S.z a o h)
 ·intro k a h;have h':(if k=H.length then some s.heap.objs.size else W.φ k)=some a:=h;show(if a=s.heap.objs.size then some H.length else W.own a)=some k;split at h'
  ·rename_i e;obtain rfl:=Option.some.inj h';rw[if_pos rfl,e]
  ·obtain this:=S.i5 k a h';refine(if_neg (Nat.ne_of_lt (S.b_ a k this).2)).trans ?_;exact this
 ·intro a k h;rcases ow a k h with ⟨rfl,rfl⟩|⟨cI,h'⟩
  ·exact⟨by simp,by rw[Heap.size_push];exact Nat.lt_succ_self _⟩
  ·obtain this:=S.b_ a k h';exact⟨by simp;exact aA (nat_lit 441454204817665) ae this.1,by rw[Heap.size_push];exact Nat.lt_succ_of_lt this.2⟩
 ·intro a k h hl;rcases ow a k h with ⟨rfl,rfl⟩|⟨cI,h'⟩
  ·exact S.gJ (Nat.le_refl _)
  ·refine S.qX a k h' ?_;obtain⟨o',Kq,hn⟩:=hl;rw[List.getElem?_append_left (S.b_ a k h').1] at Kq;exact⟨o',Kq,hn⟩
 ·intro k o' h;by_cases hk:k<H.length
  ·rw[List.getElem?_append_left hk] at h;obtain⟨a,h1,h2⟩:=S.obj k o' h;exact⟨a,L.φ _ _ h1,h2.keeps L (fun b hb=>vK b k hb) (fun o e=>kp _ _ e) fun b o d e=>kp _ _ e⟩
  ·obtain gz:k=H.length:=by
    have :=(c_ h).1;simp at this;exact aA (nat_lit 0x10251054191801112) ae this hk
   subst gz;rw[List.getElem?_append_right (Nat.le_refl _),Nat.sub_self] at h;obtain rfl:=Option.some.inj h;exact⟨_,by simp[Wd.ref],hr⟩
 ·intro c P q hm;obtain⟨h1,h0,h2,lY,ps,h3,h4,h5⟩:=S.tab c P q hm;obtain hP:(if P=s.heap.objs.size then some H.length else W.own P)=none:=by refine(if_neg (Nat.ne_of_lt (Heap.lt_size h3)))▸?_;exact lY
  exact⟨h1.keeps kp,h0,h2,hP,ps,kp _ _ h3,h4,h5⟩
 ·intro a k h;rcases ow a k h with ⟨rfl,rfl⟩|⟨cI,h'⟩
  ·exact .inr ⟨Nat.le_refl _,by rw[List.getElem?_eq_none (Nat.le_refl _)];intro e;exact nE e⟩
  ·exact .inl h'
 ·intro k h;obtain this:=(c_ h).1;rw[List.getElem?_append_left this];exact h
theorem dZ{o:aE}{v:V}(h:gC o H=some (v,H')):v=.ref H.length∧H'=H++[o]:=by cases h;exact⟨rfl,rfl⟩
theorem Wd.d8(W:Wd)(k:Nat)(a:Addr):(W.ref k a).φ k=some a:=by simp[Wd.ref]
theorem t6{c:Bool}{vs:List V}{xs:List Value}{v:V}(h:(if c then gC (.lst vs) else pure (.lst vs)) H=some (v,H'))(S:aG W H s)(r:ay W vs xs)(hz:vs.length<ak):
  wpAny gM A (newList xs) (fun x=>aU W H s aH H' fun W' a=>Rel W' v x) E s:=by
 obtain el:=r.length;refine wpAny_newObj_type (hd:=by show xs.toArray.size≤sizeLine;simp only[List.size_toArray,←el];exact br hz) ?_;induction c with
 |false=>refine gG h ?_;obtain PP:=ai.push S aH (gA xs.toArray 0);refine⟨_,PP,?_⟩;exact⟨_,_,_,rfl,Wd.aZ ..,hz,by exact r.mono PP.le⟩
 |true=>obtain⟨rfl,rfl⟩:=dZ h;obtain PP:=ai.new S aH (.lst vs) (gA xs.toArray 0) rfl s.toks ⟨0,xs.toArray,Heap.get?_push_size _ rfl,hz,by exact r.mono (Wd.gK S (Nat.le_refl _))⟩;refine⟨_,PP,?_⟩;exact⟨_,rfl,Wd.d8 ..⟩
theorem rB{vs:List V}{xs:List Value}(S:aG W H s)(r:ay W vs xs)(hz:vs.length<ak):
  wpAny gM A (newTuple xs) (fun x=>aU W H s aH H fun W' a=>Rel W' (.tup vs) x) E s:=by
 obtain el:=r.length;refine wpAny_newObj_type (hd:=by show xs.toArray.size≤sizeLine;simp only[List.size_toArray,←el];exact br hz) ?_;obtain PP:=ai.push S aH (nL xs.toArray 0);refine⟨_,PP,?_⟩;exact⟨_,_,_,rfl,Wd.aZ ..,hz,by exact r.mono PP.le⟩
end
section
variable{A:Around}{W:Wd}{H:AH}{s:Shared}
theorem Reld.length:∀{kvs:List (Str×V)} {es:List DictEntry},Reld W kvs es→kvs.length=es.length|[],[],aM=>rfl|(k,v)::r,e::es,h=>by simp only[List.length_cons,Reld.length h.2.2]|[],aM::bL,h=>False.elim h|aM::bL,[],h=>False.elim h
theorem Reld.strs:∀{kvs:List (Str×V)} {es:List DictEntry},Reld W kvs es→(es.all fun e=>isExactStrKey e.key)=true
|[],[],aM=>rfl|(k,v)::r,e::es,h=>by obtain⟨⟨_,_,t,hk⟩,_,hr⟩:=h;simp only[List.all_cons,Reld.strs hr,hk];rfl
|[],aM::bL,h=>False.elim h|aM::bL,[],h=>False.elim h
theorem Reld.find:∀{kvs:List (Str×V)} {es:List DictEntry} (x:Str),Reld W kvs es→
  match es.findIdx? (fun e=>e.key.isStr x) with |none=>kvs.lookup x=none|some j=>∃e u,es[j]?=some e∧kvs.lookup x=some u∧Rel W u e.val
 |[],[],x,aM=>by rfl|(k,v)::r,e::es,x,h=>by
  obtain⟨⟨hl,_,t,hk⟩,hv,hr⟩:=h;rw[List.findIdx?_cons,hk];by_cases hx:k=x
  ·subst hx;simp only[Value.isStr,beq_self_eq_true,if_true,List.lookup_cons];exact⟨e,v,rfl,rfl,hv⟩
  ·obtain h1:Value.isStr (.str k t) x=false:=by simp[Value.isStr,hx]
   obtain h2:(x==k)=false:=by simp;exact fun h=>hx h.symm
   rw[h1];simp only[Bool.false_eq_true,if_false,List.lookup_cons,h2];obtain ih:=Reld.find x hr;induction hf:es.findIdx? (fun e=>e.key.isStr x) with
   |none=>obtain ih:=hf▸ih;exact ih
   |some j=>
    rw[hf] at ih;refine ih.elim fun e' U0=>?_;refine U0.elim fun u PB=>?_;obtain h3:=PB.1;obtain h4:=PB.2.1;obtain h5:=PB.2.2
    exact⟨e',u,by exact h3,h4,h5⟩
 |[],aM::bL,gn,h=>False.elim h|aM::bL,[],gn,h=>False.elim h
theorem Cv{es:Array DictEntry}(h:(es.toList.all fun e=>isExactStrKey e.key)=true):(es.all fun e=>isExactStrKey e.key)=true:=by refine Array.all_toList▸?_;exact h
theorem rC(es:Array DictEntry)(p:DictEntry→Bool):es.findIdx? p=es.toList.findIdx? p:=by induction es with |mk l=>simp
theorem rD{prog:Program}{w:World}{E:Value→Shared→Prop}{kvs:List (Str×V)}{d:Addr}{n:Nat}{es:Array DictEntry}{x:Str}{t:Tok}{NN:Int}{Q:Option Nat→Shared→Prop}
  (ho:s.heap.get? d=some (cT es n))(r:Reld W kvs es.toList)
  (k:match kvs.lookup x with |none=>Q none s|some u=>∀j e,es[j]?=some e→Rel W u e.val→Q (some j) s):wpAny (model prog w) A (dictFind d (.str x t) NN) Q E s:=by
 refine KTD.kt_dictFind_strs ho rfl (Cv r.strs) ?_;obtain hf:=r.find x;rw[rC];induction hi:es.toList.findIdx? (fun e=>e.key.isStr x) with
 |none=>obtain hf:=hi▸hf;obtain k:=hf▸k;exact k
 |some j=>rw[hi] at hf;obtain⟨e,u,h1,h2,h3⟩:=hf;obtain k:=h2▸k;exact k j e (by refine(Array.getElem?_toList)▸?_;exact h1) h3
structure Kr(A:Around)(s:Shared)(x y:Value)(r:Bool):Prop where
 self:x=y→r=true
 eq:SeqAt.EqAt A s x y r
 rc:SeqAt.RcAt A s x y r
 ne:SeqAt.RcNeAt A s x y (!r)
inductive U1(T:Value→Value→Bool→Prop)(xs ys:List Value)(r:Bool):Prop|mk(e:Nat→Bool)(h1:xs.length=ys.length)(h2:(List.range xs.length).all e=r)(h3:∀j (h:j<xs.length) (h':j<ys.length),T xs[j] ys[j] (e j))
theorem SS{T:Value→Value→Bool→Prop}{f:V→V→Option Bool}(he:∀{v u x y p},f v u=some p→Rel W v x→Rel W u y→T x y p){vs us:List V}{xs ys:List Value}{q:Bool}(h1:ay W vs xs)(h2:ay W us ys)(h:lH f vs us=some q):U1 T xs ys q:=by
 induction vs generalizing us xs ys q with
 |nil=>induction xs with
  |cons _ _=>exact h1.elim|nil=>induction us with
   |nil=>induction ys with |nil=>exact⟨fun a=>true,rfl,Option.some.inj h,fun j h=>absurd h (Nat.not_lt_zero j)⟩|cons _ _=>exact h2.elim
   |cons _ _=>exact nE h
 |cons v vs ih=>induction xs with
  |nil=>exact h1.elim|cons x xs=>induction us with
   |nil=>exact nE h|cons u us=>induction ys with
    |nil=>exact h2.elim|cons y ys=>
     obtain h:(match f v u,lH f vs us with |some p,some q=>some (p&&q)|_,_=>none)=some q:=h;induction hp:f v u with
     |none=>obtain h:=hp▸h;exact nE h
     |some p=>induction hq:lH f vs us with
      |none=>rw[hp,hq] at h;exact nE h|some q'=>
       rw[hp,hq] at h;induction ih h1.2 h2.2 hq with |mk e g1 g2 g3=>refine⟨fun j=>j.casesOn p e,congrArg (·+1) g1,?_,fun j=>j.casesOn (fun a a=>he hp h1.1 h2.1) fun j h h'=>g3 j (Nat.lt_of_succ_lt_succ h) (Nat.lt_of_succ_lt_succ h')⟩;simp only[List.length_cons,List.range_succ_eq_map,List.all_cons,List.all_map];exact(congrArg (p&&·) g2).trans (Option.some.inj h)
def HR(W:Wd)(h:Heap):V→Value→Prop|.lst vs,x=>Cp h.get? gA vs.length (ay W vs) x|.tup vs,x=>Cp h.get? nL vs.length (ay W vs) x|.bf kvs,x=>J6 h.get? kvs (Reld W kvs) x|v,x=>Rel W v x
noncomputable def Gv(o:Option aE)(k:Nat):V:=match o with |some (.lst xs)=>.lst xs|some (.bf kvs)=>.bf kvs|_=>.ref k
theorem je{k:Nat}{o:Option aE}(ho:H[k]?=o):deref H (.ref k)=Gv o k:=ho▸rfl
theorem lZ{a:V}{x:Value}(S:aG W H s)(r:Rel W a x):HR W s.heap (deref H a) x:=by
 induction a using V.casesOn with
 |lst vs=>obtain⟨a,n,xs,h1,h2,h3,h4⟩:=r;exact⟨a,n,xs,h1,S.z _ _ h2,h3,h4⟩
 |tup vs=>obtain⟨a,n,xs,h1,h2,h3,h4⟩:=r;exact⟨a,n,xs,h1,S.z _ _ h2,h3,h4⟩
 |bf vs=>obtain⟨a,n,xs,h1,h2,h3,h4,h5,h6⟩:=r;exact⟨a,n,xs,h1,S.z _ _ h2,h3,h4,h5,h6⟩
 |ref k=>
  have r':=r;obtain⟨a,rfl,ha⟩:=r';induction ho:H[k]? with
  |none=>rw[je ho];exact r|some o=>
   have O:=S.at ho ha;induction o with
   |lst vs=>rw[je ho];obtain⟨n,xs,h1,h2,h3⟩:=O;exact⟨a,n,xs,rfl,h1,h2,h3⟩
   |bf vs=>rw[je ho];obtain⟨n,xs,h1,h2,h3,h4,h5⟩:=O;exact⟨a,n,xs,rfl,h1,h2,h3,h4,h5⟩
   |_=>rw[je ho];exact r
 |_=>exact r
theorem cU{α:Type}{l:List (Str×α)}{x:Str}{k:α}(nd:(l.map (·.1)).Nodup)(h:(x,k)∈l):l.lookup x=some k:=by
 induction l with
 |nil=>exact nomatch h|cons p r ih=>
  obtain nd:=lE nd;rw[List.lookup_cons];rcases bz h with e|e
  ·subst e;rw[beq_self_eq_true]
  ·have cI:=nR fun he=>nd.1 (he.subst (yQ ⟨_,e,rfl⟩))
   rw[cI];exact ih nd.2 e
theorem gA.xh{h:Option Obj}{xs ys:Array Value}{n m:Nat}(a:h=some (gA xs n))(b:h=some (gA ys m)):xs=ys:=(Data.seq.inj (Obj.mk.inj (Option.some.inj (a.symm.trans b))).2.2.1).1
theorem nL.xh{h:Option Obj}{xs ys:Array Value}{n m:Nat}(a:h=some (nL xs n))(b:h=some (nL ys m)):xs=ys:=(Data.seq.inj (Obj.mk.inj (Option.some.inj (a.symm.trans b))).2.2.1).1
theorem cT.xh{h:Option Obj}{xs ys:Array DictEntry}{n m:Nat}(a:h=some (cT xs n))(b:h=some (cT ys m)):xs=ys:=(Data.dict.inj (Obj.mk.inj (Option.some.inj (a.symm.trans b))).2.2.1).1
theorem nM{l:Addr}{xs:Array Value}{n:Nat}(h:s.heap.get? l=some (gA xs n)):s.heap.IsList l xs:=⟨_,h,rfl,n,rfl⟩
theorem B4{l:Addr}{xs:Array Value}{n:Nat}(h:s.heap.get? l=some (nL xs n)):s.heap.IsTuple l xs:=⟨_,h,rfl,n,rfl⟩
inductive Ks(W:Wd)(es:Array DictEntry):List Nat→List (Str×V)→Prop|nil:Ks W es [] []|cons{i:Nat}{rest:List Nat}{k:Str}{v:V}{kx:List (Str×V)}{e:DictEntry}(he:es[i]?=some e)(hk:J8 k e)(hv:Rel W v e.val)(t:Ks W es rest kx):Ks W es (i::rest) ((k,v)::kx)
theorem SV{es:Array DictEntry}:∀{kx:List (Str×V)} {l:List DictEntry} {i:Nat},(∀j,l[j]?=es[i+j]?)→Reld W kx l→Ks W es (List.range' i l.length) kx|[],[],aM,bL,gn=>.nil|(k,v)::kx,e::l,i,h,r=>.cons (h 0).symm r.1 r.2.1 (SV (fun j=>(h (j+1)).trans (by rw[Nat.add_assoc,Nat.add_comm j 1])) r.2.2)|[],aM::bL,gn,tR,r=>r.elim
inductive U3(f:V→V→Option Bool)(ky:List (Str×V))(k:Str)(v:V)(kx:List (Str×V))(r:Bool):Prop|no(h:ky.lookup k=none)(hr:false=r)|one(u:V)(p q:Bool)(h:ky.lookup k=some u)(hp:f v u=some p)(hq:veqd f ky kx=some q)(hr:(p&&q)=r)
theorem SW{f:V→V→Option Bool}{ky:List (Str×V)}{k:Str}{v:V}{kx:List (Str×V)}{r:Bool}(h:veqd f ky ((k,v)::kx)=some r):U3 f ky k v kx r:=by
 obtain h:(match ky.lookup k with |none=>some false|some u=>(match f v u,veqd f ky kx with |some p,some q=>some (p&&q)|_,_=>none))=some r:=h;induction hk:ky.lookup k with
 |none=>obtain h:=hk▸h;exact .no hk (Option.some.inj h)
 |some u=>
  obtain h:=hk▸h;have h:(match f v u,veqd f ky kx with |some p,some q=>some (p&&q)|_,_=>none)=some r:=h
  induction hp:f v u with
  |none=>obtain h:=hp▸h;exact nE h
  |some p=>induction hq:veqd f ky kx with |none=>rw[hp,hq] at h;exact nE h|some q=>rw[hp,hq] at h;exact .one u p q hk hp hq (Option.some.inj h)
theorem jf{prog:Program}{w:World}{E:Value→Shared→Prop}{nm:String}{a b:Addr}{kx ky:List (Str×V)}{n m:Nat}{es fs:Array DictEntry}{f:V→V→Option Bool}{r:Bool}{Q:Bool→Shared→Prop}
  (ha:a≠sysModules)(hb:b≠sysModules)(ga:s.heap.get? a=some (cT es n))(gb:s.heap.get? b=some (cT fs m))(ra:Reld W kx es.toList)(rb:Reld W ky fs.toList)
  (hr:(bif kx.length==ky.length then veqd f ky kx else some false)=some r)(he:∀{v u x y q},f v u=some q→Rel W v x→Rel W u y→SeqAt.EqAt A s x y q)(h:Q r s):
  wpAny (model prog w) A (Builtin.Dict.samePairs nm a b) Q E s:=by
 obtain U4:kx.length=es.size:=ra.length;obtain U5:ky.length=fs.size:=rb.length;rw[U4,U5] at hr;unfold Builtin.Dict.samePairs Builtin.Dict.showsAll;rw[if_neg (fun h=>ha (eq_of_beq h)),if_neg (fun h=>hb (eq_of_beq h))];refine wpAny_bind (wpAny_pure (wpAny_bind (wpAny_pure (wpAny_bind (wpAny_dictEntries ga rfl (wpAny_bind (wpAny_dictEntries gb rfl ?_)))))));induction hsz:es.size==fs.size with
 |false=>rw[hsz] at hr;rw[if_pos (show(es.size !=fs.size)=true from congrArg Bool.not hsz)];exact wpAny_bind (wpAny_rule (wpAny_pure (Option.some.inj hr▸h)))|true=>
  rw[hsz] at hr;rw[if_neg (show ¬(es.size !=fs.size)=true from fun q=>bE ((congrArg Bool.not hsz).symm.trans q))];refine wpAny_bind (wpAny_dictEpoch ga rfl (wpAny_bind ?_));rw[Std.Legacy.Range.forIn_eq_forIn_range',show [:es.size].size=es.toList.length from Nat.div_one _];refine wpAny_forIn_list _ (fun rest q s'=>s'=s∧q=(none,())∧∃k1,Ks W es rest k1∧veqd f ky k1=some r) _ ?_ ?_ _ _ ⟨rfl,rfl,kx,SV (fun j=>by rw[Nat.zero_add];exact Array.getElem?_toList) ra,hr⟩
  ·rintro x rest q s' ⟨rfl,rfl,k1,hS,hv⟩;cases hS with
   |cons ge hk gv t=>
    refine wpAny_bind (wpAny_dictEntries ga rfl ?_);refine ge▸?_;induction hk with
    |mk _ _ tk hk=>
     dsimp only;refine hk▸?_;refine wpAny_bind (wpAny_holding (wpAny_bind (rD gb rb ?_)));induction SW hv with
     |no hl hr=>refine hl▸?_;exact wpAny_pure (wpAny_pure (wpAny_pure (hr▸h)))|one u p q hl hp hq hr=>
      refine hl▸?_;intro j e hj ru;refine wpAny_bind (wpAny_dictEntries gb rfl ?_);refine hj▸?_;refine wpAny_holding (he hp gv ru prog w _ _ ?_);induction p with |false=>exact wpAny_pure (wpAny_pure ((show false=r from hr)▸h))|true=>refine wpAny_bind (wpAny_dictEpoch ga rfl ?_);refine(if_neg (show ¬(n !=n)=true from fun q=>bne_iff_ne.mp q rfl))▸?_;exact wpAny_pure ⟨rfl,rfl,_,t,hq.trans (congrArg some hr)⟩
  ·rintro q s' ⟨rfl,rfl,k1,hS,hv⟩;cases hS;exact wpAny_pure (Option.some.inj hv▸h)
theorem Cw{a b:Addr}{kx ky:List (Str×V)}{n m:Nat}{es fs:Array DictEntry}{f:V→V→Option Bool}{r:Bool}
  (ha:a≠sysModules)(hb:b≠sysModules)(ga:s.heap.get? a=some (cT es n))(gb:s.heap.get? b=some (cT fs m))(ra:Reld W kx es.toList)(rb:Reld W ky fs.toList)
  (hr:(bif kx.length==ky.length then veqd f ky kx else some false)=some r)(he:∀{v u x y q},f v u=some q→Rel W v x→Rel W u y→SeqAt.EqAt A.in1 s x y q)(hu:A.units<cLine):
  SeqAt.RcAt A s (.ref a) (.ref b) r∧SeqAt.RcNeAt A s (.ref a) (.ref b) (!r):=by
 obtain Ta:s.TypeIs (.ref a) "dict":=⟨_,ga,rfl⟩;obtain Tb:s.TypeIs (.ref b) "dict":=⟨_,gb,rfl⟩;constructor
 ·intro prog w E Q h;refine wpAny_richCompare_same_room Ta Tb PySem.F.slot_dict_eq (wpAny_call_entry PySem.F.slot_dict_eq Ta PySem.F.entry_dict_eq ?_ (PySem.F.args_dict_eq_2 _ _)) hu;refine wpAny_bind ?_;refine wpAny_bind (wpAny_notOrdered_dict Ta ?_);refine wpAny_pure ?_;refine wpAny_bind (wpAny_isInstance Tb PySem.F.sub_dict_dict ?_);refine wpAny_bind (wpAny_pure (wpAny_bind (wpAny_pure ?_)));refine wpAny_bind (jf ha hb ga gb ra rb hr he ?_);refine wpAny_pure ⟨_,rfl,?_,?_⟩
  ·exact fun x=>nomatch x
  ·simpa using h
 ·intro prog w E Q h;refine wpAny_richCompare_same_room Ta Tb PySem.F.slot_dict_ne (wpAny_call_entry PySem.F.slot_dict_ne Ta PySem.F.entry_dict_ne ?_ (PySem.F.args_dict_ne_2 _ _)) hu;refine wpAny_bind ?_;refine wpAny_bind (wpAny_notOrdered_dict Ta ?_);refine wpAny_pure ?_;refine wpAny_bind (wpAny_isInstance Tb PySem.F.sub_dict_dict ?_);refine wpAny_bind (wpAny_pure (wpAny_bind (wpAny_pure ?_)));refine wpAny_bind (jf ha hb ga gb ra rb hr he ?_);refine wpAny_pure ⟨_,rfl,?_,?_⟩
  ·exact fun x=>nomatch x
  ·simpa using h
theorem Fd{kx ky:List (Str×V)}{es:List DictEntry}{f:V→V→Option Bool}(he:∀{v u x q},f v u=some q→Rel W v x→Rel W u x→q=true)(ra:Reld W kx es)(rb:Reld W ky es):∀{k1:List (Str×V)} {q:Bool},(∀p∈k1,kx.lookup p.1=some p.2)→veqd f ky k1=some q→q=true
|[],aM,bL,h=>(Option.some.inj h).symm|(k,v)::k1,q,hp,h=>by
 obtain f1:=ra.find k;obtain f2:=rb.find k;obtain hl:kx.lookup k=some v:=hp _ (.head _);obtain f1:=hl▸f1;induction hi:es.findIdx? (fun e=>e.key.isStr k) with
 |none=>obtain f1:=hi▸f1;exact nE f1.symm
 |some j=>
  rw[hi] at f1 f2;obtain⟨e,u,g1,g2,g3⟩:=f1;obtain⟨e',u',PC,SX,U6⟩:=f2;induction Option.some.inj (g1.symm.trans PC);induction SW h with |no Fe=>rw[SX] at Fe;exact nE Fe.symm|one u2 p q' Fe hq hr hz=>induction Option.some.inj (SX.symm.trans Fe);induction Option.some.inj g2;exact hz▸dB ⟨he hq g3 U6,Fd he ra rb (fun p U7=>hp p (.tail _ U7)) hr⟩
theorem k8{A:Around}{l b:Addr}{r:Bool}(hs:l=b→r=true)(h1:SeqAt.RcAt A s (.ref l) (.ref b) r)(h2:SeqAt.RcNeAt A s (.ref l) (.ref b) (!r)):Kr A s (.ref l) (.ref b) r:=⟨fun e=>hs (Value.ref.inj e),(Decidable.em (l=b)).elim (fun e=>e▸hs e▸SeqAt.EqAt.same _) fun hl=>SeqAt.EqAt.of_refs hl h1,h1,h2⟩
theorem zz{A:Around}{e:Nat→Bool}{xs ys:Array Value}(q:xs=ys)(g:∀j (h:j<xs.toList.length) (h':j<ys.toList.length),Kr A s xs.toList[j] ys.toList[j] (e j)):(List.range xs.toList.length).all e=true:=by subst q;exact List.all_eq_true.mpr fun j hj=>(g j (tL hj) (tL hj)).self rfl
theorem Gw{α:Type}{c:Bool}{a b:Option α}{r:α}{P:Prop}(h:(bif c then a else b)=some r)(k:c=true→a=some r→P)(l:c=false→b=some r→P):P:=by
 induction c with |true=>exact k rfl h|false=>exact l rfl h
theorem Cy{A:Around}{a b:V}{x y:Value}{r:Bool}{f:V→V→Option Bool}(h:Sz f H a b=some r)(S:aG W H s)(ra:Rel W a x)(rb:Rel W b y)(Gx:A.units<cLine)(he:∀{v u x y p},f v u=some p→Rel W v x→Rel W u y→Kr A.in1 s x y p):Kr A s x y r:=by
 obtain ha:=lZ S ra;obtain hb:=lZ S rb;refine gy h (fun h=>av.el h ra fun i t h=>av.el h rb fun j u h=>Option.some.inj h▸⟨fun e=>beq_iff_eq.mpr (Value.int.inj e).1,SeqAt.EqAt.int_int _ _ _ _,SeqAt.RcAt.int_int _ _ _ _,SeqAt.RcNeAt.int_int _ _ _ _⟩) fun h=>?_
 refine gy h (fun h=>onStr.el h ra fun i t c h=>onStr.el h rb fun j u c h=>Option.some.inj h▸⟨fun e=>beq_iff_eq.mpr (Value.str.inj e).1,SeqAt.EqAt.str_str _ _ _ _,SeqAt.RcAt.str_str _ _ _ _,SeqAt.RcNeAt.str_str _ _ _ _⟩) fun h=>?_
 refine gy h (fun h=>b9.el h ra fun i h=>b9.el h rb fun j h=>Option.some.inj h▸⟨fun e=>beq_iff_eq.mpr (Value.bool.inj e),SeqAt.EqAt.bool_bool _ _,SeqAt.RcAt.bool_bool _ _,SeqAt.RcNeAt.bool_bool _ _⟩) fun h=>?_
 refine gy h (fun h=>iE.el h fun vs e1 h=>iE.el h fun us e2 h=>Gw h (fun hz hq=>?_) fun c h=>nE h) fun h=>gy h (fun h=>cM.el h fun vs e1 h=>cM.el h fun us e2 h=>Gw h (fun hz hq=>?_) fun hz hq=>?_) fun h=>gD.el h fun kx e1 h=>gD.el h fun ky e2 hq=>?_
 ·cases e1;cases e2;obtain⟨l,m,xs,rfl,g1,_,r1⟩:=ra;obtain⟨l',m',ys,rfl,g2,_,r2⟩:=rb;induction SS he r1 r2 hq with
  |mk e q1 q2 q3=>
   obtain q1:xs.size=ys.size:=q1;obtain q4:r=((List.range (min xs.size ys.size)).all e&&xs.size==ys.size):=by rw[←q1,Nat.min_self,beq_self_eq_true,Bool.and_true];exact q2.symm
   refine k8 (fun e=>q2▸zz (nL.xh (S.z _ _ g1) (e▸S.z _ _ g2)) q3) ?_ ?_
   ·rw[q4];exact SeqAt.RcAt.tuples (B4 (S.z _ _ g1)) (B4 (S.z _ _ g2)) Gx fun j h1 h2=>(q3 j h1 h2).eq
   ·rw[q4];exact SeqAt.RcNeAt.tuples (B4 (S.z _ _ g1)) (B4 (S.z _ _ g2)) Gx fun j h1 h2=>(q3 j h1 h2).eq
 ·rw[e1] at ha;rw[e2] at hb;obtain⟨l,m,xs,rfl,g1,_,r1⟩:=ha;obtain⟨l',m',ys,rfl,g2,_,r2⟩:=hb;induction SS he r1 r2 hq with |mk e q1 q2 q3=>exact k8 (fun e=>q2▸zz (gA.xh g1 (e▸g2)) q3) (q2▸SeqAt.RcAt.lists (nM g1) (nM g2) q1 Gx fun j h1 h2=>(q3 j h1 h2).eq) (q2▸SeqAt.RcNeAt.lists (nM g1) (nM g2) q1 Gx fun j h1 h2=>(q3 j h1 h2).eq)
 ·rw[e1] at ha;rw[e2] at hb;obtain⟨l,m,xs,rfl,g1,_,r1⟩:=ha;obtain⟨l',m',ys,rfl,g2,_,r2⟩:=hb;obtain hn:¬xs.size=ys.size:=fun e=>beq_eq_false_iff_ne.mp hz (r1.length.trans (e.trans r2.length.symm))
  exact Option.some.inj hq▸k8 (fun e=>absurd (congrArg Array.size (gA.xh g1 (e▸g2))) hn) (SeqAt.RcAt.lists_lengths (nM g1) (nM g2) (bne_iff_ne.mpr hn) Gx) (SeqAt.RcNeAt.lists_lengths (nM g1) (nM g2) (bne_iff_ne.mpr hn) Gx)
 ·rw[e1] at ha;rw[e2] at hb;obtain⟨l,m,es,rfl,g1,n1,nd,_,r1⟩:=ha;obtain⟨l',m',fs,rfl,g2,n2,_,_,r2⟩:=hb;obtain hd:=Cw n1 n2 g1 g2 r1 r2 hq (fun h r1 r2=>(he h r1 r2).eq) Gx;refine k8 (fun e=>?_) hd.1 hd.2;obtain e:=cT.xh g1 (e▸g2);rw[←e] at r2;rw[r1.length,r2.length,beq_self_eq_true] at hq;exact Fd (fun h r1 r2=>(he h r1 r2).self rfl) r1 r2 (fun p hp=>cU nd hp) hq
theorem l0:∀(n:Nat) {A:Around} {a b:V} {x y:Value} {r:Bool},jC n H a b=some r→aG W H s→Rel W a x→Rel W b y→A.units+n<cLine→Kr A s x y r|0,aM,bL,gn,tR,E8,SY,h,XD,XE,XF,U8=>nE h|n+1,A,aM,bL,gn,tR,E8,h,S,ra,rb,hu=>Cy h S ra rb (Nat.lt_of_le_of_lt (Nat.le_add_right ..) hu) fun h r1 r2=>l0 n h S r1 r2 (Nat.lt_of_le_of_lt (Nat.le_of_eq (Nat.add_right_comm A.units 1 n)) hu)
end
section
variable{A:Around}{E:Value→Shared→Prop}{W:Wd}{H H':AH}{s:Shared}
def dS(W:Wd):List (Str×V)→List (Str×Value)→Prop|[],[]=>True|(k,v)::r,(k',y)::r'=>k'=k∧k.length<ak∧Rel W v y∧dS W r r'|aM,bL=>False
abbrev sk:=strKind G.prog G.w
theorem dS.keys:∀{kvs:List (Str×V)} {ps:List (Str×Value)},dS W kvs ps→kvs.map (·.1)=ps.map (·.1)|[],[],aM=>rfl|(k,v)::r,(k',y)::r',h=>by simp only[List.map_cons,h.1,dS.keys h.2.2.2]|[],aM::bL,h=>False.elim h|aM::bL,[],h=>False.elim h
theorem dS.length{kvs:List (Str×V)}{ps:List (Str×Value)}(h:dS W kvs ps):kvs.length=ps.length:=by obtain this:=congrArg List.length h.keys;simpa using this
theorem fG:∀{kvs:List (Str×V)} {es:List DictEntry},Reld W kvs es→∃ps,Pairs (sk) es ps∧dS W kvs ps∧∀e∈es,∃k,(sk).is k e.key=true∧e.hash=(sk).hash k
|[],[],aM=>⟨[],.nil,trivial,fun e he=>nomatch he⟩|(k,v)::r,e::es,h=>by
 obtain⟨⟨hl,hh,t,hk⟩,hv,hr⟩:=h;refine(fG hr).elim fun ps Gk=>?_;obtain h1:=Gk.1;obtain h2:=Gk.2.1;obtain h3:=Gk.2.2
 obtain S0:(sk).is k e.key=true:=by refine hk▸?_;exact strKind_is ..
 refine⟨(k,e.val)::ps,.cons S0 rfl h1,⟨rfl,hl,hv,h2⟩,fun e' he=>?_⟩;rcases bz he with rfl|he
 ·exact⟨k,S0,hh⟩
 ·exact h3 e' he
|[],aM::bL,h=>False.elim h|aM::bL,[],h=>False.elim h
theorem xj{es:List DictEntry}{ps:List (Str×Value)}(h:Pairs (sk) es ps):∀{kvs:List (Str×V)},dS W kvs ps→(∀e∈es,∃k,(sk).is k e.key=true∧e.hash=(sk).hash k)→Reld W kvs es:=by
 induction h with
 |nil=>
  intro kvs h2 _;induction kvs with |nil=>trivial|cons _ _=>exact(h2:False).elim
 |cons a1 a2 a3 ih=>
  intro kvs h2 h3;induction kvs with |nil=>exact(h2:False).elim|cons p r=>obtain Ku:=h2.1;obtain hl:=h2.2.1;obtain hv:=h2.2.2.1;obtain hr:=h2.2.2.2;obtain⟨t,ht⟩:=Value.isStrOf_shape a1;obtain⟨k',gz,hh⟩:=h3 _ (.head _);exact⟨⟨hl,Ku▸(sk).inj _ _ _ gz a1▸hh,t,Ku▸ht⟩,a2▸hv,ih hr fun e he=>h3 e (.tail _ he)⟩
theorem dg{h:Heap}{a:Addr}{es:Array DictEntry}{n:Nat}{kvs:List (Str×V)}(g:h.get? a=some (cT es n))(nd:(kvs.map (·.1)).Nodup)(r:Reld W kvs es.toList):
  ∃ps,h.DictOf (sk) a ps∧dS W kvs ps:=by
 refine(fG r).elim fun ps Gy=>?_;obtain h1:=Gy.1;obtain h2:=Gy.2.1;obtain h3:=Gy.2.2
 refine⟨ps,⟨_,es,n,g,⟨rfl,rfl,rfl⟩,rfl,fun e he=>?_,h1,by refine h2.keys▸?_;exact nd⟩,h2⟩;exact h3 e (by simp_all)
theorem jM{h:Heap}{a:Addr}{ps:List (Str×Value)}{kvs:List (Str×V)}(d:h.DictOf (sk) a ps)(r:dS W kvs ps):
  ∃es n,h.get? a=some (cT es n)∧(kvs.map (·.1)).Nodup∧Reld W kvs es.toList:=by
 obtain⟨⟨cls,dd,data,sl⟩,es,ep,ho,⟨h1,h2,h3⟩,h4,h5,h6,h7⟩:=d;simp only at h1 h2 h3 h4;subst h1 h2 h3 h4;exact⟨es,ep,ho,by rw[r.keys];exact h7,xj h6 r fun e he=>h5 e (by simp_all)⟩
theorem dS.lookup:∀{kvs:List (Str×V)} {ps:List (Str×Value)} (k:Str),dS W kvs ps→match kvs.lookup k with |none=>valueAt ps k=none|some v=>∃y,valueAt ps k=some y∧Rel W v y
|[],[],k,aM=>rfl|(k',v)::r,(k2,y)::r',k,h=>by
 obtain PD:=h.1;obtain hv:=h.2.2.1;obtain hr:=h.2.2.2;subst PD;dsimp only[List.lookup_cons,valueAt,List.find?_cons];by_cases hk:k=k2
 ·subst hk;simp;exact hv
 ·obtain h1:(k==k2)=false:=by simpa using hk
  obtain h2:decide (k2=k)=false:=by simp;exact fun h=>hk h.symm
  rw[h1,h2];obtain this:=hr.lookup k;exact this
|[],aM::bL,gn,h=>False.elim h|aM::bL,[],gn,h=>False.elim h
theorem dS.Cz{k:Str}{v:V}{y:Value}(hk:k.length<ak)(hv:Rel W v y){kvs:List (Str×V)}{ps:List (Str×Value)}(nd:(ps.map (·.1)).Nodup)(h:dS W kvs ps):dS W (aP kvs k v) (stored ps k y):=by
 induction kvs generalizing ps with
 |nil=>induction ps with |nil=>exact⟨rfl,hk,hv,trivial⟩|cons=>exact h.elim
 |cons p r ih=>induction ps with
  |nil=>exact h.elim|cons q r'=>
   obtain⟨e,hl,hu,hr⟩:=(h:q.1=p.1∧p.1.length<ak∧Rel W p.2 q.2∧dS W r r');obtain⟨n1,n2⟩:=lE nd;show dS W (bif k==p.1 then(p.1,v)::r else p::aP r k v) _;unfold stored;rw[List.any_cons,List.map_cons];by_cases hx:q.1=k
   ·rw[decide_eq_true hx,if_pos hx,show(k==p.1)=true from beq_iff_eq.mpr (hx.symm.trans e)];exact⟨e,hl,hv,(map_store_of_not_mem r' k y (hx▸n1)).symm▸hr⟩
   ·rw[decide_eq_false hx,if_neg hx,show(k==p.1)=false from beq_false_of_ne fun z=>hx (e.trans z.symm)];have :=ih n2 hr;unfold stored at this;refine(?_:dS W (p::aP r k v) (if r'.any (fun p=>decide (p.1=k)) then q::r'.map _ else q::(r'++[(k,y)])));induction hh:r'.any fun p=>decide (p.1=k)<;>rw[hh] at this<;>exact⟨e,hl,hu,this⟩
end
noncomputable def Ff(x y:Value):Bool:=match x with
|.int i _=>match y with |.int j _=>i==j|_=>false
|.str a _=>match y with |.str b _=>a==b|_=>false
|_=>false
section
variable{A:Around}{E:Value→Shared→Prop}{W:Wd}{H H':AH}{s:Shared}
theorem Gz{a b:V}{x y:Value}{r:Bool}(h:IW a b=some r)(ra:Rel W a x)(rb:Rel W b y):Ff x y=r∧SeqAt.EqAt A s x y (Ff x y):=gy h (fun h=>av.el h ra fun i t h=>av.el h rb fun j u h=>⟨Option.some.inj h,SeqAt.EqAt.int_int _ _ _ _⟩) fun h=>onStr.el h ra fun i t c h=>onStr.el h rb fun j u c h=>⟨Option.some.inj h,SeqAt.EqAt.str_str _ _ _ _⟩
theorem t7{x:V}{x':Value}(rx:Rel W x x'){vs:List V}{xs:List Value}{r:List Bool}(h:eqRow x vs=some r)(rs:ay W vs xs):xs.map (Ff · x')=r∧∀y∈xs,SeqAt.EqAt A s y x' (Ff y x'):=by
 induction vs generalizing xs r with
 |nil=>induction xs with |nil=>exact⟨Option.some.inj h,fun a h=>nomatch h⟩|cons _ _=>exact rs.elim
 |cons v vs ih=>induction xs with
  |nil=>exact rs.elim|cons y ys=>
   obtain h:(match IW v x,eqRow x vs with |some p,some q=>some (p::q)|_,_=>none)=some r:=h;induction h1:IW v x with
   |none=>obtain h:=h1▸h;exact nE h
   |some p=>induction h2:eqRow x vs with |none=>rw[h1,h2] at h;exact nE h|some q=>rw[h1,h2] at h;obtain g:=ih h2 rs.2;obtain e:=Gz h1 rs.1 rx;exact⟨(congr (congrArg List.cons e.1) g.1).trans (Option.some.inj h),fun z hz=>(bz hz).elim (fun q=>q▸e.2) (g.2 z)⟩
theorem aX{b:Bool}{X:Addr→Prop}(S:aG W H s):aU W H s X H (fun W' a=>Rel W' (.bool b) (.bool b)) s:=bO S rfl
theorem f7{b:Bool}{X:Addr→Prop}(S:aG W H s)(k:Nat):aU W H s X H (fun W' a=>Rel W' (.bool b) (.bool b)) {s with toks:=k}:=cu S k rfl
theorem t8{x:Str}{t:Tok}{d:Addr}{es:Array DictEntry}{n:Nat}{kvs:List (Str×V)}(S:aG W H s)(g:s.heap.get? d=some (cT es n))(hd:d≠sysModules)(nd:(kvs.map (·.1)).Nodup)(r:Reld W kvs es.toList):
  wpAny gM A (compareOp .In (.str x t) (.ref d)) (fun z=>aU W H s aH H fun W' a=>Rel W' (.bool (kvs.lookup x).isSome) z) E s∧
  wpAny gM A (compareOp .NotIn (.str x t) (.ref d)) (fun z=>aU W H s aH H fun W' a=>Rel W' (.bool !(kvs.lookup x).isSome) z) E s:=by
 refine(dg g nd r).elim fun ps z=>z.elim fun D rp=>?_
 obtain hl:=rp.lookup x;obtain e:(valueAt ps x).isSome=(kvs.lookup x).isSome:=by
  induction hk:kvs.lookup x with
  |none=>obtain hl:=hk▸hl;rw[hl];rfl
  |some v=>rw[hk] at hl;obtain⟨y,hy,_⟩:=hl;rw[hy];rfl
 refine e▸?_;exact⟨wpAny_in_of (strKind_is _ _ _ _) (by simpa using hd) D.mapOf (f7 S _),wpAny_notIn_of (strKind_is _ _ _ _) (by simpa using hd) D.mapOf (f7 S _)⟩
def pv(h:Heap)(y:Value):List Value:=match y with |.ref t=>(match h.get? t with |some o=>(match o.data with |.seq xs _=>xs.toList|_=>[])|none=>[])|_=>[]
theorem rF{v:V}{y:Value}{p:Bool×Bool}(h:vo v=some p)(S:aG W H s)(ry:Rel W v y):v=.tup [.bool p.1,.bool p.2]∧pv s.heap y=[.bool p.1,.bool p.2]:=by
 refine iE.el h fun xs e h=>?_
 subst e;obtain⟨t,m,ys,rfl,g,_,r⟩:=ry;induction xs using List.casesOn with
 |nil=>exact nE h|cons a xs=>induction xs using List.casesOn with
  |nil=>exact nE h|cons b xs=>induction xs using List.casesOn with
   |cons _ _=>exact nE h|nil=>
    have hy:pv s.heap (.ref t)=ys.toList:=by show(match s.heap.get? t with |some o=>(match o.data with |.seq xs _=>xs.toList|_=>[])|none=>[])=_;rw[S.z _ _ g]
    rw[hy]
    revert r
    generalize ys.toList=zs;intro r;have h:=h
    induction a using V.casesOn with
    |bool i=>induction b using V.casesOn with
     |bool j=>
      obtain rfl:=Option.some.inj h;induction zs with |nil=>exact r.elim|cons z zs=>induction zs with |nil=>exact r.2.elim|cons z' zs=>induction zs with |cons _ _=>exact r.2.2.elim|nil=>exact⟨rfl,congr (congrArg List.cons r.1) (congrArg (·::[]) r.2.1)⟩
     |_=>exact nE h
    |_=>exact nE h
theorem zA{a:V}{x:Value}{p:Bool×Bool}(hp:vo a=some p)(S:aG W H s)(rx:Rel W a x)(hu:A.units+2<cLine){vs:List V}{xs:List Value}{r:List (Bool×Bool)}(h:lI vs=some r)(rs:ay W vs xs):
  xs.map (fun y=>pv s.heap y==pv s.heap x)=r.map (·==p)∧∀y∈xs,SeqAt.EqAt A s y x (pv s.heap y==pv s.heap x):=by
 induction vs generalizing xs r with
 |nil=>induction xs with |nil=>exact⟨Option.some.inj h▸rfl,fun b h=>nomatch h⟩|cons _ _=>exact rs.elim
 |cons v vs ih=>induction xs with
  |nil=>exact rs.elim|cons y ys=>
   obtain⟨q,hq,h⟩:=nQ h;obtain⟨r',hr,rfl⟩:=eG h;have g:=ih hr rs.2
   obtain⟨e1,e2⟩:=rF hq S rs.1;obtain⟨f1,f2⟩:=rF hp S rx;have eb:(pv s.heap y==pv s.heap x)=(q==p):=by rw[e2,f2];obtain⟨q1,q2⟩:=q;obtain⟨p1,p2⟩:=p;cases q1<;>cases q2<;>cases p1<;>cases p2<;>rfl
   have ee:SeqAt.EqAt A s y x (q==p):=by
    have hv:jC 2 H v a=some (q==p):=by rw[e1,f1];obtain⟨q1,q2⟩:=q;obtain⟨p1,p2⟩:=p;cases q1<;>cases q2<;>cases p1<;>cases p2<;>rfl
    exact(l0 2 hv S rs.1 rx hu).eq
   exact⟨congr (congrArg List.cons eb) g.1,fun z hz=>(bz hz).elim (fun e=>by rw[e,eb];exact ee) (g.2 z)⟩
theorem oH{a b:V}{r:Bool}{x y:Value}(h:inside H a b=some r)(S:aG W H s)(hx:Rel W a x)(hy:Rel W b y)(hu:A.units+12<cLine):
  wpAny gM A (compareOp .In x y) (fun z=>aU W H s aH H fun W' c=>Rel W' (.bool r) z) E s∧
  wpAny gM A (compareOp .NotIn x y) (fun z=>aU W H s aH H fun W' c=>Rel W' (.bool !r) z) E s:=by
 refine gy h (fun h=>onStr.el h hx fun p t c h=>gy h (fun h=>onStr.el h hy fun q u c h=>Option.some.inj h▸⟨P.in_str (aX S),P.notIn_str (aX S)⟩) fun h=>gD.el h fun kvs e h=>?dict) fun h=>gy h (fun h=>cM.el h fun ys e h=>?lst) fun h=>?pair
 case pair=>
  obtain⟨p,hp,h⟩:=nQ h;refine cM.el h fun ys e h=>?_
  cases e;obtain⟨l,n,xs,rfl,z,_,rs⟩:=hy;obtain⟨q,hq,hr⟩:=eG h;obtain g:=zA (A:=A.in1) hp S hx (by simp only[Around.in1_units];omega) hq rs;obtain e:xs.any (fun y=>pv s.heap y==pv s.heap x)=r:=by have g1:=congrArg (List.any · id) g.1;simp only[List.any_map] at g1;exact Array.any_toList.symm.trans (g1.trans hr)
  obtain m:=fun y (hy:y∈xs)=>g.2 y (Array.mem_def.mp hy)
  exact⟨SeqAt.in_listAt _ (nM (S.z _ _ z)) m (e▸aX S),SeqAt.notIn_listAt _ (nM (S.z _ _ z)) m (e▸aX S)⟩
 case lst=>
  cases e;obtain⟨l,n,xs,rfl,z,_,rs⟩:=hy;obtain⟨q,hq,hr⟩:=eG h;obtain g:=t7 hx hq rs;obtain e:xs.any (Ff · x)=r:=by rw[←hr,←g.1,List.any_map];exact Array.any_toList.symm
  obtain m:=fun y (hy:y∈xs)=>g.2 y (Array.mem_def.mp hy)
  exact⟨SeqAt.in_listAt _ (nM (S.z _ _ z)) m (e▸aX S),SeqAt.notIn_listAt _ (nM (S.z _ _ z)) m (e▸aX S)⟩
 case dict=>obtain hh:=lZ S hy;rw[e] at hh;obtain⟨d,n,es,rfl,z,h0,nd,_,rd⟩:=hh;exact Option.some.inj h▸t8 S z h0 nd rd
end
section
variable{n:Nat}{A:Around}{E:Value→Shared→Prop}{W:Wd}{H H':AH}{s:Shared}{sc:Scope}{env:ah}{e':Env}
theorem GA{op:CmpOp}{a b c:V}{x y:Value}(h:bI H op a b=some c)(S:aG W H s)(hx:Rel W a x)(hy:Rel W b y)(hu:A.units+12<cLine):
  wpAny gM A (compareOp op x y) (fun z=>aU W H s aH H fun W' d=>Rel W' c z) E s:=by
 induction op with
 |Eq=>obtain⟨r,hr,rfl⟩:=eG h;exact(l0 bB hr S hx hy (Nat.lt_of_succ_lt (Nat.lt_of_succ_lt hu))).rc _ _ _ _ (aX S)
 |NotEq=>obtain⟨r,hr,rfl⟩:=eG h;exact(l0 bB hr S hx hy (Nat.lt_of_succ_lt (Nat.lt_of_succ_lt hu))).ne _ _ _ _ (aX S)
 |Lt=>exact gy h (fun h=>av.el h hx fun i t h=>av.el h hy fun j u h=>Option.some.inj h▸P.lt_int (aX S)) fun h=>onStr.el h hx fun i t d h=>onStr.el h hy fun j u d h=>Option.some.inj h▸P.lt_str (aX S)|Gt=>exact gy h (fun h=>av.el h hx fun i t h=>av.el h hy fun j u h=>Option.some.inj h▸P.gt_int (aX S)) fun h=>onStr.el h hx fun i t d h=>onStr.el h hy fun j u d h=>Option.some.inj h▸compareOp_gives (typeIs_str _ _ t) (typeIs_str _ _ u) F.slot_str_gt F.entry_str_gt (F.args_str_gt_2 _ _) (gives_str_gt _ _ t u) (fun e=>nomatch e) (aX S)|GtE=>exact av.el h hx fun i t h=>av.el h hy fun j u h=>Option.some.inj h▸P.ge_int (aX S)|Is=>exact b9.el h hy fun q h=>gy h (fun h=>b9.el h hx fun p h=>Option.some.inj h▸is_bool (aX S)) fun h=>av.el h hx fun p t h=>Option.some.inj h▸wpAny_is_other rfl (fun e=>nomatch e) (aX S)|IsNot=>exact gy h (fun h=>b9.el h hy fun q h=>b9.el h hx fun p h=>Option.some.inj h▸isnot_bool (aX S)) fun h=>jG.el h hy fun h=>gy h (fun h=>jG.el h hx fun h=>Option.some.inj h▸isnot_none_none (aX S)) fun h=>onStr.el h hx fun p t d h=>Option.some.inj h▸isnot_str_none (aX S)|In=>
  refine gy h (fun h=>onSet.el h fun xs e h=>av.el h hx fun i t hq=>?_) fun h=>?_
  ·obtain⟨r,hr,rfl⟩:=eG h;exact(oH hr S hx hy hu).1
  ·cases e;obtain⟨rfl,rfl⟩:=hy;exact Option.some.inj hq▸S.cj.setIn rfl fun k=>f7 S k
 |NotIn=>obtain⟨r,hr,rfl⟩:=eG h;exact(oH hr S hx hy hu).2
 |_=>exact nE h
end
section
variable{n:Nat}{A:Around}{E:Value→Shared→Prop}{W:Wd}{H H':AH}{s:Shared}{sc:Scope}{env:ah}{e':Env}
theorem xm{P:Sem Value→Prop}{o i:Value}(h1:P (operate [i,o] (getItem o i)))(h2:P (operate [o,i] (getItem o i)))(sl:Expr):P (subscripted sl false o i):=by
 induction sl using Expr.casesOn with
 |Slice lo hi st p=>induction st with |none=>exact h1|some _=>exact h2
 |_=>exact h2
theorem vP{value slice:Expr}{pos:Pos}{Q:Value→Shared→Prop}
  (h:wpAny gM A (eval value e') (fun o s₁=>wpAny gM A (eval slice e') (fun i s₂=>∃T id,typeLookup (.type T) "__getitem__"=pure (some (.builtin id))∧s₂.TypeIs o T∧wpAny gM A (getItem o i) Q E s₂) E s₁) E s):
  wpAny gM A (eval (.Subscript value slice pos) e') Q E s:=by
 refine wpAny_bind (wpAny_mono h (fun o s₁ h₁=>wpAny_bind (wpAny_holding (wpAny_mono h₁ (fun i s₂ h₂=>wpAny_bind (wpAny_standAt ?_)) fun a a x=>x)))
  fun a a x=>x)
 refine h₂.elim fun T z4=>?_;refine z4.elim fun id z5=>?_;obtain hl:=z5.1;obtain hT:=z5.2.1;obtain hg:=z5.2.2
 obtain fin:∀l,wpAny gM A (operate l (getItem o i)) (fun r s₃=>wpAny gM A (letTemporaryGo value o r>>=fun a=>pure r) Q E s₃) E s₂:=fun l=>wpAny_operating (wpAny_mono hg (fun r s₃ h₃=>wpAny_bind (wpAny_letTemporaryGo (wpAny_pure h₃))) fun a a x=>x)
 refine wpAny_bind ?_;refine wpAny_bind (wpAny_specialOf hT hl ?_);exact wpAny_pure (xm (P:=fun m=>wpAny gM A (m>>=fun r=>letTemporaryGo value o r>>=fun a=>pure r) Q E s₂) (wpAny_bind (fin _)) (wpAny_bind (fin _)) slice)
theorem dU{m:Nat}{i:Int}{k:Nat}(h:bV m i=some k):-2^63≤i∧i<2^63∧seqIndex? i m=some k:=by
 unfold bV at h;induction hc:decide (-2^63≤i)&&decide (i<2^63) with |false=>rw[hc] at h;exact nE h|true=>rw[hc] at h;obtain q:=bj hc;exact⟨of_decide_eq_true q.1,of_decide_eq_true q.2,h⟩
theorem pO{l:Addr}{xs:Array Value}{m:Nat}{vs:List V}{i:Int}{u:Tok}{c:V}(S:aG W H s)(g:s.heap.get? l=some (gA xs m))(r:ay W vs xs.toList)
  (h:(bV vs.length i).bind (fun k=>vs[k]?)=some c):
  wpAny gM A (getItem (.ref l) (.int i u)) (fun z=>aU W H s aH H fun W' a=>Rel W' c z) E s:=by
 refine(nQ h).elim fun k z=>z.elim fun hk hv=>?_
 obtain hb:=dU hk;obtain⟨x,hx,rx⟩:=r.get hv;obtain hx:=Array.getElem?_toList.symm.trans hx;obtain h3:(if(decide (0≤(if i<0 then i+(vs.length:Int) else i))&&decide ((if i<0 then i+(vs.length:Int) else i)<vs.length))=true then some (if i<0 then i+(vs.length:Int) else i).toNat else none)=some k:=hb.2.2;obtain h3:=r.length▸h3;by_cases hi:i<0
 ·rw[if_pos hi] at h3;exact jL h3 fun hc e=>wpAny_getItem_list_neg (nM g) hi (by obtain this:=of_decide_eq_true (bj hc).1;exact IX (nat_lit 0x7d810708098101) ae this) hb.1 (e▸hx) (bO S rx)
 ·rw[if_neg hi] at h3;exact jL h3 fun hc e=>wpAny_getItem_list (nM g) (of_decide_eq_true (bj hc).1) hb.2.1 (e▸hx) (bO S rx)
theorem pP{d:Addr}{es:Array DictEntry}{m:Nat}{kvs:List (Str×V)}{x:Str}{t:Tok}{c:V}(S:aG W H s)(g:s.heap.get? d=some (cT es m))(nd:(kvs.map (·.1)).Nodup)(r:Reld W kvs es.toList)
  (h:kvs.lookup x=some c):wpAny gM A (getItem (.ref d) (.str x t)) (fun z=>aU W H s aH H fun W' a=>Rel W' c z) E s:=by
 obtain⟨ps,D,rp⟩:=dg g nd r;obtain hl:=rp.lookup x;rw[h] at hl;obtain⟨y,hy,ry⟩:=hl;exact wpAny_getItem_of (strKind_is _ _ _ _) D.mapOf hy (cu S _ ry)
def xn(s:Shared)(x:Value):Prop:=∃T id,typeLookup (.type T) "__getitem__"=pure (some (.builtin id))∧s.TypeIs x T
theorem oJ{l:Addr}{xs:Array Value}{m:Nat}(g:s.heap.get? l=some (gA xs m)):xn s (.ref l):=⟨_,_,slot_list_getitem.lookup,_,g,rfl⟩
theorem l6{l:Addr}{xs:Array Value}{m:Nat}(g:s.heap.get? l=some (nL xs m)):xn s (.ref l):=⟨_,_,F.slot_tuple_getitem.lookup,_,g,rfl⟩
theorem xo{l:Addr}{xs:Array DictEntry}{m:Nat}(g:s.heap.get? l=some (cT xs m)):xn s (.ref l):=⟨_,_,slot_dict_getitem.lookup,_,g,rfl⟩
theorem rG{x:Str}{t:Tok}:xn s (.str x t):=⟨_,_,F.slot_str_getitem.lookup,typeIs_str s x t⟩
theorem vQ{a i c:V}{x y:Value}(h:item H a i=some c)(S:aG W H s)(hx:Rel W a x)(hy:Rel W i y):
  xn s x∧wpAny gM A (getItem x y) (fun z=>aU W H s aH H fun W' b=>Rel W' c z) E s:=by
 have hh:=lZ S hx;have h:qN (deref H a) i=some c:=h
 revert hh h
 generalize deref H a=a';intro hh h;induction a' using V.casesOn with
 |lst vs=>obtain⟨l,m,xs,rfl,g,_,r⟩:=hh;exact⟨oJ g,av.el h hy fun i u h=>pO S g r h⟩
 |tup vs=>
  obtain⟨l,m,xs,rfl,g,_,r⟩:=hh;refine⟨l6 g,av.el h hy fun i u h=>?_⟩;obtain⟨k,hk,hv⟩:=nQ h;have hb:=dU hk
  obtain⟨q,hq,rq⟩:=r.get hv;exact P.getItem_tuple g hb.1 hb.2.1 ((show vs.length=xs.size from r.length)▸hb.2.2) (Array.getElem?_toList.symm.trans hq) (bO S rq)
 |str x=>obtain⟨hl,t,rfl⟩:=hh;refine⟨rG,av.el h hy fun i u h=>?_⟩;obtain⟨k,hk,hv⟩:=nQ h;obtain hb:=dU hk;obtain⟨ch,hc,e⟩:=eG hv;exact e▸P.getItem_str (Bool.or_eq_false_iff.mpr ⟨decide_eq_false (Int.not_lt.mpr hb.1),decide_eq_false (Int.not_le.mpr hb.2.1)⟩) (by rw[hb.2.2];exact hc) (dF S (show 1<ak by decide))
 |bf kvs=>obtain⟨d,m,es,rfl,g,_,nd,_,r⟩:=hh;exact⟨xo g,onStr.el h hy fun x u b h=>pP S g nd r h⟩
 |_=>exact nE h
theorem zB{vs:List V}{xs:Array Value}(r:ay W vs xs.toList)(lo hi:Option Int):ay W (cut vs lo hi) (cut xs.toList lo hi):=by obtain el:=r.length;unfold cut;refine el▸?_;exact(r.drop _).take _
theorem zC{α:Type}(xs:List α)(lo hi:Option Int):(cut xs lo hi).length≤xs.length:=((List.take_sublist ..).trans (List.drop_sublist ..)).length_le
def jN(x:Value)(o:Option Int):Prop:=(o=none∧x=.none)∨∃i t,o=some i∧x=.int i t
theorem jN.part{x:Value}{o:Option Int}(h:jN x o):IsPart x o:=by
 rcases h with ⟨rfl,rfl⟩|⟨i,t,rfl,rfl⟩
 ·exact .none
 ·exact .int i t
theorem jN.at{x:Value}{o:Option Int}{i:Int}(h:jN x o)(e:o=some i):∃t,x=.int i t:=by
 rcases h with ⟨rfl,rfl⟩|⟨j,t,rfl,rfl⟩
 ·exact nE e
 ·exact⟨t,Option.some.inj e▸rfl⟩
theorem jN.pair{x:Value}{o:Option Int}(h:jN x o):∃p:Option (Int×Tok),p.map (·.1)=o∧x=partValue p:=by
 rcases h with ⟨rfl,rfl⟩|⟨i,t,rfl,rfl⟩
 ·exact⟨none,rfl,rfl⟩
 ·exact⟨some (i,t),rfl,rfl⟩
theorem t9(b n:Nat)(k:b≤n):Builtin.Slice.sliceAdjust none (some (b:Int)) 1 (n:Int)=(0,(b:Int)):=
 have e:(if(b:Int)<0 then max ((b:Int)+n) 0 else min (b:Int) n)=(b:Int):=(if_neg (Int.not_lt.mpr (Int.natCast_nonneg b))).trans (Int.min_eq_left (Int.ofNat_le.mpr k))
 Prod.ext rfl e
theorem t_(a b:Nat)(h:a≤b):Builtin.Slice.slicePlaces (a:Int) (b:Int) 1=b-a:=by
 show(if(a:Int)<(b:Int) then((b:Int)-a-1)/1+1 else 0).toNat=b-a;rw[Int.ediv_one,Int.sub_add_cancel];by_cases hl:(a:Int)<(b:Int)
 ·rw[if_pos hl];exact Int.toNat_sub b a
 ·rw[if_neg hl];exact(Nat.sub_eq_zero_of_le (Int.ofNat_le.mp (Int.not_lt.mp hl))).symm
theorem CB(xs:Array Value)(a k:Nat):((List.range k).filterMap fun(j:Nat)=>xs[((a:Int)+(j:Int)* 1).toNat]?)=(xs.toList.drop a).take k:=by
 obtain e:(fun(k:Nat)=>xs[((a:Int)+(k:Int)* 1).toNat]?)=fun k=>xs[a+k]?:=funext fun k=>by rw[Int.mul_one];rfl
 simp only[e,←pick_run xs a k,List.filterMap_map];rfl
theorem l7{t sl:Addr}{xs:Array Value}{m:Nat}{vs:List V}{u':Tok}{b:Nat}(S:aG W H s)(z:s.heap.get? t=some (nL xs m))(hz:vs.length<ak)(r:ay W vs xs.toList)
  (hs:s.heap.IsSliceOf sl .none (.int b u') .none)(hb:b<vs.length):
  wpAny gM A (getItem (.ref t) (.ref sl)) (fun z=>aU W H s aH H fun W' a=>Rel W' (.tup (vs.take b)) z) E s:=by
 obtain el:vs.length=xs.size:=r.length;rw[el] at hb;obtain CC:=r.take b;obtain ku:(vs.take b).length<ak:=Nat.lt_of_le_of_lt (List.take_sublist ..).length_le hz;obtain ht:=B4 z;refine(id hs).elim fun os GB=>?_;obtain qJ:=GB.1;obtain i6:=GB.2.1;obtain PE:=GB.2.2
 unfold getItem
 try with_reducible refine wpAny_holding ?_
 first|refine wpAny_bind (wpAny_pure ?_)|skip
 refine wpAny_bind (wpAny_sequenceKey ht.typeIs rfl ?_)
 refine wpAny_bind (wpAny_callSpecial?_slot ht.typeIs F.slot_tuple_getitem
  (wpAny_call_entry F.slot_tuple_getitem ht.typeIs F.entry_tuple_getitem ?_ (F.args_tuple_getitem_2 _ _)))
 refine(?_:wpAny _ _ (Builtin.Tuple.tupleItemsOf (.ref t)>>=_) _ _ s);refine wpAny_bind (wpAny_bind (wpAny_seqItems z rfl (wpAny_pure (wpAny_bind (wpAny_typeOf (⟨os,qJ,i6⟩) ?_)))));refine wpAny_bind ?_;refine wpAny_bind (wpAny_bind (wpAny_field qJ PE (x:=.none) rfl (wpAny_bind (wpAny_field qJ PE (x:=.int b u') rfl (wpAny_bind (wpAny_field qJ PE (x:=.none) rfl (wpAny_pure ?_)))))));refine wpAny_bind (slicePart_none ?_);refine wpAny_bind (slicePart_none (wpAny_bind (slicePart_int (wpAny_bind (wpAny_pure ?_)))));refine(?_:wpAny _ _ (match Builtin.Slice.sliceAdjust none (some (b:Int)) 1 (xs.size:Int) with |(lo,hi)=>pure (lo,(1:Int),Builtin.Slice.slicePlaces lo hi 1)) _ _ s);refine(t9 b xs.size (Nat.le_of_lt hb))▸?_;show wpAny _ _ (pure (((0:Nat):Int),(1:Int),Builtin.Slice.slicePlaces ((0:Nat):Int) (b:Int) 1)) _ _ s;refine(t_ 0 b (Nat.zero_le b)).symm▸?_;refine wpAny_pure ?_;simp only[show(b-0==xs.size)=false from nR (by omega),CB,List.drop_zero];rw[Nat.sub_zero,if_neg (by simp)];exact wpAny_bind (wpAny_newObj_type (wpAny_pure ⟨_,rfl,wpAny_pure ⟨_,ai.push S aH (nL (xs.toList.take b).toArray 0),_,_,_,rfl,Wd.aZ ..,ku,CC.mono (ai.push S aH _).le⟩⟩) (br (n:=(xs.toList.take b).length) (CC.length▸ku)))
theorem nV{t sl:Addr}{xs:Array Value}{m:Nat}{vs:List V}{lv hv:Value}{lo hi:Option Int}(S:aG W H s)(g:s.heap.get? t=some (gA xs m))(hz:vs.length<ak)(r:ay W vs xs.toList)
  (hs:s.heap.IsSliceOf sl lv hv .none)(hl:jN lv lo)(hh:jN hv hi):
  wpAny gM A (getItem (.ref t) (.ref sl)) (fun z=>aU W H s aH H fun W' a=>Rel W' (.lst (cut vs lo hi)) z) E s:=by
 obtain el:=r.length;simp only[Array.length_toList] at el;obtain CC:=zB r lo hi;obtain ku:=Nat.lt_of_le_of_lt (zC ..) hz;obtain e:slicePick xs lo hi none=(cut xs.toList lo hi).toArray:=by rw[slicePick_plain];rfl
 refine wpAny_getItem_list_slice (nM g) hs hl.part hh.part .none (by decide) ?_ (br (aQ (nat_lit 9307503654351106) ae el hz));rw[e];obtain PP:=ai.push S aH (gA (cut xs.toList lo hi).toArray 0);refine⟨_,PP,?_⟩;exact⟨_,_,_,rfl,Wd.aZ ..,ku,by exact CC.mono PP.le⟩
theorem picked_eq(x:Str)(l u:Option (Int×Tok)):slicePicked x l u none=(List.range ((u.map (·.1)).elim x.length (clipAt x.length)-(l.map (·.1)).elim 0 (clipAt x.length))).map ((l.map (·.1)).elim 0 (clipAt x.length)+·):=by
 obtain e:∀i:Int,max 0 (min (if i<0 then i+(x.length:Int) else i) (x.length:Int))=((clipAt x.length i:Nat):Int):=fun i=>(clipAt_cast _ _).symm
 obtain key:∀(lo hi:Option Int),sliceRange (match lo with |none=>(0:Int)|some i=>max 0 (min (if i<0 then i+(x.length:Int) else i) (x.length:Int))) (match hi with |none=>(x.length:Int)|some i=>max 0 (min (if i<0 then i+(x.length:Int) else i) (x.length:Int))) 1=(List.range (hi.elim x.length (clipAt x.length)-lo.elim 0 (clipAt x.length))).map (lo.elim 0 (clipAt x.length)+·):=by intro lo hi;rw[←sliceRange_one];induction lo<;>induction hi<;>simp[e]
 exact key _ _
theorem pQ{x:Str}{t:Tok}{sl:Addr}{lv hv:Value}{lo hi:Option Int}(S:aG W H s)(hz:x.length<ak)
  (hs:s.heap.IsSliceOf sl lv hv .none)(hl:jN lv lo)(hh:jN hv hi):
  wpAny gM A (getItem (.str x t) (.ref sl)) (fun z=>aU W H s aH H fun W' a=>Rel W' (.str ⟨(cut x.cps.toList lo hi).toArray⟩) z) E s:=by
 obtain⟨l,rfl,rfl⟩:=hl.pair;obtain⟨u,rfl,rfl⟩:=hh.pair;refine wpAny_getItem_str_slice (st:=none) hs rfl ?_;have e:((slicePicked x l u none).filterMap (x.cps[·]?))=cut x.cps.toList (l.map (·.1)) (u.map (·.1)):=by rw[picked_eq,pick_run];unfold cut;rw[Array.length_toList];rfl
 have ku:(cut x.cps.toList (l.map (·.1)) (u.map (·.1))).toArray.size<ak:=Nat.lt_of_le_of_lt (zC ..) hz;unfold sliceMade;rw[e];induction hc:(((none:Option (Int×Tok)).map (·.1)).getD 1==1&&(slicePicked x l u none).length==x.length) with
 |true=>
  have hc:=eq_of_beq (bj hc).2;rw[picked_eq,List.length_map,List.length_range] at hc;have b1:(u.map (·.1)).elim x.length (clipAt x.length)≤x.length:=by
   induction u with |none=>exact Nat.le_refl _|some q=>exact Int.ofNat_le.mp (clipAt_cast x.length q.1▸Int.max_le.mpr ⟨Int.natCast_nonneg _,Int.min_le_right ..⟩)
  have whole:cut x.cps.toList (l.map (·.1)) (u.map (·.1))=x.cps.toList:=((List.take_sublist ..).trans (List.drop_sublist ..)).eq_of_length_le (by rw[List.length_take,List.length_drop];exact Nat.le_min.mpr ⟨Nat.le_of_eq hc.symm,Nat.le_trans (Nat.le_of_eq hc.symm) (Nat.sub_le_sub_right b1 _)⟩);rw[whole];exact bO (P:=fun W' a=>Rel W' (.str ⟨x.cps.toList.toArray⟩) (.str x t)) S ⟨hz,t,rfl⟩
 |false=>exact⟨br ku,dF S ku⟩
theorem zD{a c:V}{x:Value}{sl:Addr}{lv hv:Value}{lo hi:Option Int}(h:slice H a lo hi=some c)(S:aG W H s)(hx:Rel W a x)
  (hs:s.heap.IsSliceOf sl lv hv .none)(hl:jN lv lo)(PF:jN hv hi):
  xn s x∧wpAny gM A (getItem x (.ref sl)) (fun z=>aU W H s aH H fun W' d=>Rel W' c z) E s:=by
 obtain hh:=lZ S hx;have h:(match deref H a with |.tup xs=>lo.elim (hi.bind fun j=>bif E5 j xs.length then some (.tup (xs.take j.toNat)) else none) fun d=>none|.lst xs=>some (.lst (cut xs lo hi))|.str x=>some (.str ⟨(cut x.cps.toList lo hi).toArray⟩)|_=>none)=some c:=h
 revert hh h
 generalize deref H a=a';intro hh h;induction a' using V.casesOn with
 |tup vs=>
  obtain⟨l,m,xs,rfl,g,hz,r⟩:=hh;induction lo with
  |some _=>exact nE h|none=>
   obtain⟨j,ej,h⟩:=nQ h;refine rh h fun hc e=>e▸⟨l6 g,?_⟩
   have q:=bj hc;have h1:=of_decide_eq_true q.1
   have h2:=of_decide_eq_true q.2;obtain⟨b,rfl⟩:=Int.eq_ofNat_of_zero_le h1;obtain⟨u',rfl⟩:=PF.at ej;obtain⟨_,rfl⟩|⟨_,_,e,_⟩:=hl
   ·exact l7 S g hz r hs (Int.ofNat_lt.mp h2)
   ·exact nE e
 |lst vs=>obtain⟨l,m,xs,rfl,g,hz,r⟩:=hh;exact Option.some.inj h▸⟨oJ g,nV S g hz r hs hl PF⟩
 |str x=>obtain⟨hz,t,rfl⟩:=hh;exact Option.some.inj h▸⟨rG,pQ S hz hs hl PF⟩
 |_=>exact nE h
end
theorem iG{p:Arguments}{ps:List Str}(h:cB p=some ps):∃as,p=⟨[],as,none,[],[],none,[]⟩∧ps=as.map (·.arg):=by
 obtain⟨a,as,b,c,d,e,f⟩:=p;induction a with |cons _ _=>exact nE h|nil=>
 induction b with |some _=>exact nE h|none=>
 induction c with |cons _ _=>exact nE h|nil=>
 induction d with |cons _ _=>exact nE h|nil=>
 induction e with |some _=>exact nE h|none=>
 induction f with |cons _ _=>exact nE h|nil=>exact⟨as,rfl,(Option.some.inj h).symm⟩
theorem eW:∀(ps:List Str) (xs:List Value),ps.length=xs.length→∀n∈ps,((ps.zip xs).lookup n).isNone=false
|[],aM,bL,n,h=>by exact nomatch h|p::ps,[],h,aM,bL=>by simp at h|p::ps,x::xs,h,n,hn=>by
 simp only[List.zip_cons_cons,List.lookup_cons];by_cases hp:n=p
 ·subst hp;simp
 ·obtain h1:(n==p)=false:=by simpa using hp
  refine h1.symm▸?_;exact eW ps xs (by simpa using h) n ((bz hn).resolve_left hp)
theorem iH:∀(ps:List Str) (xs:List Value) (pre:List (Str×Value)),ps.length=xs.length→ps.Nodup→(∀q∈pre,q.1∉ps)→ps.filterMap (fun n=>((pre++ps.zip xs).lookup n).map (n,·))=ps.zip xs
|[],aM,bL,gn,tR,E8=>rfl|p::ps,[],aM,h,bL,gn=>by simp at h|p::ps,x::xs,pre,h,nd,CD=>by
 obtain hl:(pre++(p::ps).zip (x::xs)).lookup p=some x:=by
  refine List.lookup_append.trans ?_;have :pre.lookup p=none:=by rw[List.lookup_eq_none_iff];intro q hq;obtain this:=CD q hq;simp only[List.mem_cons,not_or] at this;simpa using fun e=>this.1 e.symm
  rw[this];simp
 rw[List.filterMap_cons,hl];simp only[Option.map_some,List.zip_cons_cons];congr 1;obtain e:pre++(p,x)::ps.zip xs=(pre++[(p,x)])++ps.zip xs:=by simp
 refine e▸?_;simp only[List.nodup_cons] at nd;refine iH ps xs (pre++[(p,x)]) (by simpa using h) nd.2 fun q hq=>?_
 rcases List.mem_append.mp hq with hq|hq
 ·obtain this:=CD q hq;simp only[List.mem_cons,not_or] at this;exact this.2
 ·rw[List.mem_singleton] at hq;subst hq;exact nd.1
theorem kB{fd:FuncData}{ps:List Str}{xs:List Value}(hp:cB fd.params=some ps)(hd:fd.defaults=.none)(hk:fd.kwdefaults=.none)(hl:ps.length=xs.length)(nd:ps.Nodup):
  bindArgs fd ⟨xs,[]⟩=pure (ps.zip xs):=by
 obtain⟨as,zf,rfl⟩:=iG hp;unfold bindArgs;rw[zf,hd];obtain h1:seqItems? Value.none=pure none:=rfl;obtain hlen:as.length=xs.length:=by simpa using hl
 obtain Kv:List.filter (fun n=>(List.lookup n ((as.map (·.arg)).zip xs)).isNone) (as.map (·.arg))=[]:=by rw[List.filter_eq_nil_iff];intro n hn;rw[eW _ _ hl n hn];simp
 obtain hb:=iH (as.map (·.arg)) xs [] hl nd (fun q hq=>by exact nomatch hq);simp only[List.nil_append] at hb;rw[List.filterMap_map] at hb;simp[h1,hlen,Kv,hb,List.take_of_length_le]
theorem oK(K:Str→Option NameKind):∀(r:List (Str×Value)) (m:Str→Option Value) (x:Str),x∉r.map (·.1)→bindL K r m x=m x
|[],aM,bL,gn=>rfl|(n,v)::r,m,x,h=>by
 simp only[List.map_cons,List.mem_cons,not_or] at h;refine(oK K r _ x h.2).trans ?_;split
 ·skip
  exact if_neg h.1
 ·rfl
theorem oM(K:Str→Option NameKind):∀(r:List (Str×Value)) (m:Str→Option Value) (x:Str),x∉r.map (·.1)→bindC K r m x=m x
|[],aM,bL,gn=>rfl|(n,v)::r,m,x,h=>by
 simp only[List.map_cons,List.mem_cons,not_or] at h;refine(oM K r _ x h.2).trans ?_;split
 ·rfl
 ·skip
  exact if_neg h.1
section
variable{W:Wd}
theorem jg:∀(ps:List Str) (xs:List Value),ps.length=xs.length→(ps.zip xs).map (·.1)=ps|[],aM,bL=>rfl|p::ps,[],h=>by simp at h|p::ps,x::xs,h=>by exact congrArg _ (jg ps xs (by simpa using h))
theorem oN(K:Str→Option NameKind){ps:List Str}{vs:List V}{xs:List Value}(m:Str→Option Value)(nd:ps.Nodup)(hl:ps.length=vs.length)(hr:ay W vs xs)(x:Str)(u:V)(hk:K x=some .local)(h:(ps.zip vs).lookup x=some u):
  ∃y,bindL K (ps.zip xs) m x=some y∧Rel W u y:=by
 induction ps generalizing vs xs m with
 |nil=>exact nE h|cons p ps ih=>induction vs using List.casesOn with
  |nil=>exact nE h|cons v vs=>induction xs using List.casesOn with
   |nil=>exact hr.elim|cons y ys=>
    rw[List.nodup_cons] at nd;simp only[List.zip_cons_cons,List.lookup_cons] at h⊢;unfold bindL;by_cases hx:x=p
    ·subst hx;rw[beq_self_eq_true,Option.some.injEq] at h;subst h;have Fe:ps.length=ys.length:=by obtain this:=hr.2.length;simp only[List.length_cons] at hl;exact aQ (nat_lit 0x12251025190819282512) ae hl this
     rw[oK _ _ _ _ (by rw[jg ps ys Fe];exact nd.1),if_pos hk];exact⟨y,by simp,hr.1⟩
    ·obtain h1:(x==p)=false:=by simpa using hx
     obtain h:=h1▸h;exact ih _ nd.2 (Nat.succ.inj hl) hr.2 h
theorem xq(K:Str→Option NameKind){ps:List Str}{vs:List V}{xs:List Value}(m:Str→Option Value)(nd:ps.Nodup)(hl:ps.length=vs.length)(hr:ay W vs xs)(x:Str)(u:V)(hk:K x≠some .local)(h:(ps.zip vs).lookup x=some u):
  ∃y,bindC K (ps.zip xs) m x=some y∧Rel W u y:=by
 induction ps generalizing vs xs m with
 |nil=>exact nE h|cons p ps ih=>induction vs using List.casesOn with
  |nil=>exact nE h|cons v vs=>induction xs using List.casesOn with
   |nil=>exact hr.elim|cons y ys=>
    rw[List.nodup_cons] at nd;simp only[List.zip_cons_cons,List.lookup_cons] at h⊢;unfold bindC;by_cases hx:x=p
    ·subst hx;rw[beq_self_eq_true,Option.some.injEq] at h;subst h;have Fe:ps.length=ys.length:=by obtain this:=hr.2.length;simp only[List.length_cons] at hl;exact aQ (nat_lit 0x12251025190819282512) ae hl this
     rw[oM _ _ _ _ (by rw[jg ps ys Fe];exact nd.1),if_neg hk];exact⟨y,by simp,hr.1⟩
    ·obtain h1:(x==p)=false:=by simpa using hx
     obtain h:=h1▸h;exact ih _ nd.2 (Nat.succ.inj hl) hr.2 h
end
theorem d9:∀(names:List (Str×NameKind)) (n:Nat) (acc:List (Str×Addr)) (x:Str),(acc.lookup x).isSome=true→((cellsFrom n names acc).lookup x).isSome=true
|[],aM,bL,gn,h=>h|(y,k)::r,n,acc,x,h=>by
 unfold cellsFrom;split
 ·refine d9 r _ _ x ?_;simp only[List.lookup_cons];split<;>trivial
 ·exact d9 r _ _ x h
theorem dj:∀(names:List (Str×NameKind)) (n:Nat) (acc:List (Str×Addr)) (x:Str),names.lookup x=some .cell→((cellsFrom n names acc).lookup x).isSome=true
|[],aM,bL,gn,h=>by simp at h|(y,k)::r,n,acc,x,h=>by
 simp only[List.lookup_cons] at h;unfold cellsFrom;by_cases hx:x=y
 ·subst hx;rw[beq_self_eq_true,Option.some.injEq] at h;subst h;exact d9 r _ _ x (by simp_all)
 ·have h1:(x==y)=false:=by simpa using hx
  obtain h:=h1▸h;split
  ·exact dj r _ _ x h
  ·exact dj r _ _ x h
def CF(sc:Scope)(env:ah)(e:Env)(a:Addr):Prop:=∃x,kindOf sc x=some .cell∧G.C.wo x=true∧(a_ env x).isSome=true∧e.cells.lookup x=some a
open Classical in
def fH(sc:Scope)(env:ah)(e:Env)(W:Wd)(h:Heap):Wd:={W with Z:=fun a=>if CF sc env e a then h.get? a else W.Z a}
theorem vR{sc:Scope}{env:ah}{e:Env}{W:Wd}{h:Heap}{a:Addr}(x:CF sc env e a):(fH sc env e W h).Z a=h.get? a:=if_pos x
theorem ji{sc:Scope}{env:ah}{e:Env}{W:Wd}{h:Heap}{a:Addr}(x:¬CF sc env e a):(fH sc env e W h).Z a=W.Z a:=if_neg x
section
variable{n:Nat}{A:Around}{E:Value→Shared→Prop}{W:Wd}{H H':AH}{s:Shared}{sc:Scope}{env:ah}{e':Env}
theorem aG.fj(S:aG W H s){a:Addr}(h:s.heap.objs.size≤a):¬G.eV a:=fun⟨c,q,hm⟩=>by obtain⟨_,_,_,_,ps,h1,_⟩:=S.tab c a q hm;exact absurd (Heap.lt_size h1) (Nat.not_lt_of_le h)
theorem aG.cH(S:aG W H s){a:Addr}(h:s.heap.objs.size≤a):W.own a=none:=by
 induction e:W.own a with |none=>rfl|some k=>exact absurd (S.b_ a k e).2 (Nat.not_lt_of_le h)
theorem zE{d:yS}{ps:List Str}{vs:List V}{xs:List Value}{s₁:Shared}{fd:FuncData}{f:Addr}(S:aG W H s)(hd:d.ok=true)(vU:d.params=ps)(hl:ps.length=vs.length)(rs:ay W vs xs)
  (rH:fd.scope=d.sc)(hg:fd.globals=mainGlobals)(hb:fd.builtins=builtinsNs)(hc:∃c P,fd.code=.ref c∧(c,P,fd.qualname++".<locals>.")∈G.tabs)
  (I:InCallC s (callEnvC fd s.heap.objs.size f).locals (bindL (callEnvC fd s.heap.objs.size f).kindOf (ps.zip xs) fun b=>none) (callEnvC fd s.heap.objs.size f).cells
    (bindC (callEnvC fd s.heap.objs.size f).kindOf (ps.zip xs) fun b=>none) s₁):
  ai W H s aH (fH d.sc (ps.zip vs) (callEnvC fd s.heap.objs.size f) W s₁.heap) H s₁∧
  ao d.sc (ps.zip vs) (callEnvC fd s.heap.objs.size f) (fH d.sc (ps.zip vs) (callEnvC fd s.heap.objs.size f) W s₁.heap) s₁∧
  ∀a,bY d.sc (callEnvC fd s.heap.objs.size f) a→s.heap.objs.size≤a:=by
 generalize he:callEnvC fd s.heap.objs.size f=e at I;have vV:e.locals=s.heap.objs.size:=by refine he▸?_;rfl
 have Kw:e.scope=d.sc:=by simp only[←he,←rH];rfl
 obtain PG:e.cells=cellsFrom (s.heap.objs.size+1) d.sc.names []:=by rw[←he,←rH];rfl
 have hK:∀x,e.kindOf x=kindOf d.sc x:=fun x=>by unfold Env.kindOf kindOf;rw[Kw]
 unfold yS.ok at hd;simp only[Bool.and_eq_true,decide_eq_true_eq,beq_iff_eq,Bool.not_eq_true'] at hd;obtain PI:=hd.1;obtain U9:=hd.2;refine PI.elim fun PJ Kx=>?_;refine PJ.elim fun PK U_=>?_;refine PK.elim fun PM IY=>?_;refine PM.elim fun PN NO=>?_;refine PN.elim fun Fg hd2=>?_
 rw[vU] at Kx;obtain⟨h',tk,vW⟩:=I.toInCall.same;have big:=fun x c hx=>by have :=I.above x c (mem_of_lookup hx);rw[vV] at this;exact this
 obtain hsz:s.heap.objs.size≤s₁.heap.objs.size:=by have :=I.toInCall.ns.lt;rw[vV] at this;exact Nat.le_of_lt this
 obtain hz:∀a o,W.Z a=some o→(fH d.sc (ps.zip vs) e W s₁.heap).Z a=some o:=by
  intro a o h;rw[ji]
  ·exact h
  ·rintro⟨x,_,_,_,hx⟩;exact absurd (S.Px h) (Nat.not_lt_of_le (Nat.le_of_lt (big x a hx)))
 have PP:ai W H s aH (fH d.sc (ps.zip vs) e W s₁.heap) H s₁:=by
  refine ai.grow S aH I.toInCall.keep hsz rfl rfl hz ?_ (by rw[vW]) (by rw[vW]);intro a o h;by_cases hx:CF d.sc (ps.zip vs) e a
  ·rw[vR hx] at h;refine hx.elim fun x PO=>?_;obtain hx:=PO.2.2.2
   exact .inr ⟨Nat.le_of_lt (big x a hx),h⟩
  ·rw[ji hx] at h;exact .inl h
 refine⟨PP,⟨?_,?_,?_,?_,?_,?_,?_,?_,?_⟩,?_⟩
 ·exact Kw▸(Fg)
 ·refine he▸?_;exact hg
 ·refine he▸?_;exact hb
 ·intro _;obtain⟨c,P,h1,h2⟩:=hc;exact⟨c,P,by rw[←he];exact h1,by exact he▸(h2)⟩
 ·intro x k hk _;left;rw[hK];exact hk
 ·obtain⟨o,es,ep,h1,h2,h3⟩:=I.toInCall.ns;refine⟨o,es,ep,_,h1,S.fj (by rw[vV];exact Nat.le_refl _),h2,I.toInCall.ns,S.cH (by rw[vV];exact Nat.le_refl _),?_,?_⟩
  ·rw[ji]
   ·exact S.gJ (by rw[vV];exact Nat.le_refl _)
   ·rintro⟨x,_,_,_,hx⟩;have :=big x _ hx;rw[vV] at this;exact absurd this (Nat.lt_irrefl _)
  ·intro x v hk hv;obtain⟨y,hy,ry⟩:=oN e.kindOf (fun b=>none) Kx hl rs x v (by rw[hK];exact hk) hv;exact⟨y,hy,ry.mono PP.le⟩
 ·intro x hx;obtain⟨c,hc⟩:=lF (by rw[PG];exact dj d.sc.names (s.heap.objs.size+1) [] x hx:(e.cells.lookup x).isSome=true);obtain⟨o,ho,fm⟩:=I.cell x c hc;obtain hb:=big x c hc;refine⟨c,o,_,hc,ho,S.fj (Nat.le_of_lt hb),fm,S.cH (Nat.le_of_lt hb),?_⟩;cases hv:a_ (ps.zip vs) x with
  |none=>
   rw[ji]
   ·exact S.gJ (Nat.le_of_lt hb)
   ·rintro⟨y,_,_,hy,PR⟩;have :y=x:=name_of_addr I.apart (mem_of_lookup PR) (mem_of_lookup hc);subst this;rw[hv] at hy;exact bE hy
  |some v=>
   obtain⟨y,hy,ry⟩:=xq e.kindOf (fun b=>none) Kx hl rs x v (by rw[hK,hx];decide) hv;refine⟨⟨y,hy,ry.mono PP.le⟩,?_⟩;by_cases hw:G.C.wo x=true
   ·rw[if_pos hw];rw[vR ⟨x,hx,hw,by rw[hv];rfl,hc⟩];exact ho
   ·rw[if_neg hw];rw[ji]
    ·exact S.gJ (Nat.le_of_lt hb)
    ·rintro⟨y,_,U',_,PR⟩;have :y=x:=name_of_addr I.apart (mem_of_lookup PR) (mem_of_lookup hc);cases this;exact hw U'
 ·intro x v hk hv;exfalso;obtain hx:=(List.of_mem_zip (mem_of_lookup hv)).1;rw[vU] at IY;have :=cO IY x hx
  unfold zo at this;rw[hk] at this;exact bE this
 ·intro x y c hx hy h1 h2;exact name_of_addr I.apart (mem_of_lookup h1) (mem_of_lookup h2)
 ·intro a ha;rcases ha with rfl|⟨x,_,hx⟩
  ·rw[vV];exact Nat.le_refl _
  ·exact Nat.le_of_lt (big x a hx)
end
section
variable{n:Nat}{A:Around}{E:Value→Shared→Prop}{sc:Scope}{e':Env}
end
section
variable{H H':AH}{W:Wd}{s:Shared}
theorem b8{k:Nat}{o:aE}{u:Unit}(h:fC k o H=some (u,H')):H'=H.set k o:=by cases h;rfl
theorem cV{k j:Nat}{o:aE}(h:(H.set k .gone)[j]?=some o):(j=k∧o=.gone)∨(j≠k∧H[j]?=some o):=by
 by_cases hj:j=k
 ·subst hj;obtain bT:j<H.length:=by obtain this:=(c_ h).1;simpa using this
  rw[List.getElem?_set_self bT] at h;exact .inl ⟨rfl,(Option.some.inj h).symm⟩
 ·rw[List.getElem?_set_ne (Ne.symm hj)] at h;exact .inr ⟨hj,h⟩
theorem aG.Ky(S:aG W H s)(k:Nat):aG W (H.set k .gone) s:=by
 refine⟨S.z,S.i5,fun a j h=>⟨by rw[List.length_set];exact(S.b_ a j h).1,(S.b_ a j h).2⟩,fun a j h hl=>?_,fun j o h=>?_,S.tab,S.base⟩
 ·refine S.qX a j h ?_;obtain⟨o,ho,hn⟩:=hl;rcases cV ho with ⟨_,rfl⟩|⟨_,ho⟩
  ·exact hn.elim
  ·exact⟨o,ho,hn⟩
 ·rcases cV h with ⟨rfl,rfl⟩|⟨_,ho⟩
  ·have bT:j<H.length:=by
    obtain this:=(c_ h).1;simpa using this
   refine(S.obj j _ (List.getElem?_eq_getElem bT)).elim fun a Kz=>?_;obtain h1:=Kz.1
   exact⟨a,h1,trivial⟩
  ·exact S.obj j o ho
theorem ai.Ky(S:aG W H s)(X:Addr→Prop)(k:Nat):ai W H s X W (H.set k .gone) s:=
 ⟨S.Ky k,.refl W,fun a a h=>h,fun a a h=>.inl h,fun a a h=>.inl h,fun a a h a a a=>h,fun a ps a h=>⟨#[],by exact h⟩,fun j h=>by
  by_cases hj:j=k
  ·subst hj;obtain bT:=(c_ h).1;exact List.getElem?_set_self bT
  ·refine(List.getElem?_set_ne (Ne.symm hj)).trans ?_;exact h,by rw[List.length_set];exact Nat.le_refl _,Nat.le_refl _,rfl,rfl⟩
set_option tactic.hygienic true in
theorem ai.freeze(S:aG W H s)(X:Addr→Prop){k:Nat}{a:Addr}{o:Obj}(hk:H[k]?=some .gone)(ha:W.φ k=some a)(ho:s.heap.get? a=some o)(hn:¬G.eV a)(hz:W.Z a=none∨W.Z a=some o)(hX:X a):
  ai W H s X (W.add a o) H s:=by
 have own:=S.i5 k a ha;have tG:∀b o',W.Z b=some o'→(W.add a o).Z b=some o':=by
  intro b o' h;show(if b=a then some o else W.Z b)=some o';split
  ·rename_i e;subst e;rcases hz with hz|hz
   ·rw[hz] at h;exact nE h
   ·rw[hz] at h;exact h
  ·exact h
 have zc:∀b o',(W.add a o).Z b=some o'→(b=a∧o'=o)∨W.Z b=some o':=by
  intro b o' h;have h':(if b=a then some o else W.Z b)=some o':=h
  split at h'
  ·rename_i e;obtain rfl:=Option.some.inj h';exact .inl ⟨e,rfl⟩
  ·exact .inr h'
 have L:W.Le (W.add a o):=⟨tG,fun d d h=>h⟩;refine⟨⟨fun b o' h=>?_,S.i5,S.b_,fun b j h hl=>?_,fun j o' h=>?_,fun c P q hm=>?_,S.base.mono tG⟩,L,fun d d h=>h,fun d d h=>.inl h,fun b o' h=>?_,fun d d h d d d=>h,fun d ps d h=>⟨#[],by exact h⟩,fun d h=>h,Nat.le_refl _,Nat.le_refl _,rfl,rfl⟩
 ·rcases zc b o' h with ⟨rfl,rfl⟩|h
  ·exact ho
  ·exact S.z b o' h
 ·induction hh:(W.add a o).Z b with
  |none=>rfl|some o'=>
   rcases zc b o' hh with ⟨rfl,rfl⟩|h'
   ·have h2:W.own b=some j:=h;rw[own] at h2;obtain rfl:=Option.some.inj h2;obtain⟨q,hq,hn⟩:=hl;rw[hk] at hq;obtain rfl:=Option.some.inj hq;exact hn.elim
   ·rw[S.qX b j h hl] at h';exact nE h'
 ·obtain⟨b,h1,h2⟩:=S.obj j o' h;exact⟨b,h1,h2.keeps L (fun d h=>h) (fun d e=>e) fun d d d e=>e⟩
 ·obtain⟨h1,⟨oc,h0⟩,h2,lY,ps,h3,h4,h5⟩:=S.tab c P q hm;refine⟨h1,⟨oc,tG _ _ h0⟩,?_,lY,ps,h3,h4,fun pos cv hc=>(h5 pos cv hc).mono tG⟩
  ·induction hh:(W.add a o).Z P with
   |none=>rfl|some o'=>
    rcases zc P o' hh with ⟨rfl,rfl⟩|h'
    ·exact absurd ⟨c,q,hm⟩ hn
    ·rw[h2] at h';exact nE h'
 ·rcases zc b o' h with ⟨rfl,rfl⟩|h
  ·exact .inr (.inr (.inr hX))
  ·exact .inl h
theorem aG.oO(S:aG W H s){a:Addr}{o:Obj}(h:s.heap.get? a=some o)(hc:o.cls≠.none):¬G.eV a:=fun⟨c,q,hm⟩=>by obtain⟨_,_,_,_,ps,h1,_⟩:=S.tab c a q hm;rw[h] at h1;obtain rfl:=Option.some.inj h1;exact hc rfl
theorem l8{f:V→M V}{n:Nat}
  (hf:∀{v v':V} {H H':AH} {W:Wd} {x:Value},f v H=some (v',H')→aG W H s→Rel W v x→∃W',ai W H s aH W' H' s∧Rel W' v' x)
  {vs pR:List V}{H H':AH}{W:Wd}{xs:List Value}(h:fX f vs H=some (pR,H'))(S:aG W H s)(r:ay W vs xs):∃W',ai W H s aH W' H' s∧ay W' pR xs:=by
 induction vs generalizing pR H H' W xs with
 |nil=>induction xs with |cons _ _=>exact r.elim|nil=>refine gG h ?_;exact⟨W,.refl S,r⟩
 |cons v vs ih=>induction xs with
  |nil=>exact r.elim|cons x xs=>
   refine bJ h fun y H₁ h1 h=>?_
   refine bJ h fun ys H₂ h2 h=>?_
   refine gG h ?_;obtain⟨W₁,P₁,r₁⟩:=hf h1 S r.1;obtain⟨W₂,P₂,r₂⟩:=ih h2 P₁.sim (r.2.mono P₁.le);exact⟨W₂,P₁.trans S P₂,⟨r₁.mono P₂.le,r₂⟩⟩
theorem gO{f:V→M V}:∀{vs pR:List V} {H H':AH},fX f vs H=some (pR,H')→pR.length=vs.length
|[],pR,H,H',h=>by refine gG h ?_;rfl|v::vs,pR,H,H',h=>by
 refine bJ h fun y H₁ h1 h=>?_
 refine bJ h fun ys H₂ h2 h=>?_
 refine gG h ?_;simp[gO h2]
theorem jj{f:V→M V}:∀{vs pR:List (Str×V)} {H H':AH},eR f vs H=some (pR,H')→pR.map (·.1)=vs.map (·.1)
|[],pR,H,H',h=>by refine gG h ?_;rfl|(k,v)::vs,pR,H,H',h=>by
 refine bJ h fun y H₁ h1 h=>?_
 refine bJ h fun ys H₂ h2 h=>?_
 refine gG h ?_;simp[jj h2]
theorem ua{f:V→M V}{n:Nat}
  (hf:∀{v v':V} {H H':AH} {W:Wd} {x:Value},f v H=some (v',H')→aG W H s→Rel W v x→∃W',ai W H s aH W' H' s∧Rel W' v' x)
  {vs pR:List (Str×V)}{H H':AH}{W:Wd}{es:List DictEntry}(h:eR f vs H=some (pR,H'))(S:aG W H s)(r:Reld W vs es):∃W',ai W H s aH W' H' s∧Reld W' pR es:=by
 induction vs generalizing pR H H' W es with
 |nil=>induction es with |cons _ _=>exact r.elim|nil=>refine gG h ?_;exact⟨W,.refl S,r⟩
 |cons v vs ih=>induction es with
  |nil=>exact r.elim|cons x xs=>
   refine bJ h fun y H₁ h1 h=>?_
   refine bJ h fun ys H₂ h2 h=>?_
   refine gG h ?_;obtain⟨W₁,P₁,r₁⟩:=hf h1 S r.2.1;obtain⟨W₂,P₂,r₂⟩:=ih h2 P₁.sim (r.2.2.mono P₁.le);exact⟨W₂,P₁.trans S P₂,⟨r.1,r₁.mono P₂.le,r₂⟩⟩
theorem ik:∀(n:Nat) {v v':V} {H H':AH} {W:Wd} {x:Value},freeze n v H=some (v',H')→aG W H s→Rel W v x→∃W',ai W H s aH W' H' s∧Rel W' v' x
|0,v,v',H,H',W,x,h,aM,bL=>by exact nE h|n+1,v,v',H,H',W,x,h,S,r=>by
 induction v using V.casesOn with
 |ref k=>
  refine bJ h fun o H₁ h1 h=>?_
  obtain⟨ho,hn,rfl⟩:=bQ h1;obtain⟨a,rfl,ha⟩:=r;have O:=S.at ho ha
  obtain bT:=(c_ ho).1;obtain zn:=S.qX a k (S.i5 k a ha) hn;have hg:∀(o:aE),(H₁.set k o)[k]?=some o:=fun o=>List.getElem?_set_self bT
  induction o with
  |lst xs=>
   refine bJ h fun u H₂ h2 h=>?_
   have :=b8 h2;subst this;refine bJ h fun ys H₃ h3 h=>?_
   refine gG h ?_;obtain⟨m',zs,g,hz,rs⟩:=O;obtain P₁:=ai.Ky S (fun b=>b=a) k;have P₂:=ai.freeze P₁.sim (fun b=>b=a) (hg .gone) ha g (S.oO g (by simp_all)) (.inl zn) rfl
   have P':ai _ _ _ aH _ _ _:=(P₁.trans S P₂).Fc fun b hb=>.inr ⟨k,by refine hb▸?_;exact S.i5 k a ha,hn⟩
   obtain⟨W₃,P₃,r₃⟩:=l8 (n:=n) (ik n) h3 P'.sim (rs.mono P'.le);refine⟨W₃,P'.trans S P₃,?_⟩;exact⟨a,m',zs,rfl,P₃.le.z _ _ (Wd.aZ ..),by rw[gO h3];exact hz,r₃⟩
  |bf xs=>
   refine bJ h fun u H₂ h2 h=>?_
   have :=b8 h2;subst this;refine bJ h fun ys H₃ h3 h=>?_
   refine gG h ?_;obtain⟨m',zs,g,h0,nd,hz,rs⟩:=O;have P₁:=ai.Ky S (fun b=>b=a) k
   obtain P₂:=ai.freeze P₁.sim (fun b=>b=a) (hg .gone) ha g (S.oO g (by simp_all)) (.inl zn) rfl;have P':ai _ _ _ aH _ _ _:=(P₁.trans S P₂).Fc fun b hb=>.inr ⟨k,by rw[hb];exact S.i5 k a ha,hn⟩
   refine(ua (n:=n) (ik n) h3 P'.sim (rs.mono P'.le)).elim fun W₃ KA=>?_;obtain P₃:=KA.1;obtain r₃:=KA.2
   refine⟨W₃,P'.trans S P₃,?_⟩;obtain hk:=jj h3;exact⟨a,m',zs,rfl,P₃.le.z _ _ (Wd.aZ ..),h0,by rw[hk];exact nd,by obtain this:=congrArg List.length hk;simp only[List.length_map] at this;rw[this];exact hz,r₃⟩
  |_=>exact nE h
 |tup xs=>
  refine bJ h fun ys H₃ h3 h=>?_
  refine gG h ?_;obtain⟨a,m',zs,rfl,z,hz,rs⟩:=r;obtain⟨W₃,P₃,r₃⟩:=l8 (n:=n) (ik n) h3 S rs;refine⟨W₃,P₃,?_⟩;exact⟨a,m',zs,rfl,P₃.le.z _ _ z,by rw[gO h3];exact hz,r₃⟩
 |_=>refine gG h ?_;exact⟨W,.refl S,r⟩
end
section
variable{n:Nat}{A:Around}{E:Value→Shared→Prop}{W:Wd}{H H':AH}{s:Shared}
theorem bA.deeper{A:Around}{n:Nat}(h:bA A (n+1))(e:Env):bA (A.deeper e) n:=⟨h.handled,by obtain this:=h.depth;simp only[Around.deeper];exact aQ (nat_lit 0x21190881121918081101) ae this,by obtain this:=h.units;simp only[Around.deeper];exact aQ (nat_lit 0x21ca390881121918ca081101) ae this⟩
theorem bA.in1{A:Around}{n:Nat}(h:bA A (n+1)):bA A.in1 n:=⟨h.handled,by obtain this:=h.depth;exact aQ (nat_lit 0x21081121918081101) ae this,by obtain this:=h.units;lia⟩
theorem bA.lim{A:Around}{n:Nat}(h:bA A n):A.depth<recursionLimit:=by obtain this:=h.depth;exact aQ (nat_lit 35257940709633) ae this
theorem kj.val{fl:Fl}{g:Flow}:kj W fl g→Rel W (OG fl) (match g with |.ret v=>v|_=>.none):=by
 intro F;induction fl with |next=>subst F;rfl|cont=>subst F;rfl|ret u=>obtain⟨x,rfl,rx⟩:=F;exact rx
theorem iq{sc:Scope}{x:Str}{k:NameKind}(h:kindOf (gE sc) x=some k)(hk:k≠.globalExplicit):kindOf sc x=some k:=by
 unfold kindOf gE at h;unfold kindOf;rw[List.lookup_append] at h;induction hx:sc.names.lookup x with
 |some k'=>rw[hx] at h;exact h|none=>
  rw[hx] at h;simp only[Option.none_or,List.lookup_cons] at h;split at h
  ·obtain rfl:=Option.some.inj h;exact absurd rfl hk
  ·simp at h
theorem uc(sc:Scope):gr (gE sc)=true:=by unfold gr gE;simp
theorem kR.get:∀{cQ:List (Str×V)} {cl:List (Str×Addr)} {x:Str} {v:V},kR W cQ cl→cQ.lookup x=some v→E_ W.Z x cl (Rel W v)
|[],aM,bL,gn,tR,h=>by simp at h|(k,u)::r,cl,x,v,hr,h=>by
 simp only[List.lookup_cons] at h;by_cases hx:x=k
 ·subst hx;rw[beq_self_eq_true,Option.some.injEq] at h;subst h;exact hr.1
 ·obtain h1:(x==k)=false:=by simpa using hx
  obtain h:=h1▸h;exact hr.2.get h
theorem xr{ps:List Str}{vs:List V}{xs:List Value}{sc:Scope}{cQ:List (Str×V)}{cl:List (Str×Addr)}{h₁:Heap}{e:Env}(S:aG W H s)(hc:vz ps sc cQ=true)(hl:ps.length=vs.length)(rs:ay W vs xs)
  (rc:kR W cQ cl)(vV:e.locals=s.heap.objs.size)(Kw:e.scope=sc)(PG:e.cells=cl)(Va:e.globals=mainGlobals)(Vb:e.builtins=builtinsNs)
  (ud:h₁.Ns s.heap.objs.size fun x=>(ps.zip xs).reverse.lookup x)(o:Obj)(yK:Heap.SameBut s.heap.objs.size (s.heap.push o) h₁):
  ai W H s aH W H {s with heap:=h₁,toks:=s.toks+(ps.zip xs).length}∧ao (gE sc) (ps.zip vs++cQ) e W {s with heap:=h₁,toks:=s.toks+(ps.zip xs).length}∧
  ∀a,bY (gE sc) e a→s.heap.objs.size≤a:=by
 unfold vz at hc;simp only[Bool.and_eq_true,decide_eq_true_eq,beq_iff_eq,Bool.not_eq_true'] at hc;obtain⟨⟨⟨⟨⟨⟨⟨⟨kW,KC⟩,NP⟩,NQ⟩,KD⟩,Vc⟩,XG⟩,S1⟩,XH⟩:=hc;obtain hk:=fun a o' e=>yK.extBut a o' (Nat.ne_of_lt (Heap.lt_size e)) (Heap.get?_push_of_some _ e)
 have hsz:=Nat.le_of_lt ud.lt;have PP:ai W H s aH W H {s with heap:=h₁,toks:=s.toks+(ps.zip xs).length}:=ai.grow S aH hk hsz rfl rfl (fun b b h=>h) (fun b b h=>.inl h) rfl rfl
 have ue:∀x,kindOf (gE sc) x≠some .cell:=fun x hx=>by have :=iq hx (by decide);obtain this:=cO KD _ (mem_of_lookup this);simp at this
 have KG:=fun p hp=>by obtain this:=cO Vc p hp;simpa using this
 refine⟨PP,⟨?_,Va,Vb,?_,?_,?_,?_,?_,?_⟩,?_⟩
 ·exact Kw▸(KC)
 ·intro h;rw[uc] at h;exact nomatch h
 ·intro x k hx hk;left;unfold Env.kindOf;refine Kw▸?_;exact iq hx hk
 ·refine(id ud).elim fun ob CG=>?_;refine CG.elim fun es Vd=>?_;refine Vd.elim fun ep PS=>?_;obtain h1:=PS.1;obtain h2:=PS.2.1;obtain h3:=PS.2.2
  refine⟨ob,es,ep,_,by rw[vV];exact h1,S.fj (by rw[vV];exact Nat.le_refl _),h2,by rw[vV];exact ud,S.cH (by rw[vV];exact Nat.le_refl _),S.gJ (by rw[vV];exact Nat.le_refl _),?_⟩;intro x v hx hv;obtain Cq:=iq hx (by decide);have zF:(ps.zip vs++cQ).lookup x=some v:=hv
  rw[List.lookup_append] at zF;have :cQ.lookup x=none:=by rw[List.lookup_eq_none_iff];intro q hq;obtain this:=cO kW q hq;simp only[Bool.and_eq_true,beq_iff_eq] at this;simp only[bne_iff_ne,ne_eq];rintro rfl;rw[Cq] at this;exact absurd this.1 (by decide)
  rw[this,Option.or_none] at zF;obtain⟨y,hy,ry⟩:=oN (fun b=>some .local) (fun b=>none) S1 hl rs x v rfl zF;refine⟨y,?_,ry⟩;obtain KH:ps.length=xs.length:=by rw[hl];exact rs.length
  obtain key:∀(l:List (Str×Value)) (m:Str→Option Value),(l.map (·.1)).Nodup→bindL (fun b=>some .local) l m x=(l.reverse.lookup x).or (m x):=by
   intro l;induction l with
   |nil=>intro m _;rfl|cons p l ih=>
    intro m nd;obtain⟨k,u⟩:=p;simp only[List.map_cons,List.nodup_cons] at nd;unfold bindL;rw[if_pos rfl,ih _ nd.2,List.reverse_cons,List.lookup_append];by_cases hx:x=k
    ·subst hx;simp
    ·obtain h1:(x==k)=false:=by simpa using hx
     simp[List.lookup_cons,h1,hx]
  rw[key _ _ (by rw[jg _ _ KH];exact S1)] at hy;simpa using hy
 ·intro x hx;exact absurd hx (ue x)
 ·intro x v hx hv;obtain Cq:=iq hx (by decide);have zF:(ps.zip vs++cQ).lookup x=some v:=hv
  rw[List.lookup_append] at zF;have hn:(ps.zip vs).lookup x=none:=by
   rw[List.lookup_eq_none_iff];intro q hq;simp only[bne_iff_ne,ne_eq];rintro rfl;have :=KG q.1 (List.of_mem_zip hq).1
   rw[Cq] at this;exact nomatch this
  rw[hn,Option.none_or] at zF;obtain⟨c,o',y,h1,h2,h3,h4⟩:=rc.get zF;obtain KI:=cO kW _ (mem_of_lookup zF);simp only[Bool.and_eq_true,bne_iff_ne,ne_eq] at KI;exact⟨c,o',y,by rw[PG];exact h1,hk _ _ (S.z _ _ h2),h3,h4,by simpa using KI.2,.inl h2⟩
 ·intro x y c hx;exact absurd hx (ue x)
 ·intro a ha;rcases ha with rfl|⟨x,hx,_⟩
  ·rw[vV];exact Nat.le_refl _
  ·exact absurd hx (ue x)
end
end Mine
end
noncomputable section
open PySem PySem.W PySem.Builtin PySem.Builtin.Str
namespace Mine
theorem jO{M:Model}{Γ:Ctx}{p:Pos}{t:Sem Fin}{fs:List Frame}{s s':Shared}{e:End}(h:Runs M Γ p t fs s e s'):s.heap.objs.size≤s'.heap.objs.size:=by induction h<;>(try simp only[Shared.setGen,Heap.size_push,Heap.size_after_update] at *)<;>(first|exact aJ (nat_lit 256) ae|exact aA (nat_lit 68737302785) ae ‹_›|exact aA (nat_lit 281548411109633) ae ‹_›|exact aQ (nat_lit 5067717828804866) ae ‹_› ‹_›)
theorem uf{M:Model}{Γ:Ctx}{p:Pos}{g:Nat}{r:Resume}{s s':Shared}{res:GenResult}(h:Wakes M Γ p g r s res s'):s.heap.objs.size≤s'.heap.objs.size:=by
 unfold Wakes at h;split at h
 ·exact h.elim
 ·split at h
  ·obtain⟨e₁,s₁,hr,_,_,rfl⟩:=h;exact(jO hr:(s.setGen g .running).heap.objs.size≤s₁.heap.objs.size)
  ·exact h.2▸(Nat.le_refl _)
  ·exact h.2▸(Nat.le_refl _)
 ·obtain⟨e₁,s₁,hr,_,_,rfl⟩:=h;exact(jO hr:(s.setGen g .running).heap.objs.size≤s₁.heap.objs.size)
 ·rw[h.2];exact Nat.le_refl _
 ·rw[h.2];exact Nat.le_refl _
theorem CH{α:Type}(M:Model)(Γ:Ctx)(n:Nat)(t:Sem α):∀(Q:α→Pos→Shared→Prop) (E:Value→Pos→Shared→Prop) (p:Pos) (s:Shared),n≤s.heap.objs.size→Sem.wp M Γ t Q E p s→
  Sem.wp M Γ t (fun a p' s'=>n≤s'.heap.objs.size∧Q a p' s') (fun e p' s'=>n≤s'.heap.objs.size∧E e p' s') p s:=by
 induction t with
 |pure a=>intro Q E p s hn h;exact⟨hn,h⟩|raise e=>intro Q E p s hn h;exact⟨hn,h⟩|unsupported _=>intro Q E p s _ h;exact h|finish _=>intro Q E p s _ h;exact h|rule _ k ih=>intro Q E p s hn h;exact ih () Q E p s hn h|«at»p' k ih=>intro Q E p s hn h;exact ih () Q E p' s hn h|load a _ k ih=>intro Q E p s hn h;refine h.elim fun o z=>z.elim fun ho h=>?_;exact⟨o,ho,ih o Q E p s hn h⟩|update a _ f k ih=>intro Q E p s hn h;exact⟨h.1,ih () Q E p _ (by rw[Heap.size_after_update];exact hn) h.2⟩|loadIfAlive a k ih=>intro Q E p s hn h;exact ih _ Q E p s hn h|point _ k ih=>intro Q E p s hn h;exact ih () Q E p s hn h|register _ _=>intro Q E p s _ h;exact h|alloc o k ih=>intro Q E p s hn h;exact ih _ Q E p _ (by rw[Heap.size_push];exact Nat.le_succ_of_le hn) h|fresh k ih=>intro Q E p s hn h;exact ih _ Q E p _ hn h|ask k ih=>intro Q E p s hn h;exact ih _ Q E p s hn h|choose src m k ih=>intro Q E p s hn h;exact⟨h.1,ih _ Q E p _ hn h.2⟩|os q _ k ih=>intro Q E p s hn h;exact ih _ Q E p _ hn h|call c hd _ _ k ih=>intro Q E p s hn h;refine h.elim fun r GC=>?_;refine GC.elim fun s' pS=>?_;obtain hr:=pS.1;obtain h:=pS.2;exact⟨r,s',hr,ih r Q E p s' (Nat.le_trans hn (jO hr)) h⟩
 |handled own k ih=>intro Q E p s hn h;exact ih _ Q E p s hn h|genState g k ih=>intro Q E p s hn h;refine h.elim fun st KJ=>?_;obtain hs:=KJ.1;obtain h:=KJ.2;exact⟨st,hs,ih _ Q E p s hn h⟩
 |newGen c k ih=>intro Q E p s hn h;exact ih _ Q E p _ hn h|resume g r _ k ih=>intro Q E p s hn h;obtain⟨res,s',hw,h⟩:=h;exact⟨res,s',hw,ih res Q E p s' (Nat.le_trans hn (uf hw)) h⟩
 |yield _ _ _ _=>intro Q E p s _ h;exact h|stack k ih=>intro Q E p s hn h;exact ih _ Q E p s hn h|fork _ _=>intro Q E p s _ h;exact h|thread k ih=>intro Q E p s hn h;exact ih _ Q E p s hn h|await _ _ _ _ _=>intro Q E p s _ h;exact h
theorem bD{α:Type}{M:Model}{A:Around}{s:Shared}{t:Sem α}{Q:α→Shared→Prop}{E:Value→Shared→Prop}
  (h:wpAny M A t (fun a s'=>s.heap.objs.size≤s'.heap.objs.size→Q a s') E s):wpAny M A t Q E s:=
 wpAny_mono (fun Γ p hΓ=>CH M Γ s.heap.objs.size t _ _ p s (Nat.le_refl _) (h Γ p hΓ):wpAny M A t (fun a s'=>s.heap.objs.size≤s'.heap.objs.size∧(s.heap.objs.size≤s'.heap.objs.size→Q a s')) (fun e s'=>s.heap.objs.size≤s'.heap.objs.size∧E e s') s)
  (fun b b x=>x.2 x.1) (fun b b x=>x.2)
end Mine
end
noncomputable section
open PySem PySem.W PySem.Builtin PySem.Builtin.Str PySem.Builtin.ObjectAttr
namespace Mine
theorem bh:StoreFacts "function" [.type "function",.type "object"] "object.__setattr__" "object" where
 mro:=by kernel_rfl
 slot:=.of (owner:="object") (n:="__setattr__") (by rw[typeLookup_type,builtinLookup_eq_fast];kernel_rfl) (by decide+kernel) (by decide+kernel) (by decide+kernel)
  (by first|exact .inl (by decide+kernel)|exact .inr (by decide+kernel)) (by rw[isSubtype_type];kernel_rfl)
 entry:=F.entry_object_sa
 kind:=by decide+kernel
 split:=by decide+kernel
 hasOwner:=by decide+kernel
 args:=fun a b c=>by unfold argsOk;kernel_rfl
 passes:=fun self=>by kernel_rfl
theorem iI:typeLookup (.type "function") (Str.ofString "read")=pure none:=am_miss_of_fast (by kernel_rfl)
theorem jP:typeLookup (.type "function") "__getattr__"=pure none:=am_miss_of_fast (by kernel_rfl)
theorem cy:Slot "function" (Str.ofString "__getattribute__") "object.__getattribute__":=
 .of (owner:="object") (n:="__getattribute__") (by rw[typeLookup_type,builtinLookup_eq_fast];kernel_rfl) (by decide+kernel) (by decide+kernel) (by decide+kernel)
  (by first|exact .inl (by decide+kernel)|exact .inr (by decide+kernel)) (by rw[isSubtype_type];kernel_rfl)
section
variable{A:Around}{E:Value→Shared→Prop}{h:Heap}{g:Array GenState}{d:Drawn}{t:Nat}{os:OsState}{x:Addr}{o:Obj}{fd:FuncData}{name:Str}{v:Value}
theorem rI{M:Model}{l9:Value}{Q:Unit→Shared→Prop}(hx:h.get? x=some o)(hc:o.cls=.type "function")(hq:Q () ⟨h,g,d,t,os⟩):
  wpAny M A (checkBuiltinCall "object.__setattr__" ⟨[.ref x,l9,v],[]⟩) Q E ⟨h,g,d,t,os⟩:=by
 have ha:=bh.args (.ref x) l9 v;have hT:(⟨h,g,d,t,os⟩:Shared).TypeIs (.ref x) "function":=⟨_,hx,hc⟩
 simp only[checkBuiltinCall,bh.kind,bh.split];refine wpAny_bind ?_
 ·unfold isInstance;refine wpAny_bind (wpAny_typeOf hT ?_);have :isSubtype (.type "function") (.type "object")=pure true:=by rw[isSubtype_type];kernel_rfl
  rw[this];refine wpAny_pure ?_;induction GD:Manifest.signature? "object.__setattr__" with
  |none=>exact wpAny_pure hq|some sig=>
   simp only[argsOk,GD] at ha;have h2:=ha
   show wpAny M A (Bind.checkArgs "object.__setattr__" sig ⟨[.ref x,l9,v],[]⟩) Q E _;rw[h2];exact wpAny_pure hq
theorem rJ{M:Model}{l9:Value}{Q:Unit→Shared→Prop}(hx:h.get? x=some o)(hc:o.cls=.type "function")(hq:Q () ⟨h,g,d,t,os⟩):
  wpAny M A (checkBuiltinCall "object.__getattribute__" ⟨[.ref x,l9],[]⟩) Q E ⟨h,g,d,t,os⟩:=by
 have hT:(⟨h,g,d,t,os⟩:Shared).TypeIs (.ref x) "function":=⟨_,hx,hc⟩;have hk:builtinKind "object.__getattribute__"=some .slot:=by decide+kernel
 have Ve:splitId "object.__getattribute__"=some ("object","__getattribute__"):=by decide+kernel
 simp only[checkBuiltinCall,hk,Ve];refine wpAny_bind ?_
 ·unfold isInstance;refine wpAny_bind (wpAny_typeOf hT ?_);have :isSubtype (.type "function") (.type "object")=pure true:=by rw[isSubtype_type];kernel_rfl
  rw[this];refine wpAny_pure ?_;have ha:=F.args_object_getattribute_2 (.ref x) l9
  induction GD:Manifest.signature? "object.__getattribute__" with
  |none=>exact wpAny_pure hq|some sig=>
   simp only[argsOk,GD] at ha;have h2:=ha
   show wpAny M A (Bind.checkArgs "object.__getattribute__" sig ⟨[.ref x,l9],[]⟩) Q E _;rw[h2];exact wpAny_pure hq
theorem l_{tk:Tok}{Q:Fin→Shared→Prop}(hx:h.get? x=some o)(hc:o.cls=.type "function")(fm:o.data=.func fd)(KL:o.dict=none)(hB:typeLookup (.type "function") name=pure none)
  (hq:∀h' xu,h'.get? x=some {cls:=o.cls,dict:=some h.objs.size,data:=o.data,slots:=o.slots}→h'.Ns1 h.objs.size (fun y=>if y=name then some v else none)→(∀b ob,b≠x→h.get? b=some ob→h'.get? b=some ob)→Q (.done (.ret .none)) ⟨h',g,d,xu,os⟩):
  wpAny gM A (Builtin.«object.__setattr__» ⟨[.ref x,.str name tk,v],[]⟩) Q E ⟨h,g,d,t,os⟩:=by
 have KN:=bh.passes (.ref x);have GF:=bh.mro
 have hT:(⟨h,g,d,t,os⟩:Shared).TypeIs (.ref x) "function":=⟨_,hx,hc⟩;unfold Builtin.«object.__setattr__»
 repeat (first|rw[refuse_eq]|rw[KN]|rw[GF]|rw[hB]|(with_reducible refine wpAny_loadPart_at hx ?_;rw[hc])|wp_step)
 have Vf:typeHasDict (.type "function")=true:=by kernel_rfl
 have Vg:∀a b,dictMade (.type "function") a b=pure (some b):=fun a b=>by
  unfold dictMade;have :finalisedInACycleAlone "function"=false:=by decide+kernel
  simp only[this];rfl
 rw[KL,fm,Vf]
 skip
 have Fi:(h.push {cls:=.type "dict",data:=.dict #[]}).get? x=some o:=Heap.get?_push_of_some _ hx;have S3:=Nat.ne_of_lt (Heap.lt_size hx)
 refine wpAny_bind (wpAny_alloc' ?_);refine wpAny_bind (wpAny_update' Fi ?_);rw[Vg];refine wpAny_pure ?_
 have PU:((h.push {cls:=.type "dict",data:=.dict #[]}).update x fun o=>{cls:=o.cls,dict:=some h.objs.size,data:=o.data,slots:=o.slots}).get? h.objs.size
   =some {cls:=.type "dict",data:=.dict #[]}:=
  (Heap.get?_update_ne _ _ _ _ S3.symm).trans (Heap.get?_push_at rfl rfl)
 have iA:((h.push {cls:=.type "dict",data:=.dict #[]}).update x fun o=>{cls:=o.cls,dict:=some h.objs.size,data:=o.data,slots:=o.slots}).Ns h.objs.size (fun c=>none):=⟨_,#[],_,PU,rfl,fun e he=>absurd he (by simp),fun c=>rfl⟩;show wpAny _ _ (storeInDict h.objs.size (.str name tk) name v) _ _ _;unfold storeInDict newKeyGuard;refine wpAny_bind (wpAny_pure (wpAny_bind (wpAny_nsSet1 (Heap.Ns1.of_empty iA) fun h' S4 hs=>?_)));obtain⟨oD,XI,XJ,Vh,Vi,Vj⟩:=S4.count (Within.cons name v Within.nil);refine wpAny_bind (wpAny_lookBehind Vh (by rw[Vi];exact pastItsLine_dict (Nat.le_trans Vj (by rw[List.length_cons,List.length_nil,sizeLine_eq];exact Ln.go (nat_lit 0x1910000007f8190980100) [] ae))) ?_)
 wp_walk
 refine hq h' _ ?_ S4 (fun b ob Vk hb=>?_)
 ·refine(hs.2 x S3).trans (Heap.get?_update_self _ Fi ?_);have PV:=(Heap.get?_some_iff.mp hx).2;obtain⟨oc,od,NR,PW⟩:=o;induction NR<;>first|rfl|exact PV
 ·exact(hs.2 b (Nat.ne_of_lt (Heap.lt_size hb))).trans ((Heap.get?_update_ne _ _ _ _ Vk).trans (Heap.get?_push_of_some _ hb))
theorem ug{Q:Unit→Shared→Prop}(hx:h.get? x=some o)(hc:o.cls=.type "function")(fm:o.data=.func fd)(KL:o.dict=none)(hB:typeLookup (.type "function") name=pure none)
  (hq:∀h' xu,h'.get? x=some {cls:=o.cls,dict:=some h.objs.size,data:=o.data,slots:=o.slots}→h'.Ns1 h.objs.size (fun y=>if y=name then some v else none)→(∀b ob,b≠x→h.get? b=some ob→h'.get? b=some ob)→Q () ⟨h',g,d,xu,os⟩):
  wpAny gM A (setAttr (.ref x) name v) Q E ⟨h,g,d,t,os⟩:=by
 have f3:=bh.slot.bind (.ref x);have f4:=bh.slot.lookup
 unfold setAttr callSpecial? specialOf
 repeat (any_goals (first|assumption|(with_reducible refine wpAny_loadPart_at hx ?_;rw[hc])|wp_step))
 refine codeAny_call_builtin bh.slot.plain bh.entry (rI hx hc (l_ hx hc fm KL hB fun h' xu g1 g2 g3=>?_))
 repeat (any_goals (first|assumption|wp_step))
 exact hq h' xu g1 g2 g3
theorem kX{m:Str→Option Value}{dx:Addr}{tk:Tok}{Q:Fin→Shared→Prop}(hx:h.get? x=some o)(hc:o.cls=.type "function")(fm:o.data=.func fd)(xw:o.dict=some dx)(hn:h.Ns dx m)(hm:m name=some v)(hB:typeLookup (.type "function") name=pure none)
  (hq:Q (.done (.ret v)) ⟨h,g,d,t,os⟩):wpAny gM A (Builtin.«object.__getattribute__» ⟨[.ref x,.str name tk],[]⟩) Q E ⟨h,g,d,t,os⟩:=by
 have hT:(⟨h,g,d,t,os⟩:Shared).TypeIs (.ref x) "function":=⟨_,hx,hc⟩;unfold Builtin.«object.__getattribute__»
 repeat (any_goals (first|assumption|rw[hB]|(with_reducible refine wpAny_loadPart_at hx ?_;rw[hc])|wp_step))
 rw[fm];unfold instanceDict;refine wpAny_bind (wpAny_loadPart_at hx ?_);rw[hc,xw];refine wpAny_pure ?_;unfold inDict
 repeat (any_goals (first|(with_reducible refine wpAny_nsGet hn ?_;rw[hm])|assumption|wp_step))
theorem uh{m:Str→Option Value}{dx:Addr}{Q:Value→Shared→Prop}(hx:h.get? x=some o)(hc:o.cls=.type "function")(fm:o.data=.func fd)(xw:o.dict=some dx)(hn:h.Ns dx m)(hm:m name=some v)(hB:typeLookup (.type "function") name=pure none)
  (hh:handedOut v=pure v)(hq:∀k,Q v ⟨h,g,d,k,os⟩):wpAny gM A (getAttr (.ref x) name) Q E ⟨h,g,d,t,os⟩:=by
 have hT:(⟨h,g,d,t+1,os⟩:Shared).TypeIs (.ref x) "function":=⟨_,hx,hc⟩;have f1:=cy.lookup
 unfold getAttr getAttrBy;refine wpAny_bind (wpAny_mkText ?_);refine wpAny_holding (wpAny_bind (wpAny_typeOf hT ?_));rw[f1];refine wpAny_bind (wpAny_pure ?_);have ho:onTheHeap (.type "function")=false:=rfl
 rw[ho];dsimp only
 skip
 unfold getAttrByItsOwn hookBefore callGetattribute boundAndCalled;rw[ho];refine wpAny_bind ?_
 skip
 refine wpAny_pure ?_;have f3:=cy.bind (.ref x)
 refine wpAny_bind (wpAny_attempt (wpAny_holding ?_));rw[Bool.false_and,if_neg (by decide),f3];refine wpAny_bind (wpAny_pure (wpAny_call ?_));refine codeAny_call_builtin cy.plain F.entry_object_getattribute (rJ hx hc (kX hx hc fm xw hn hm hB ?_));show wpAny _ _ (handedOut v) _ _ _;rw[hh];exact wpAny_pure (hq _)
theorem pT{m:Str→Option Value}{dx:Addr}{pl:Sem Bool}{Q:Value×List Value→Shared→Prop}(hx:h.get? x=some o)(hc:o.cls=.type "function")(fm:o.data=.func fd)(xw:o.dict=some dx)(hn:h.Ns dx m)(hm:m name=some v)(hB:typeLookup (.type "function") name=pure none)
  (hh:handedOut v=pure v)(hq:∀k,Q (v,[]) ⟨h,g,d,k,os⟩):wpAny gM A (getMethod (.ref x) name pl) Q E ⟨h,g,d,t,os⟩:=by
 have hT:(⟨h,g,d,t,os⟩:Shared).TypeIs (.ref x) "function":=⟨_,hx,hc⟩;have PY:=F.canon_object_ga
 have f1:=cy.lookup;have f2:=jP
 unfold getMethod;refine wpAny_bind (wpAny_specialOf hT f1 ?_);dsimp only;rw[if_neg (by rw[PY];simp)];refine wpAny_bind (wpAny_specialOf hT f2 ?_)
 skip
 refine wpAny_bind (wpAny_specialOf hT hB ?_);exact wpAny_bind (uh hx hc fm xw hn hm hB hh fun k=>wpAny_pure (hq k))
end
end Mine
end
noncomputable section
open PySem PySem.W PySem.Builtin PySem.Builtin.Str PyProof.Rows
namespace Mine
section
variable{A:Around}{E:Value→Shared→Prop}{W W':Wd}{H H':AH}{s s':Shared}
theorem d_{k j:Nat}{o o':aE}(h:(H.set k o)[j]?=some o'):(j=k∧o'=o∧k<H.length)∨(j≠k∧H[j]?=some o'):=by
 by_cases hj:j=k
 ·subst hj;obtain bT:j<H.length:=by obtain this:=(c_ h).1;simpa using this
  rw[List.getElem?_set_self bT] at h;exact .inl ⟨rfl,(Option.some.inj h).symm,bT⟩
 ·rw[List.getElem?_set_ne (Ne.symm hj)] at h;exact .inr ⟨hj,h⟩
theorem ai.upd(S:aG W H s)(X:Addr→Prop){k:Nat}{a:Addr}{o':aE}(hl:nU H k)(ha:W.φ k=some a)(hφ:W'.φ=W.φ)(hZ:W'.Z=W.Z)(GG:∀b j,W.own b=some j→W'.own b=some j)
  (CI:∀b j,W'.own b=some j→W.own b=some j∨(j=k∧s.heap.objs.size≤b∧b<s'.heap.objs.size))(hsz:s.heap.objs.size≤s'.heap.objs.size)
  (hk:∀b ob,s.heap.get? b=some ob→W.own b≠some k→s'.heap.get? b=some ob)(hr:kU W' s'.heap a k o')(qJ:s'.os=s.os)(hg:s'.gens=s.gens):
  ai W H s X W' (H.set k o') s':=by
 have L:W.Le W':=⟨fun d d h=>by rw[hZ];exact h,fun d d h=>by rw[hφ];exact h⟩;have zk:=fun b ob h=>hk b ob (S.z b ob h) fun e=>by rw[S.qX b k e hl] at h;exact nE h
 refine⟨⟨fun b ob h=>?_,fun j b h=>?_,fun b j h=>?_,fun b j h KO=>?_,fun j o h=>?_,fun c P q hm=>?_,by rw[hZ];exact S.base⟩,L,GG,fun b j h=>?_,fun b ob h=>by rw[hZ] at h;exact .inl h,fun b ob h hn hd hx=>?_,fun b ps ht h=>?_,fun j h=>?_,by rw[List.length_set];exact Nat.le_refl _,hsz,qJ,hg⟩
 ·rw[hZ] at h;exact zk b ob h
 ·rw[hφ] at h;exact GG _ _ (S.i5 j b h)
 ·rw[List.length_set];rcases CI b j h with h|⟨rfl,_,h⟩
  ·exact⟨(S.b_ b j h).1,Nat.lt_of_lt_of_le (S.b_ b j h).2 hsz⟩
  ·exact⟨(S.b_ a j (S.i5 j a ha)).1,h⟩
 ·rw[hZ];rcases CI b j h with h|⟨rfl,h1,h2⟩
  ·refine S.qX b j h ?_;by_cases hj:j=k
   ·subst hj;exact hl
   ·obtain⟨o,ho,hn⟩:=KO;rw[List.getElem?_set_ne (Ne.symm hj)] at ho;exact⟨o,ho,hn⟩
  ·exact S.gJ h1
 ·rcases d_ h with ⟨rfl,rfl,_⟩|⟨cI,hh⟩
  ·exact⟨a,by rw[hφ];exact ha,hr⟩
  ·obtain⟨b,h1,h2⟩:=S.obj j _ hh;refine⟨b,by rw[hφ];exact h1,h2.keeps L (fun b hb=>GG _ _ hb) (fun ob e=>hk _ _ e ?_) fun b' ob hb e=>hk _ _ e ?_⟩
   ·rw[S.i5 j b h1];intro e;exact cI (Option.some.inj e)
   ·rw[hb];intro e;exact cI (Option.some.inj e)
 ·obtain⟨h1,⟨oc,h0⟩,h2,lY,ps,h3,h4,h5⟩:=S.tab c P q hm;refine⟨?_,⟨oc,by rw[hZ];exact h0⟩,by rw[hZ];exact h2,?_,ps,hk _ _ h3 (by rw[lY];intro e;exact nE e),h4,fun pos cv hc=>by rw[hZ];exact h5 pos cv hc⟩
  ·obtain⟨o,vs,file,tf,flags,tg,GH,text,tt,e,r⟩:=h1;have :=S.z _ _ h0;rw[e] at this;obtain rfl:=Option.some.inj this;exact⟨_,vs,file,tf,flags,tg,GH,text,tt,zk _ _ h0,r⟩
  ·induction ho:W'.own P with
   |none=>rfl|some j=>
    rcases CI P j ho with h|⟨_,h,_⟩
    ·rw[lY] at h;exact nE h
    ·exact absurd (Heap.lt_size h3) (Nat.not_lt_of_le h)
 ·rcases CI b j h with h|⟨hj,h,_⟩
  ·exact .inl h
  ·refine .inr ⟨h,fun e=>?_⟩;obtain⟨o,ho,hn⟩:=hl;rw[hj,ho] at e;obtain rfl:=Option.some.inj e;exact hn
 ·exact hk b ob h fun e=>hd k e hl
 ·obtain⟨c,q,hm⟩:=ht;obtain⟨_,_,_,lY,XK,h3,_⟩:=S.tab c b q hm;exact⟨#[],by exact hk _ _ h (by rw[lY];intro e;exact nE e)⟩
 ·by_cases hj:j=k
  ·subst hj;obtain⟨o,ho,hn⟩:=hl;rw[h] at ho;obtain rfl:=Option.some.inj ho;exact hn.elim
  ·rw[List.getElem?_set_ne (Ne.symm hj)];exact h
theorem ai.GI(S:aG W H s)(X:Addr→Prop){k:Nat}{a:Addr}{o':aE}(hl:nU H k)(ha:W.φ k=some a)(hsz:s.heap.objs.size≤s'.heap.objs.size)
  (hk:∀b ob,s.heap.get? b=some ob→W.own b≠some k→s'.heap.get? b=some ob)(hr:kU W s'.heap a k o')(qJ:s'.os=s.os)(hg:s'.gens=s.gens):ai W H s X W (H.set k o') s':=
 .upd S X hl ha rfl rfl (fun c c h=>h) (fun c c h=>.inl h) hsz hk hr qJ hg
theorem kC(l:List (Str×V))(k x:Str)(v:V):(aP l k v).lookup x=if x=k then some v else l.lookup x:=(cS ..).trans (ite_congr (propext beq_iff_eq) (fun a=>rfl) fun a=>rfl)
theorem FldR.Cz{m:Str→Option Value}{fs:List (Str×V)}(x:FldR W m fs){a:Str}{v:V}{y:Value}(r:Rel W v y):FldR W (fun z=>if z=a then some y else m z) (aP fs a v):=fun z=>by
 rw[kC];by_cases h:z=a
 ·subst h;simp;exact r
 ·simp only[h,if_false];exact x z
theorem handed{v:V}{y:Value}(h:pI v=true)(r:Rel W v y):handedOut y=pure y:=by
 induction v using V.casesOn<;>skip<;>first
  |(subst r;rfl)|(obtain⟨_,rfl⟩:=r;rfl)|(obtain⟨_,_,rfl⟩:=r;rfl)|(rfl)|(rfl)|(obtain⟨_,_,_,rfl,_⟩:=r;rfl)|(obtain⟨_,_,_,_,rfl,_⟩:=r;rfl)|(obtain⟨rfl,_⟩:=r;rfl)|(exact bE h)
theorem k9{k c:Nat}{fs:List (Str×V)}{a:Addr}(S:aG W H s)(hk:H[k]?=some (.inst c fs))(ha:W.φ k=some a){d:Gb}(hd:G.C.fW.lookup c=some d):
  ∃m o dx,s.heap.Inst a (G.ca c) m∧FldR W m fs∧s.heap.get? a=some o∧o.cls=.ref (G.ca c)∧o.dict=some dx∧(∀c,o.data≠.cls c)∧dx≠a∧W.own dx=some k∧fs.length<ak∧a≠G.ca c∧s.heap.Ns1 dx m:=by
 obtain⟨o,dx,h1,h2,h3,h4,h6,h7,h8,m,h9,J7⟩:=S.at hk ha;refine⟨m,o,dx,⟨o,h1,h2,h4,.inr ⟨dx,h3,h6,h9⟩⟩,J7,h1,h2,h3,h4,h6,h7,h8,?_,h9⟩;intro e;obtain⟨nm,q,N,bs,sn,sub,col,dd,k0,k1,k2,k3,k5,mN,hC,_⟩:=S.cj.cls c d hd;rw[e,hC] at h1;obtain rfl:=Option.some.inj h1;cases h2
theorem mh{C:Cx}{c:Nat}{a:Str}(h:oz C c a=true):∃d,C.fW.lookup c=some d∧a∈d.Ce:=by
 unfold oz at h;induction hd:C.fW.lookup c with |none=>simp only[hd] at h;exact bE h|some d=>rw[hd] at h;exact⟨d,rfl,by simpa using h⟩
set_option tactic.hygienic true in
theorem mj{o v:V}{a:Str}{x y:Value}{u:Unit}(h:setAttrA G.C o a v H=some (u,H'))(S:aG W H s)(hx:Rel W o x)(hy:Rel W v y){Q:Unit→Shared→Prop}
  (kq:∀W' s',ai W H s aH W' H' s'→Q () s'):wpAny gM A (setAttr x a y) Q E s:=by
 unfold setAttrA at h;split at h
 ·rename_i k;refine bJ h fun ob H₁ h1 h=>?_
  refine(bQ h1).elim fun ho z=>z.elim fun hn KP=>?_;subst KP
  obtain⟨ad,rfl,ha⟩:=hx;induction ob with
  |inst c fs=>
   dsimp only at h;split at h
   ·rename_i hc
    simp only[Bool.and_eq_true] at hc;obtain⟨d,hd,GJ⟩:=mh hc.1;obtain this:=b8 h;subst this;obtain⟨m,ob,dx,I,F,g1,g2,g3,g4,g6,g7,g8,g9,KQ⟩:=k9 S ho ha hd;obtain⟨nm,q,N,bs,sn,sub,col,dd,k0,k1,k2,k3,k5,mN,hC,hN,_,_,ud,_,B6⟩:=S.cj.cls c d hd;obtain⟨PZ,hB⟩:=B6 a GJ;obtain hw:Within m (fs.map (·.1)):=fun z hz=>by
     obtain this:=F z;induction hl:fs.lookup z with |none=>rw[hl] at this;exact absurd this hz|some w=>exact yQ ⟨_,mem_of_lookup hl,rfl⟩
    refine bD ?_;obtain⟨hp,gg,dr,tt,os⟩:=s;refine store_attr PySem.F.store_object hC hN ud PZ hB g9 I (fun h' xu I' hk vW vX=>?_) hw (by rw[List.length_map];exact br g8);obtain⟨o₁,q1,q2,q3,q4,q5⟩:=vW ob g1;have P0:=q5 dx g3
    have xw:h'.Ns1 dx (fun z=>if z=a then some y else m z):=by
     obtain⟨o₂,r1,r2,r3,r4⟩:=I';have Vl:=q1
     rw[Vl] at r1;obtain rfl:=Option.some.inj r1;rcases r4 with ⟨r5,_⟩|⟨Vm,r5,_,r6⟩
     ·rw[P0] at r5;cases r5
     ·rw[P0] at r5;obtain rfl:=Option.some.inj r5;exact r6
    obtain P1:∀b NS,hp.get? b=some NS→W.own b≠some k→h'.get? b=some NS:=fun b NS e cI=>hk b NS (by rintro rfl;exact cI (S.i5 k b ha)) (fun o₀ Vm e1 e2=>by
     have S5:=e1;have PC:=g1
     rw[PC] at S5;obtain rfl:=Option.some.inj S5;rw[g3] at e2;obtain rfl:=Option.some.inj e2;rintro rfl;exact cI g7) e
    refine kq W ⟨h',gg,dr,xu,os⟩ (ai.GI S aH hn ha vX P1 ⟨o₁,dx,q1,by rw[q2,g2],P0,by rw[q3];exact g4,g6,g7,?_,_,xw,F.Cz hy⟩ rfl rfl);obtain this:=cG fs a v;obtain this:=ck hc.2;omega
   ·exact nE h
  |oq c fs=>
   dsimp only at h;split at h
   ·split at h
    ·rename_i hc;simp only[Bool.and_eq_true] at hc;obtain this:=b8 h;subst this;obtain⟨ob,fd,g1,g2,g3,g4⟩:=S.at ho ha;obtain NT:fs=[]:=by simpa using hc.2
     obtain Vn:a=Str.ofString "read":=by simpa using hc.1
     subst NT Vn;obtain KL:ob.dict=none:=by
      rcases g4 with g4|⟨d,e1,_⟩
      ·exact g4.2
      ·exact absurd rfl e1
     refine bD ?_;obtain⟨hp,gg,dr,tt,os⟩:=s;refine ug g1 g2 g3 KL iI fun h' xu q1 q2 q3 hsz=>?_
     obtain cI:=(Nat.ne_of_lt (Heap.lt_size g1)).symm;obtain gC:W.own hp.objs.size=none:=by
      induction e:W.own hp.objs.size with |none=>rfl|some j=>exact absurd (S.b_ _ _ e).2 (Nat.lt_irrefl _)
     obtain bT:hp.objs.size<h'.objs.size:=by obtain⟨od,_,_,e,_⟩:=q2;exact Heap.lt_size e
     let W':Wd:={W with own:=fun b=>if b=hp.objs.size then some k else W.own b};obtain L:W.Le W':=⟨fun f f e=>e,fun f f e=>e⟩;refine kq W' ⟨h',gg,dr,xu,os⟩ (ai.upd S aH hn ha rfl rfl (fun b j e=>?_) (fun b j e=>?_) hsz (fun b ob e Vo=>q3 b ob (fun hb=>Vo (by rw[hb];exact S.i5 k ad ha)) e) ⟨_,fd,q1,g2,g3,.inr ⟨_,by simp,rfl,cI,?_,_,q2,fun z=>?_⟩⟩ rfl rfl)
     ·show(if b=hp.objs.size then some k else W.own b)=some j;rw[if_neg]
      ·exact e
      ·rintro rfl;rw[gC] at e;exact nE e
     ·have e':(if b=hp.objs.size then some k else W.own b)=some j:=e;split at e'
      ·rename_i hb;obtain rfl:=Option.some.inj e';subst hb;exact .inr ⟨rfl,Nat.le_refl _,bT⟩
      ·exact .inl e'
     ·show(if hp.objs.size=hp.objs.size then some k else _)=some k;rw[if_pos rfl]
     ·rw[List.lookup_cons];by_cases hz:z=Str.ofString "read"
      ·subst hz;exact⟨_,rfl,hy.mono L⟩
      ·have :(z==Str.ofString "read")=false:=by simpa using hz
       rw[this];simp only[List.lookup_nil,if_neg hz]
    ·exact nE h
   ·exact nE h
  |_=>exact nE h
 ·exact nE h
end
section
variable{n:Nat}{A:Around}{E:Value→Shared→Prop}{W:Wd}{H H':AH}{s:Shared}{sc:Scope}{env:ah}{e':Env}
theorem fJ{o:Expr}{attr:Str}{env:Env}{whole:Sem Value}(h:dh o=false):attributeBase o attr env whole=whole:=by induction o using Expr.casesOn<;>first|rfl|exact nomatch h
set_option tactic.hygienic true in
theorem mq{o v:V}{a:Str}{x:Value}(h:getAttrA G.C o a H=some (v,H'))(S:aG W H s)(hx:Rel W o x):
  wpAny gM A (getAttr x a true) (fun z=>aU W H s aH H' fun W' b=>Rel W' v z) E s:=by
 unfold getAttrA at h;split at h
 ·rename_i k;refine bJ h fun ob H₁ h1 h=>?_
  refine(bQ h1).elim fun ho z=>z.elim fun hn z1=>?_;subst z1
  obtain⟨ad,rfl,ha⟩:=hx;cases ob with
  |inst c fs=>
   dsimp only at h;cases hl:fs.lookup a with
   |some u=>
    rw[hl] at h;dsimp only at h;split at h
    ·rename_i hc;simp only[Bool.and_eq_true] at hc;refine gG h ?_;obtain⟨d,hd,GJ⟩:=mh hc.1;obtain⟨m,ob,dx,I,F,g1,g2,g3,g4,g6,g7,g8,g9,KQ⟩:=k9 S ho ha hd;obtain⟨nm,q,N,bs,sn,sub,col,dd,k0,k1,k2,k3,k5,mN,hC,hN,KR,_,_,_,B6⟩:=S.cj.cls c d hd;obtain⟨PZ,hB⟩:=B6 a GJ;obtain hf:=F a;rw[hl] at hf;obtain⟨y,hy,ry⟩:=hf;exact load_attr hC hN KR PZ hB I hy (handed hc.2 ry) (cu S _ ry)
    ·exact nE h
   |none=>
    rw[hl] at h;cases hd:G.C.fW.lookup c with
    |none=>rw[hd] at h;exact nE h|some d=>
     rw[hd] at h;simp only[Option.bind_some] at h;cases hm:d.meths.lookup a with |none=>rw[hm] at h;exact nE h|some f=>rw[hm] at h;refine gG h ?_;obtain⟨m,ob,dx,I,F,g1,g2,g3,g4,g6,g7,g8,g9,KQ⟩:=k9 S ho ha hd;obtain⟨nm,q,N,bs,sn,sub,col,dd,k0,k1,k2,k3,k5,mN,hC,hN,KR,_,_,KS,B6⟩:=S.cj.cls c d hd;obtain⟨od,es,ep,q1,q2,q3,q4,q5⟩:=KQ;obtain hf:=F a;rw[hl] at hf;refine S.cj.bound c d a f hd hm rfl g1 g2 g3 g4 q1 q2 q3 (by rw[q5];exact hf) ?_;obtain PP:=ai.push S aH {cls:=.type "method",data:=.fields #[.ref (G.fa f),.ref ad]} rfl (s.toks+1);refine⟨_,PP,?_⟩;exact⟨_,ad,rfl,PP.le.φ _ _ ha,Wd.aZ ..,(KS a f hm).h2⟩
  |_=>exact nE h
 ·exact nE h
def GK(fv:V)(f':Value)(h:Heap):Prop:=zp h∧∃W,Rel W fv f'∧∀a o,W.Z a=some o→h.get? a=some o
noncomputable def callable(v:V):Bool:=Nat.ble 9 v.ctorIdx&&Nat.ble v.ctorIdx 14
theorem pU{fv:V}{f':Value}(hc:callable fv=true)(h:Heap)(X:GK fv f' h)(ku:∀c,fv=.cls c→(G.C.fW.lookup c).isSome=true):
  ∃k,(k=Keeper.frame∨k=Keeper.machine∨k=Keeper.boundFrame)∧Looks gM h (keeperOf f') k:=by
 obtain⟨B,W,r,z⟩:=X;induction fv using V.casesOn with
 |fn f=>obtain⟨rfl,hs⟩:=r;obtain⟨d,hd⟩:=lF hs;obtain⟨_,o,fd,ho,_,fm,_⟩:=B.fns f d hd;obtain⟨oc,od,NR,PW⟩:=o;subst fm;exact⟨.frame,.inl rfl,(Looks.ld ho).andThen .now⟩
 |lG ps body sc cQ=>obtain⟨a,o,fd,rfl,hz,_,fm,_⟩:=r;obtain⟨oc,od,NR,PW⟩:=o;subst fm;exact⟨.frame,.inl rfl,(Looks.ld (z _ _ hz)).andThen .now⟩
 |bm k f=>obtain⟨a,b,rfl,_,hz,hs⟩:=r;obtain⟨d,hd⟩:=lF hs;obtain⟨_,o,fd,ho,_,fm,_⟩:=B.fns f d hd;obtain⟨oc,od,NR,PW⟩:=o;subst fm;exact⟨.boundFrame,.inr (.inr rfl),(Looks.ld (z _ _ hz)).andThen ((Looks.ld ho).andThen .now)⟩
 |cls c=>
  subst r;obtain⟨d,hd⟩:=lF (ku c rfl);obtain⟨nm,q,N,bs,sn,sub,col,dd,k0,k1,k2,k3,k5,mN,hC,_⟩:=B.cls c d hd;obtain L:Looks gM h (specialOf (.ref (G.ca c)) "__call__") (some (.builtin "type.__call__")):=by intro A Q E s k q;exact wpAny_specialOf ⟨_,k _ _ hC,rfl⟩ PySem.F.lookup_type_call q
  exact⟨.machine,.inr (.inl rfl),(Looks.ld hC).andThen (L.andThen .now)⟩
 |blt i=>subst r;exact⟨.machine,.inr (.inl rfl),.now⟩|typ i=>subst r;exact⟨.machine,.inr (.inl rfl),.now⟩|_=>exact nomatch (show false=true from hc)
theorem jQ{o:Expr}{m:Str}{ap p:Pos}{as:List Expr}{Q:Value→Shared→Prop}(hs:dh o=false)(IZ:as.any isStarred=false)(hl:(ap.endLine==p.line)=true)(hn:as.length<29)
  (h:wpAny gM A (eval o e') (fun ov s₁=>wpAny gM A (getMethod ov m (do return (←importBound o e').getD true)) (fun r s₂=>wpAny gM A (callWith p r.1 r.2 (backTo p (starEach as e')) []) Q E s₂) E s₁) E s):
  wpAny gM A (eval (.Call (.Attribute o m ap) as [] p) e') Q E s:=by
 simp only[arm_eval_Call,fJ hs];obtain vY:∀{l:List Expr},l.any isStarred=false→(backTo p (starEach l e')).all (fun x=>!x.1)=true:=by
  intro l;induction l with
  |nil=>intro _;rfl|cons e r ih=>
   intro hh;simp only[List.any_cons,Bool.or_eq_false_iff] at hh;obtain hs:starEach (e::r) e'=(false,eval e e')::starEach r e':=by induction e using Expr.casesOn<;>first|rfl|(exact nomatch hh)
   rw[hs];refine(ih hh.2).trans ?_;rfl
 obtain P4:methodCallForm (as.length+([]:List Keyword).length) (backTo p (starEach as e')) (backToKw p (keywordEach [] e'))=true:=by
  unfold methodCallForm;rw[vY IZ];have :as.length+([]:List Keyword).length+(if(backToKw p (keywordEach [] e')).isEmpty then 0 else 1)<30:=by show as.length+0+(if true then 0 else 1)<30;lia
  simp only[this,decide_true,Bool.and_true];rfl
 refine wpAny_bind (wpAny_mono h (fun ov s₁ h₁=>wpAny_bind (wpAny_standAt ?_)) fun a a e=>e);unfold methodCall;refine P4▸?_;refine wpAny_bind (wpAny_holding ?_);refine wpAny_mono h₁ (fun r s₂ h₂=>?_) fun a a e=>e
 unfold methodCallPos;refine(if_pos (hl))▸?_;exact wpAny_bind (wpAny_pure h₂)
end
section
variable{A:Around}{E:Value→Shared→Prop}{h:Heap}{g:Array GenState}{d:Drawn}{t:Nat}{os:OsState}
variable{nm q:Str}{C N:Addr}{bs:List Value}{sn:List Str}{sub:List Value}{col:Option Bool}{dd:Option Addr}{k0 k1 k2 k3 k5:Option Value}
noncomputable abbrev cW(h:Heap)(C:Addr):Heap:=(h.push {cls:=.type "dict",data:=.dict #[]}).push {cls:=.ref C,dict:=some h.objs.size,data:=.plain}
theorem xx{mN:Str→Option Value}{rest:List Value}{fI:Addr}{oI:Obj}{Q:Fin→Shared→Prop}
  (hC:h.get? C=some (excClassObj nm q C N bs [.type "object"] true sn sub false col dd k0 k1 k2 k3 k5 "object.__new__"))(hn:h.Ns N mN)(hi:mN "__init__"=some (.ref fI))
  (P5:h.get? fI=some oI)(KU:oI.cls=.type "function")
  (hq:wpAny gM A (call (.ref fI) (.ref (h.objs.size+1)::rest)) (fun r s'=>r=.none∧Q (.done (.ret (.ref (h.objs.size+1)))) s') E ⟨cW h C,g,d,t,os⟩):
  wpAny gM A (Builtin.«type.__call__» ⟨.ref C::rest,[]⟩) Q E ⟨h,g,d,t,os⟩:=by
 obtain F:=PySem.F.objNew;obtain GF:mroOf (.type "object")=pure [.type "object"]:=by kernel_rfl
 obtain Vp:typeLookup (.type "object") "__init__"=pure (some (.builtin "object.__init__")):=by kernel_rfl
 repeat (first|with_reducible refine wpAny_loadPart_at hC ?_|with_reducible refine wpAny_madeBy_exc hC ?_|wp_step)
 refine codeAny_call_builtin_code (Code.quiet_builtin _ F.quiet) (wpAny_check_obj_new F hC ?_);refine codeAny_obj_new F hC hn hi ?_;obtain up:∀{b o},h.get? b=some o→(cW h C).get? b=some o:=fun e=>Heap.get?_push_of_some _ (Heap.get?_push_of_some _ e)
 obtain KV:(cW h C).Ns N mN:=let ⟨o,es,ep,e,r⟩:=hn;⟨o,es,ep,up e,r⟩
 obtain Vq:(Value.ref C::[Value.type "object"]).contains (.ref C)=true:=by simp
 repeat (first|with_reducible refine wpAny_loadPart_at hget ?_|(with_reducible refine wpAny_isSubtype_exc (up hC) ?_;rw[Vq])|wp_step)
 show wpAny _ _ (typeLookup (.ref C) _) _ _ _;refine wpAny_typeLookup_exc (up hC) KV GF Vp ?_;rw[hi];refine wpAny_holding (wpAny_bind ?_);unfold bindSpecial;refine wpAny_bind (wpAny_typeOf ⟨_,up P5,KU⟩ ?_);rw[if_pos (by decide)];refine wpAny_pure (wpAny_bind (wpAny_mono hq (fun r s' hr=>?_) fun a a x=>x));obtain⟨rfl,hQ⟩:=hr
 wp_walk
 exact hQ
theorem xy{mN:Str→Option Value}{rest:List Value}{fI:Addr}{oI:Obj}{Q E:Value→Shared→Prop}
  (hC:h.get? C=some (excClassObj nm q C N bs [.type "object"] true sn sub false col dd k0 k1 k2 k3 k5 "object.__new__"))(hn:h.Ns N mN)(hi:mN "__init__"=some (.ref fI))
  (P5:h.get? fI=some oI)(KU:oI.cls=.type "function")
  (hq:wpAny gM (A.under (.builtin "type.__call__" ⟨.ref C::rest,[]⟩)) (call (.ref fI) (.ref (h.objs.size+1)::rest)) (fun r s'=>r=.none∧Q (.ref (h.objs.size+1)) s') E ⟨cW h C,g,d,t,os⟩):
  codeAny gM A (.call (.ref C) ⟨rest,[]⟩) (wants Q E) ⟨h,g,d,t,os⟩:=by
 obtain f1:=tc_lookup;obtain f2:=tc_bind (.ref C);obtain hT:(⟨h,g,d,t,os⟩:Shared).TypeIs (.ref C) "type":=⟨_,hC,rfl⟩;refine codeAny_of_tree ?_
 repeat (any_goals (first|assumption|with_reducible refine wpAny_loadPart_at hC ?_|wp_step))
 refine⟨rfl,?_⟩;refine codeAny_call_builtin_at (Code.quiet_builtin _ (by decide+kernel)) entry_typeCall (wpAny_check_type_call_sub hC (xx hC hn hi P5 KU ?_));exact hq
end
section
variable{n:Nat}{A:Around}{E:Value→Shared→Prop}{W W':Wd}{H H':AH}{s s':Shared}
set_option tactic.hygienic true in
theorem ai.KW(S:aG W H s)(X:Addr→Prop)(o:aE){a:Addr}(hφ:W'.φ=fun j=>if j=H.length then some a else W.φ j)(hZ:W'.Z=W.Z)(ha:W'.own a=some H.length)
  (GG:∀b j,W.own b=some j→W'.own b=some j)(CI:∀b j,W'.own b=some j→W.own b=some j∨(j=H.length∧s.heap.objs.size≤b∧b<s'.heap.objs.size))(hsz:s.heap.objs.size≤s'.heap.objs.size)
  (hk:∀b ob,s.heap.get? b=some ob→s'.heap.get? b=some ob)(hr:kU W' s'.heap a H.length o)(qJ:s'.os=s.os)(hg:s'.gens=s.gens):
  ai W H s X W' (H++[o]) s':=by
 have L:W.Le W':=⟨fun d d h=>by rw[hZ];exact h,fun j b h=>by
  rw[hφ];show(if j=H.length then some a else W.φ j)=some b;have :=(S.b_ b j (S.i5 j b h)).1
  refine(if_neg (aA (nat_lit 0x909611031101102) ae this)).trans ?_;exact h⟩
 refine⟨⟨?_,?_,?_,?_,?_,?_,by exact hZ▸(S.base)⟩,L,GG,?_,fun d d h=>by rw[hZ] at h;exact .inl h,fun b o e d d d=>hk _ _ e,fun b ps d e=>⟨#[],by exact hk _ _ e⟩,?_,by simp,hsz,qJ,hg⟩
 ·intro b ob h;rw[hZ] at h;exact hk _ _ (S.z b ob h)
 ·intro k b h;rw[hφ] at h;have h':(if k=H.length then some a else W.φ k)=some b:=h
  split at h'
  ·rename_i e;obtain rfl:=Option.some.inj h';rw[e];exact ha
  ·exact GG _ _ (S.i5 k b h')
 ·intro b k h;rcases CI b k h with h'|⟨rfl,_,h'⟩
  ·have :=S.b_ b k h';exact⟨by simp;exact aA (nat_lit 441454204817665) ae this.1,Nat.lt_of_lt_of_le this.2 hsz⟩
  ·exact⟨by simp,h'⟩
 ·intro b k h hl;rw[hZ];rcases CI b k h with h'|⟨rfl,h',_⟩
  ·refine S.qX b k h' ?_;obtain⟨o',Kq,hn⟩:=hl;rw[List.getElem?_append_left (S.b_ b k h').1] at Kq;exact⟨o',Kq,hn⟩
  ·exact S.gJ h'
 ·intro k o' h;by_cases NU:k<H.length
  ·rw[List.getElem?_append_left NU] at h;obtain⟨b,h1,h2⟩:=S.obj k o' h;exact⟨b,L.φ _ _ h1,h2.keeps L (fun b hb=>GG _ _ hb) (fun o e=>hk _ _ e) fun b o d e=>hk _ _ e⟩
  ·obtain gz:k=H.length:=by
    obtain this:=(c_ h).1;simp at this;exact aA (nat_lit 0x10251054191801112) ae this NU
   subst gz;rw[List.getElem?_append_right (Nat.le_refl _),Nat.sub_self] at h;obtain rfl:=Option.some.inj h;exact⟨a,by rw[hφ];simp,hr⟩
 ·intro c P q hm;obtain⟨h1,⟨oc,h0⟩,h2,lY,ps,h3,h4,h5⟩:=S.tab c P q hm;refine⟨h1.keeps hk,⟨oc,by rw[hZ];exact h0⟩,by rw[hZ];exact h2,?_,ps,hk _ _ h3,h4,fun pos cv hc=>by rw[hZ];exact h5 pos cv hc⟩;induction ho:W'.own P with
  |none=>rfl|some j=>
   rcases CI P j ho with h|⟨_,h,_⟩
   ·rw[lY] at h;exact nE h
   ·exact absurd (Heap.lt_size h3) (Nat.not_lt_of_le h)
 ·intro b k h;rcases CI b k h with h'|⟨hj,h',_⟩
  ·exact .inl h'
  ·exact .inr ⟨h',by rw[hj,List.getElem?_eq_none (Nat.le_refl _)];intro e;cases e⟩
 ·intro k h;obtain this:=(c_ h).1;rw[List.getElem?_append_left this];exact h
theorem bA.create{A:Around}{n:Nat}(h:bA A (n+1))(C:Addr)(rest:List Value):bA (A.under (.builtin "type.__call__" ⟨.ref C::rest,[]⟩)) n:=by
 refine⟨h.handled,?_,?_⟩
 ·obtain hw:(Code.builtin "type.__call__" ⟨.ref C::rest,[]⟩).weight=1:=by
   rfl
  have :=h.depth;refine(?_:A.depth+_+n<recursionLimit);refine hw▸?_;exact aQ (nat_lit 0x21190881121918081101) ae this
 ·obtain hu:(Code.builtin "type.__call__" ⟨.ref C::rest,[]⟩).cUnits=1:=by
   rfl
  obtain this:=h.units;refine(?_:A.units+_+12* n<cLine);refine hu▸?_;exact aQ (nat_lit 0x21ca190881121918ca081101) ae this
end
section
variable{n:Nat}{A:Around}{E:Value→Shared→Prop}{W W':Wd}{H H':AH}{s s':Shared}{sc:Scope}{env:ah}{e':Env}
theorem ai.Fj(S:aG W H s){X:Addr→Prop}{b:Addr}(hX:X b)(hs:Heap.SameBut b s.heap s'.heap)(ho:W.own b=none)(hz:W.Z b=none)(ht:¬G.eV b)
  (hφ:W'.φ=W.φ)(hO:W'.own=W.own)(hZ:∀a o,W.Z a=some o→W'.Z a=some o)(Fo:∀a o,W'.Z a=some o→W.Z a=some o∨(a=b∧s'.heap.get? b=some o))(qJ:s'.os=s.os)(hg:s'.gens=s.gens):
  ai W H s X W' H s':=by
 have L:W.Le W':=⟨hZ,fun d d h=>by rw[hφ];exact h⟩;have kp:=fun a h=>hs.2 a h
 have zb:∀a o,W.Z a=some o→a≠b:=fun a o h e=>by subst e;rw[hz] at h;exact nE h
 refine⟨⟨fun a o h=>?_,fun k a h=>by rw[hφ] at h;rw[hO];exact S.i5 k a h,fun a k h=>?_,fun a k h hl=>?_,fun k o h=>?_,fun c P q hm=>?_,S.base.mono hZ⟩,L,fun a k h=>by rw[hO];exact h,fun a k h=>.inl (by rw[hO] at h;exact h),fun a o h=>?_,fun a o h hn hd hx=>?_,fun a ps Vr h=>⟨#[],?_⟩,fun k h=>h,Nat.le_refl _,by rw[hs.1];exact Nat.le_refl _,qJ,hg⟩
 ·rcases Fo a o h with h|⟨rfl,h⟩
  ·rw[kp a (zb a o h)];exact S.z a o h
  ·exact h
 ·rw[hO] at h;exact⟨(S.b_ a k h).1,by rw[hs.1];exact(S.b_ a k h).2⟩
 ·rw[hO] at h;induction e:W'.Z a with
  |none=>rfl|some o=>
   rcases Fo a o e with h1|⟨rfl,h1⟩
   ·rw[S.qX a k h hl] at h1;exact nE h1
   ·rw[ho] at h;exact nE h
 ·obtain⟨a,h1,h2⟩:=S.obj k o h;have cI:∀c,W.own c=some k→c≠b:=fun c hc e=>by subst e;rw[ho] at hc;exact nE hc
  exact⟨a,by rw[hφ];exact h1,h2.keeps L (fun c hc=>by rw[hO];exact hc) (fun o e=>by rw[kp a (cI a (S.i5 k a h1))];exact e) fun c o hc e=>by rw[kp c (cI c hc)];exact e⟩
 ·obtain⟨h1,⟨oc,h0⟩,h2,lY,ps,h3,h4,h5⟩:=S.tab c P q hm;obtain hP:P≠b:=fun e=>ht ⟨c,q,e▸hm⟩
  refine⟨?_,⟨oc,hZ _ _ h0⟩,?_,by rw[hO];exact lY,ps,by rw[kp P hP];exact h3,h4,fun pos cv hc=>(h5 pos cv hc).mono hZ⟩
  ·obtain⟨o,vs,file,tf,flags,tg,GH,text,tt,e,r⟩:=h1;exact⟨o,vs,file,tf,flags,tg,GH,text,tt,by rw[kp c (zb c oc h0)];exact e,r⟩
  ·induction e:W'.Z P with
   |none=>rfl|some o=>
    rcases Fo P o e with h1|⟨h1,_⟩
    ·rw[h2] at h1;exact nE h1
    ·exact absurd h1 hP
 ·rcases Fo a o h with h|⟨rfl,_⟩
  ·exact .inl h
  ·exact .inr (.inr (.inr hX))
 ·rw[kp a (fun e=>hx (e▸hX))];exact h
 ·rw[Array.append_empty,kp a (fun e=>ht (e▸Vr))];exact h
theorem bM(l:ah)(k x:Str)(v:V):a_ (aP l k v) x=if x=k then some v else a_ l x:=kC l k x v
theorem ao.gQ(N:ao sc env e' W s){c:Addr}{o:Obj}{u:Option Value}(h:s.heap.get? c=some o)(hd:o.data=.cell u):e'.locals≠c:=by rintro rfl;obtain⟨o',es,ep,m,h1,h2,h3,_⟩:=N.locals;rw[h] at h1;obtain rfl:=Option.some.inj h1;rw[hd] at h3;cases h3
theorem eX{x:Str}{v:V}{y:Value}(S:aG W H s)(N:ao sc env e' W s)(hk:kindOf sc x=some .local)(r:Rel W v y):
  wpAny gM A (storeName e' x y) (fun a=>aU W H s (bY sc e') H fun W' s'=>ao sc (aP env x v) e' W' s') E s:=by
 refine N.locals.elim fun o P6=>?_;refine P6.elim fun es P7=>?_;refine P7.elim fun ep P8=>?_;refine P8.elim fun m zG=>?_;obtain h2:=zG.2.1;obtain h4:=zG.2.2.2.1;obtain h5:=zG.2.2.2.2.1;obtain h6:=zG.2.2.2.2.2.1;obtain h7:=zG.2.2.2.2.2.2
 obtain gz:=(N.kinds x _ hk (by decide)).resolve_right (fun q=>nomatch q.1);refine wpAny_storeName_local gz h4 (fun h' hn hs=>?_) (by refine N.kind▸?_;rfl);obtain PP:ai W H s (bY sc e') W H {s with heap:=h',toks:=s.toks+1}:=ai.Fj S (.inl rfl) hs h5 h6 h2 rfl rfl (fun a a h=>h) (fun a a h=>.inl h) rfl rfl;refine⟨W,PP,N.kind,N.globals,N.builtins,N.code,N.kinds,?_,?_,?_,N.inj⟩
 ·obtain⟨o',Gm,Pk,q1,q2,q3⟩:=id hn;refine⟨o',Gm,Pk,_,q1,h2,q2,hn,h5,h6,fun z w hz hw=>?_⟩;rw[bM] at hw;by_cases vZ:z=x
  ·subst vZ;simp only[if_true,Option.some.injEq] at hw;subst hw;exact⟨y,by simp,r⟩
  ·rw[if_neg vZ] at hw;obtain⟨q,hq,rq⟩:=h7 z w hz hw;exact⟨q,by rw[if_neg vZ];exact hq,rq⟩
 ·intro z hz;refine(N.cells z hz).elim fun c P9=>?_;refine P9.elim fun oc P_=>?_;refine P_.elim fun u xA=>?_;obtain g1:=xA.1;obtain g2:=xA.2.1;obtain g3:=xA.2.2.1;obtain g4:=xA.2.2.2.1;obtain g5:=xA.2.2.2.2.1;obtain g6:=xA.2.2.2.2.2
  obtain cI:z≠x:=by rintro rfl;rw[hk] at hz;exact nomatch hz
  rw[bM,if_neg cI];exact⟨c,oc,u,g1,(hs.2 c (N.gQ g2 g4).symm).trans g2,g3,g4,g5,g6⟩
 ·intro z w hz hw;obtain cI:z≠x:=by rintro rfl;rw[hk] at hz;exact nomatch hz
  rw[bM,if_neg cI] at hw;refine(N.frees z w hz hw).elim fun c Qa=>?_;refine Qa.elim fun oc Qc=>?_;refine Qc.elim fun q xB=>?_;obtain g1:=xB.1;obtain g2:=xB.2.1;obtain g4:=xB.2.2.1;obtain g5:=xB.2.2.2.1;obtain g8:=xB.2.2.2.2.1;obtain g6:=xB.2.2.2.2.2
  exact⟨c,oc,q,g1,(hs.2 c (N.gQ g2 g4).symm).trans g2,g4,g5,g8,g6⟩
set_option tactic.hygienic true in
theorem um{x:Str}{v:V}{y:Value}(S:aG W H s)(N:ao sc env e' W s)(hk:kindOf sc x=some .cell)(hw:G.C.wo x=true→a_ env x=none)(r:Rel W v y):
  wpAny gM A (storeName e' x y) (fun b=>aU W H s (bY sc e') H fun W' s'=>ao sc (aP env x v) e' W' s') E s:=by
 obtain⟨c,o,u,h1,h2,h3,h4,h5,h6⟩:=N.cells x hk;have gz:=(N.kinds x _ hk (by decide)).resolve_right (fun q=>nomatch q.1)
 have Qd:W.Z c=none:=by
  induction ha:a_ env x with
  |none=>obtain h6:=ha▸h6;exact h6
  |some w=>
   rw[ha] at h6;by_cases yL:G.C.wo x=true
   ·rw[hw yL] at ha;exact nE ha
   ·have :=h6.2;rw[if_neg yL] at this;exact this
 refine wpAny_storeName_cell N.kind gz h1 ⟨o,h2,h4⟩ (fun h' hc hs=>?_);obtain⟨o',g1,g2⟩:=hc;let W':Wd:=if G.C.wo x=true then W.add c o' else W
 have hφ:W'.φ=W.φ:=by show(if _ then _ else _:Wd).φ=_;split<;>rfl
 have hO:W'.own=W.own:=by show(if _ then _ else _:Wd).own=_;split<;>rfl
 have hZ:∀a oa,W.Z a=some oa→W'.Z a=some oa:=by
  intro a oa h;show(if _ then _ else _:Wd).Z a=_;split
  ·show(if a=c then some o' else W.Z a)=some oa;rw[if_neg]
   ·exact h
   ·rintro rfl;rw[Qd] at h;exact nE h
  ·exact h
 have Fo:∀a oa,W'.Z a=some oa→W.Z a=some oa∨(a=c∧h'.get? c=some oa):=by
  intro a oa h;have h':(if G.C.wo x=true then W.add c o' else W:Wd).Z a=some oa:=h
  split at h'
  ·have h2:(if a=c then some o' else W.Z a)=some oa:=h';split at h2
   ·rename_i e;obtain rfl:=Option.some.inj h2;exact .inr ⟨e,g1⟩
   ·exact .inl h2
  ·exact .inl h'
 have PP:ai W H s (bY sc e') W' H {s with heap:=h'}:=ai.Fj S (.inr ⟨x,hk,h1⟩) hs h5 Qd h3 hφ hO hZ Fo rfl rfl;have cI:∀z d,(kindOf sc z=some .cell∨kindOf sc z=some .free)→z≠x→e'.cells.lookup z=some d→d≠c:=fun z d Vs vZ hd e=>by subst e;exact vZ (N.inj x z d hk Vs h1 hd).symm
 refine⟨W',PP,N.kind,N.globals,N.builtins,N.code,N.kinds,?_,?_,?_,N.inj⟩
 ·refine N.locals.elim fun ob KX=>?_;refine KX.elim fun es KY=>?_;refine KY.elim fun ep KZ=>?_;refine KZ.elim fun m mw=>?_;obtain q1:=mw.1;obtain q2:=mw.2.1;obtain q3:=mw.2.2.1;obtain q4:=mw.2.2.2.1;obtain q5:=mw.2.2.2.2.1;obtain q6:=mw.2.2.2.2.2.1;obtain q7:=mw.2.2.2.2.2.2
  have Qe:=N.gQ h2 h4;refine⟨ob,es,ep,m,(hs.2 _ Qe).trans q1,q2,q3,q4.sameBut hs Qe,by rw[hO];exact q5,?_,fun z w hz hw=>?_⟩
  ·induction e:W'.Z e'.locals with
   |none=>rfl|some oa=>
    rcases Fo _ _ e with h|⟨h,_⟩
    ·rw[q6] at h;exact nE h
    ·exact absurd h Qe
  ·have vZ:z≠x:=by rintro rfl;rw[hk] at hz;exact nomatch hz
   rw[bM,if_neg vZ] at hw;obtain⟨t,ht,rt⟩:=q7 z w hz hw;exact⟨t,ht,rt.mono PP.le⟩
 ·intro z hz;by_cases vZ:z=x
  ·subst vZ;rw[bM,if_pos rfl];refine⟨c,o',_,h1,g1,h3,g2,by rw[hO];exact h5,⟨y,rfl,r.mono PP.le⟩,?_⟩;by_cases yL:G.C.wo z=true
   ·rw[if_pos yL];show(if G.C.wo z=true then W.add c o' else W:Wd).Z c=_;rw[if_pos yL];exact Wd.aZ ..
   ·rw[if_neg yL];show(if G.C.wo z=true then W.add c o' else W:Wd).Z c=_;rw[if_neg yL];exact Qd
  ·refine(N.cells z hz).elim fun d K0=>?_;refine K0.elim fun od K3=>?_;refine K3.elim fun w oQ=>?_;obtain q1:=oQ.1;obtain q2:=oQ.2.1;obtain q3:=oQ.2.2.1;obtain q4:=oQ.2.2.2.1;obtain q5:=oQ.2.2.2.2.1;obtain q6:=oQ.2.2.2.2.2
   have NV:=cI z d (.inl hz) vZ q1;rw[bM,if_neg vZ];have zn:W.Z d=none→W'.Z d=none:=fun hn=>by
    induction e:W'.Z d with
    |none=>rfl|some oa=>
     rcases Fo _ _ e with h|⟨h,_⟩
     ·rw[hn] at h;exact nE h
     ·exact absurd h NV
   refine⟨d,od,w,q1,(hs.2 d NV).trans q2,q3,q4,by rw[hO];exact q5,?_⟩
   revert q6
   induction a_ env z with
   |none=>exact zn|some t=>
    rintro⟨⟨a,e1,e2⟩,e3⟩;refine⟨⟨a,e1,e2.mono PP.le⟩,?_⟩;by_cases yL:G.C.wo z=true
    ·rw[if_pos yL] at e3⊢;exact hZ _ _ e3
    ·rw[if_neg yL] at e3⊢;exact zn e3
 ·intro z w hz S6;have vZ:z≠x:=by rintro rfl;rw[hk] at hz;exact nomatch hz
  rw[bM,if_neg vZ] at S6;refine(N.frees z w hz S6).elim fun d K4=>?_;refine K4.elim fun od K5=>?_;refine K5.elim fun t oR=>?_;obtain q1:=oR.1;obtain q2:=oR.2.1;obtain q4:=oR.2.2.1;obtain q5:=oR.2.2.2.1;obtain q8:=oR.2.2.2.2.1;obtain q6:=oR.2.2.2.2.2
  obtain NV:=cI z d (.inr hz) vZ q1;refine⟨d,od,t,q1,(hs.2 d NV).trans q2,q4,q5.mono PP.le,q8,?_⟩;rcases q6 with q6|⟨q6,q7,q9⟩
  ·exact .inl (hZ _ _ q6)
  ·exact .inr ⟨q6,by rw[hO];exact q7,q9⟩
end
section
variable{n:Nat}{A:Around}{E:Value→Shared→Prop}{W W':Wd}{H H':AH}{s s':Shared}{sc:Scope}{env:ah}{e':Env}
theorem iQ(xs:Array Value)(n:Nat)(f:Array Value→Array Value):∃m,(gA xs n).mapSeq f=gA (f xs) m:=by exact⟨_,rfl⟩
theorem jR{l:Addr}{items:Array Value}{m:Nat}{k:Int}{t:Tok}{v:Value}{Q:Unit→Shared→Prop}(g:s.heap.get? l=some (gA items m))
  (h0:0≤k)(K6:k<2^63)(hn:k<items.size)
  (hQ:∀h' m',h'.get? l=some (gA (items.setIfInBounds k.toNat v) m')→Heap.SameBut l s.heap h'→Q () {s with heap:=h'}):
  wpAny gM A (setItem (.ref l) (.int k t) v) Q E s:=by
 obtain hl:=nM g;unfold setItem
 try with_reducible refine wpAny_holding ?_
 first|refine wpAny_bind (wpAny_pure ?_)|skip
 refine wpAny_bind (wpAny_sequenceKey hl.typeIs rfl ?_)
 refine wpAny_bind (wpAny_callSpecial?_slot hl.typeIs slot_list_setitem
  (wpAny_call_entry slot_list_setitem hl.typeIs entry_list_setitem ?_ (args_list_setitem _ _ _)))
 refine(?_:wpAny _ _ (Builtin.List.listSubscript? (.int k t)>>=_) _ _ s);refine wpAny_bind (wpAny_listSubscript_int (fitsIndex_of h0 K6) ?_);clear K6;obtain⟨j,rfl⟩:=Int.eq_ofNat_of_zero_le h0;obtain hj:j<items.size:=by exact BZ (nat_lit 17665586860289) ae hn
 obtain Cq:=Array.getElem?_eq_getElem hj;refine wpAny_bind (wpAny_bind (wpAny_seqItemAt g rfl (wpAny_pure ?_)));refine Cq▸?_;refine(iQ items m (·.setIfInBounds j v)).elim fun m' hm=>?_
 obtain K7:(s.heap.update l (Obj.mapSeq (·.setIfInBounds j v))).get? l=some (gA (items.setIfInBounds j v) m'):=by exact hm▸(Heap.get?_update_self _ g rfl)
 refine wpAny_bind (wpAny_setSeqItemAt g rfl ?_)
 first
  |exact wpAny_bind (wpAny_pure (wpAny_pure ⟨.none,rfl,wpAny_pure (hQ _ _ K7 (Heap.SameBut.update ..))⟩))|exact wpAny_pure ⟨.none,rfl,wpAny_pure (hQ _ _ K7 (Heap.SameBut.update ..))⟩
theorem ay.set:∀{vs:List V} {xs:List Value} {v:V} {y:Value} (i:Nat),ay W vs xs→Rel W v y→ay W (vs.set i v) (xs.set i y)|[],[],aM,bL,gn,h,tR=>by trivial|v::vs,x::xs,aM,bL,0,h,r=>by exact⟨r,h.2⟩|v::vs,x::xs,aM,bL,i+1,h,r=>by exact⟨h.1,h.2.set i r⟩|[],aM::bL,gn,tR,E8,h,SY=>False.elim h|aM::bL,[],gn,tR,E8,h,SY=>False.elim h
theorem ai.one(S:aG W H s){k:Nat}{a:Addr}{o':aE}{h':Heap}{tk:Nat}(hl:nU H k)(ha:W.φ k=some a)(hs:Heap.SameBut a s.heap h')(r:kU W h' a k o'):ai W H s aH W (H.set k o') {s with heap:=h',toks:=tk}:=.GI S aH hl ha (Nat.le_of_eq hs.1.symm) (fun b c e cI=>(hs.2 b fun q=>cI (q▸S.i5 k a ha)).trans e) r rfl rfl
theorem mC{o i v:V}{x j y:Value}{u:Unit}(h:ja o i v H=some (u,H'))(S:aG W H s)(ro:Rel W o x)(ri:Rel W i j)(rv:Rel W v y){Q:Unit→Shared→Prop}
  (kq:∀W' s',ai W H s aH W' H' s'→Q () s'):wpAny gM A (setItem x j y) Q E s:=by
 refine vm.el h ro fun k a ha h=>Cf.el h ri (fun i t h=>bJ h fun ob H₁ h1 h=>?_) fun z t hz h=>bJ h fun ob H₁ h1 h=>?_
 ·obtain⟨K8,hn,rfl⟩:=bQ h1;induction ob with
  |lst vs=>
   obtain h:(match iP vs i v with |some ys=>fC k (.lst ys)|none=>M.fail:M Unit) H₁=some (u,H'):=h;induction hs:iP vs i v with
   |none=>obtain h:=hs▸h;exact nE h
   |some ys=>
    simp only[hs] at h;cases b8 h;obtain hs:(if decide (0≤i)=true then(bV vs.length i).map fun k=>vs.set k v else none)=some ys:=hs;by_cases h0:0≤i
    ·rw[if_pos (decide_eq_true h0)] at hs;obtain⟨q,hq,rfl⟩:=eG hs;obtain hb:=dU hq;obtain⟨m,xs,g,hl,r⟩:=S.at K8 ha;obtain h3:(if(decide (0≤(if i<0 then i+(vs.length:Int) else i))&&decide ((if i<0 then i+(vs.length:Int) else i)<vs.length))=true then some (if i<0 then i+(vs.length:Int) else i).toNat else none)=some q:=hb.2.2;rw[if_neg (Int.not_lt.mpr h0)] at h3;refine jL h3 fun hc e=>jR g h0 hb.2.1 ((show vs.length=xs.size from r.length)▸of_decide_eq_true (bj hc).2) fun h' m' g' yK=>?_
     subst e;exact kq W _ (.one S hn ha yK ⟨m',_,g',by rw[List.length_set];exact hl,by simp only[Array.toList_setIfInBounds];exact r.set i.toNat rv⟩)
    ·rw[if_neg fun q=>h0 (of_decide_eq_true q)] at hs;exact nE hs
  |_=>exact nE h
 ·obtain⟨K8,hn,rfl⟩:=bQ h1;induction ob with
  |bf kvs=>
   refine yY h fun hc h=>?_
   cases b8 h;obtain⟨m,es,g,hm,nd,hl,r⟩:=S.at K8 ha;obtain⟨ps,D,rp⟩:=dg g nd r;refine wpAny_setItem_pairs (hsz:=rp.length▸br hl) (strKind_is _ _ _ _) D fun h' D' hs=>?_
   refine(jM D' (rp.Cz hz rv (rp.keys▸nd))).elim fun Gm Qf=>?_;refine Qf.elim fun m' GL=>?_;obtain g':=GL.1;obtain K9:=GL.2.1;obtain r':=GL.2.2
   exact kq W _ (.one S hn ha hs ⟨m',Gm,g',hm,K9,Nat.lt_of_le_of_lt (cG kvs z v) (ck hc),r'⟩)
  |_=>exact nE h
end
section
variable{n:Nat}{A:Around}{E:Value→Shared→Prop}{W W':Wd}{H H':AH}{s s':Shared}{sc:Scope}{env:ah}{e':Env}
theorem mD{a b v:V}{x y:Value}(h:i8 a b=some v)(S:aG W H s)(ra:Rel W a x)(rb:Rel W b y):
  wpAny gM A (inplaceOp .Add x y) (fun z=>aU W H s aH H fun W' c=>Rel W' v z) E s:=by
 cases a with
 |int i=>obtain⟨t,rfl⟩:=ra;exact av.el h rb fun j u h=>Option.some.inj h▸AutoIntOps.iadd_0 (bP S)
 |str p=>obtain⟨_,t,rfl⟩:=ra;exact onStr.el h rb fun q u c h=>jL h fun hs h=>have hz:=ck hs;h▸PyProof.Rows.iadd_str (fun t' tk=>dF S (strLen_append ..▸hz)) (br hz)
 |_=>exact nE h
theorem ao.congr{aj:ah}(N:ao sc env e' W s)(h:∀x,a_ env x=a_ aj x):ao sc aj e' W s:=by
 refine⟨N.kind,N.globals,N.builtins,N.code,N.kinds,?_,?_,?_,N.inj⟩
 ·refine N.locals.elim fun o Qg=>?_;refine Qg.elim fun es K_=>?_;refine K_.elim fun ep Vt=>?_;refine Vt.elim fun m CG=>?_;obtain h1:=CG.1;obtain h2:=CG.2.1;obtain h3:=CG.2.2.1;obtain h4:=CG.2.2.2.1;obtain h5:=CG.2.2.2.2.1;obtain h6:=CG.2.2.2.2.2.1;obtain h7:=CG.2.2.2.2.2.2
  exact⟨o,es,ep,m,h1,h2,h3,h4,h5,h6,fun x v hk hv=>h7 x v hk (by rw[h];exact hv)⟩
 ·intro x hx;refine(N.cells x hx).elim fun c Qh=>?_;refine Qh.elim fun o GC=>?_;refine GC.elim fun u pS=>?_;obtain h1:=pS.1;obtain h2:=pS.2.1;obtain h3:=pS.2.2.1;obtain h4:=pS.2.2.2.1;obtain h5:=pS.2.2.2.2.1;obtain h6:=pS.2.2.2.2.2
  rw[h] at h6;exact⟨c,o,u,h1,h2,h3,h4,h5,h6⟩
 ·intro x v hx hv;exact N.frees x v hx (by rw[h];exact hv)
theorem oS(N:ao sc env e' W s){x:Str}(h:e'.kindOf x=some .local)(h':kindOf sc x=some .local∨kindOf sc x=some .cell):kindOf sc x=some .local:=by
 rcases h' with h'|h'
 ·exact h'
 ·rcases N.kinds x _ h' (by decide) with h1|⟨h1,_⟩
  ·rw[h] at h1;exact nomatch h1
  ·exact nomatch h1
theorem xC{L:List (Str×V)}{env:ah}{W:Wd}{s:Shared}{xs:List Value}(S:aG W H s)(N:ao sc env e' W s)(r:ay W (L.map (·.2)) xs)(hl:∀p∈L,kindOf sc p.1=some .local):
  wpAny gM A (assignInOrder (L.map fun p=>bindName e' p.1) xs) (fun a=>aU W H s (bY sc e') H fun W' s'=>ao sc (L.foldl (fun env p=>aP env p.1 p.2) env) e' W' s') E s:=by
 induction L generalizing env W s xs with |nil=>exact wpAny_pure ⟨W,.refl S,N⟩|cons p L ih=>induction xs with |nil=>exact r.elim|cons x xs=>refine wpAny_bind (wpAny_holding (wpAny_bindName (wpAny_mono (eX S N (hl _ (.head _)) r.1) (fun a s₁ z=>z.elim fun W₁ z=>?_) fun a a e=>e)));exact xd S z.1 (ih z.1.sim z.2 (r.2.mono z.1.le) fun p hp=>hl p (.tail _ hp)) (fun a h=>h)
theorem foldl_look:∀{L:List (Str×V)} {env:ah} (z:Str),(L.map (·.1)).Nodup→a_ (L.foldl (fun env p=>aP env p.1 p.2) env) z=match L.lookup z with |some v=>some v|none=>a_ env z
|[],env,z,aM=>rfl|(y,v)::L,env,z,nd=>by
 simp only[List.map_cons,List.nodup_cons] at nd;simp only[List.foldl_cons,foldl_look z nd.2,List.lookup_cons];by_cases h:z=y
 ·subst h
  have :L.lookup z=none:=by
   rw[List.lookup_eq_none_iff];intro p hp;have :p.1≠z:=fun e=>nd.1 (e▸List.mem_map_of_mem hp)
   simpa using fun e=>this e.symm
  refine this▸?_;simp[bM]
 ·obtain h':(z==y)=false:=by simpa using h
  simp only[h',bM,if_neg h]
theorem mG{L:List (Str×V)}(nd:(L.map (·.1)).Nodup)(z:Str):L.reverse.lookup z=L.lookup z:=by
 obtain K9:(L.reverse.map (·.1)).Nodup:=by rw[List.map_reverse];exact List.pairwise_reverse.mpr (List.Pairwise.imp (fun h=>Ne.symm h) nd)
 induction h:L.lookup z with |none=>rw[List.lookup_eq_none_iff] at h⊢;intro p hp;exact h p (List.mem_reverse.mp hp)|some v=>exact cU K9 (List.mem_reverse.mpr (mem_of_lookup h))
set_option tactic.hygienic true in
theorem rK{t v:Expr}{l:Nat}:∃b,swapsWith v (some t) l e'=pure b∧(b=true→fZ v=true∧∃y p,t=.Name y p∧e'.kindOf y=some .local):=by
 unfold swapsWith;split
 ·rename_i scope rH;obtain hc:fZ v=true:=by induction v using Expr.casesOn<;>first|rfl|exact nE rH
  induction t using Expr.casesOn with |Name y p=>refine⟨_,rfl,fun hb=>⟨hc,y,p,rfl,?_⟩⟩;simp only[Bool.and_eq_true] at hb;simpa using hb.1.1.2|_=>exact⟨false,rfl,fun h=>bE h⟩
 ·exact⟨false,rfl,fun h=>bE h⟩
theorem ay.reverse{vs:List V}{xs:List Value}(h:ay W vs xs):ay W vs.reverse xs.reverse:=by
 induction vs generalizing xs with
 |nil=>induction xs with |nil=>exact h|cons _ _=>exact False.elim h
 |cons v vs ih=>induction xs with |nil=>exact False.elim h|cons x xs=>simp only[List.reverse_cons,List.reverse_cons];exact(ih h.2).append (⟨h.1,trivial⟩)
noncomputable def dm(e':Env)(line:Nat):Expr→Option Str
|.Name x pos=>if e'.kindOf x==some .local&&pos.line==line then some x else none
|_=>none
set_option tactic.hygienic true in
theorem pW{t v:Expr}(hc:lO t v=false):swappedStores [t] v e'=pure none∨∃ts k p line,t=.Tuple ts k p∧swappedStores [t] v e'=pure (some (ts.filterMap (dm e' line)))∧(ts.filterMap (dm e' line)).length=ts.length∧(ts.filterMap (dm e' line)).eraseDups.length=(ts.filterMap (dm e' line)).length:=by
 induction t using Expr.casesOn with
 |Tuple ts k p=>
  induction v using Expr.casesOn with
  |Tuple vs k' p'=>
   have hc:(vs.all (constantsAlone 8)&&!vs.all (foldedForSure 8))=false:=hc
   obtain e:swappedStores [.Tuple ts k p] (.Tuple vs k' p') e'=(do
    if !(ts.length==2||ts.length==3)||vs.length !=ts.length||e'.blockKind !=.function then return none
    if vs.any fun |.Starred ..=>true|_=>false then return none
    let names:=ts.filterMap (dm e' ((ts.head?.map (·.pos.line)).getD 0))
    if names.length !=ts.length||names.eraseDups.length !=names.length then return none
    if vs.all (foldedForSure 8) then return none
    if vs.all (constantsAlone 8) then unsupported "assign.tuple-of-constant-expressions:order-of-the-stores"
    return some names):=rfl
   refine e▸?_;split
   ·exact .inl rfl
   ·split
    ·exact .inl rfl
    ·dsimp only;split
     ·exact .inl rfl
     ·rename_i h3;split
      ·exact .inl rfl
      ·rename_i h4;split
       ·rename_i h5;rw[h5] at hc;rw[Bool.not_eq_true] at h4;rw[h4] at hc;exact nomatch hc
       ·refine .inr ⟨ts,k,p,_,rfl,rfl,?_⟩;simp only[Bool.or_eq_true,bne_iff_ne,ne_eq,not_or,Decidable.not_not] at h3;exact h3
  |_=>exact .inl rfl
 |List ts p=>exact nomatch (show true=false from hc)|_=>exact .inl rfl
end
section
variable{n:Nat}{A:Around}{E:Value→Shared→Prop}{W W':Wd}{H H':AH}{s s':Shared}{sc:Scope}{env:ah}{e':Env}
theorem pX{line:Nat}{t:Expr}{x:Str}(h:dm e' line t=some x):(∃p,t=.Name x p)∧e'.kindOf x=some .local:=by
 induction t using Expr.casesOn with
 |Name y p=>
  have h:(if(e'.kindOf y==some .local&&p.line==line)=true then some y else none)=some x:=h;by_cases hc:(e'.kindOf y==some .local&&p.line==line)=true
  ·rw[if_pos hc] at h;obtain rfl:=Option.some.inj h;exact⟨⟨p,rfl⟩,eq_of_beq (bj hc).1⟩
  ·rw[if_neg hc] at h;exact nE h
 |_=>exact nE h
theorem iR:∀{l:List Str},l.eraseDups.length=l.length→l.Nodup:=by
 intro l;induction hn:l.length using Nat.strongRecOn generalizing l with
 |_ m ih=>
  intro h;induction l with
  |nil=>exact List.nodup_nil|cons x l=>
   rw[List.eraseDups_cons] at h;simp only[List.length_cons] at h hn;have h1:(l.filter fun b=>!b==x).eraseDups.length≤(l.filter fun b=>!b==x).length:=by
    have :∀(k:Nat) (l:List Str),l.length≤k→l.eraseDups.length≤l.length:=by
     intro k;induction k with
     |zero=>intro l hl;have :l=[]:=List.length_eq_zero_iff.mp (aJ (nat_lit 9905546199313) ae hl);subst this;simp |succ k ih=>
      intro l hl;induction l with
      |nil=>simp |cons y l=>
       rw[List.eraseDups_cons];simp only[List.length_cons] at hl⊢;have h2:=List.length_filter_le (fun b=>!b==y) l
       have h3:=ih (l.filter fun b=>!b==y) (aQ (nat_lit 0x20011928191801100102) ae h2 hl);exact aQ (nat_lit 0x19281908012101100102) ae h3 h2
    exact this _ _ (Nat.le_refl _)
   have h2:=List.length_filter_le (fun b=>!b==x) l;have h3:(l.filter fun b=>!b==x).length=l.length:=by exact eO (nat_lit 0x1025020431928243191834100114) ae h2 hn h h1
   have h4:=List.length_filter_eq_length_iff.mp h3;have h5:=List.filter_eq_self.mpr h4
   rw[h5] at h;refine List.nodup_cons.mpr ⟨fun hm=>?_,ih l.length (aA (nat_lit 282647922745601) ae hn) rfl (aQ (nat_lit 0x20251192835119082512) ae h hn)⟩;have :=h4 x hm
   simp at this
end
section
variable{A:Around}{E:Value→Shared→Prop}{W W':Wd}{H H':AH}{s s':Shared}{X:Addr→Prop}
theorem ai.back{k:Nat}{o:aE}{a:Addr}(S:aG W H s)(P:ai W (H.set k .gone) s X W' H' s')(ho:H[k]?=some o)(hl:nU H k)(ha:W.φ k=some a)(O':kU W' s'.heap a k o)
  (hx:∀b,X b→W.own b≠some k):ai W H s X W' (H'.set k o) s':=by
 have bT:=(c_ ho).1;have hg:(H.set k .gone)[k]?=some aE.gone:=List.getElem?_set_self bT
 have hlen:H.length≤H'.length:=by obtain this:=P.len;rwa [List.length_set] at this
 have La:=fun b h=>(P.BX b k h).resolve_right fun q=>q.2 hg
 have hz:∀b,W'.own b=some k→W'.Z b=none:=fun b h=>by
  induction e:W'.Z b with
  |none=>rfl|some ob=>
   obtain hb:=La b h;rcases P.vL b ob e with h1|h1|⟨j,h1,h2⟩|h1
   ·rw[S.qX b k hb hl] at h1;exact nE h1
   ·exact absurd (S.b_ b k hb).2 (Nat.not_lt_of_le h1)
   ·rw[hb] at h1;obtain rfl:=Option.some.inj h1;obtain⟨q,hq,hn⟩:=h2;rw[hg] at hq;obtain rfl:=Option.some.inj hq;exact hn.elim
   ·exact absurd hb (hx b h1)
 have lv:∀j,nU (H.set k .gone) j→nU H j:=fun j ⟨q,hq,hn⟩=>by
  rcases cV hq with ⟨_,rfl⟩|⟨_,hq⟩
  ·exact hn.elim
  ·exact⟨q,hq,hn⟩
 refine⟨⟨P.sim.z,P.sim.i5,fun b j h=>⟨by rw[List.length_set];exact(P.sim.b_ b j h).1,(P.sim.b_ b j h).2⟩,fun b j h KO=>?_,fun j q hq=>?_,P.sim.tab,P.sim.base⟩,P.le,P.vK,fun b j h=>?_,fun b ob h=>?_,fun b ob h hn hd hX=>P.keep b ob h hn (fun j hj KO=>hd j hj (lv j KO)) hX,P.cl,fun j hj=>?_,by rw[List.length_set];exact hlen,P.size,P.os,P.gens⟩
 ·by_cases hj:j=k
  ·cases hj;exact hz b h
  ·obtain⟨q,hq,hn⟩:=KO;rw[List.getElem?_set_ne (Ne.symm hj)] at hq;exact P.sim.qX b j h ⟨q,hq,hn⟩
 ·rcases d_ hq with ⟨rfl,rfl,_⟩|⟨_,hq⟩
  ·exact⟨a,P.le.φ _ _ ha,O'⟩
  ·exact P.sim.obj j q hq
 ·rcases P.BX b j h with h1|⟨h1,h2⟩
  ·exact .inl h1
  ·refine .inr ⟨h1,fun e=>h2 ?_⟩;by_cases hj:k=j
   ·subst hj;exact hg
   ·refine(List.getElem?_set_ne hj).trans ?_;exact e
 ·exact(P.vL b ob h).imp id (Or.imp id (Or.imp (fun⟨j,h1,h2⟩=>⟨j,h1,lv j h2⟩) id))
 ·obtain cI:k≠j:=fun e=>by
   subst e;obtain⟨q,hq,hn⟩:=hl;rw[hj] at hq;obtain rfl:=Option.some.inj hq;exact hn
  refine(List.getElem?_set_ne cI).trans ?_;exact P.gone j (by refine(List.getElem?_set_ne cI).trans ?_;exact hj)
end
section
variable{n:Nat}{A:Around}{E:Value→Shared→Prop}{W W':Wd}{H H':AH}{s s':Shared}{sc:Scope}{env:ah}{e':Env}
def cC(W:Wd)(a:Addr):Prop:=W.own a=none∧W.Z a=none∧¬G.eV a
def bG(W:Wd)(s:Shared)(a:Addr):Prop:=cC W a∧∃o vs,s.heap.get? a=some o∧o.data=.fields vs
def dw(D:Addr→Prop)(P:Heap→Prop):Prop:=∀h h':Heap,P h→(∀a o,D a→h.get? a=some o→h'.get? a=some o)→P h'
def gR(t:Expr)(it:Value)(IA D:Addr→Prop)(W₀:Wd):List V→(Heap→Prop)→Prop|[],P=>∀{A:Around} {E:Value→Shared→Prop} {Q:Option Value→Shared→Prop} {s:Shared},A.handled=none→P s.heap→(∀h' tk,s.heap.objs.size≤h'.objs.size→(∀b o,¬IA b→s.heap.get? b=some o→h'.get? b=some o)→Q none {s with heap:=h',toks:=tk})→wpAny gM A (pyNext it) Q E s|x::xs,P=>∃P':Heap→Prop,dw (fun a=>IA a∨D a) P'∧gR t it IA D W₀ xs P'∧∀{A:Around} {E:Value→Shared→Prop} {H:AH} {W:Wd} {s:Shared},W₀.Le W→aG W H s→(∀a,IA a→bG W s a)→A.handled=none→P s.heap→wpAny gM A (pyNext it) (fun r s₁=>∃y,r=some y∧∀{E':Value→Shared→Prop},wpAny gM A (letOwnedTupleGo t it y) (fun c s'=>∃W',ai W H s IA W' H s'∧(∀a,IA a→bG W' s' a)∧Rel W' x y∧P' s'.heap) E' s₁) E s
theorem cC.post{X:Addr→Prop}(P:ai W H s X W' H' s'){a:Addr}(f:cC W a)(bT:a<s.heap.objs.size)(hx:¬X a):cC W' a:=by
 obtain h1:=f.1;obtain h2:=f.2.1;obtain h3:=f.2.2;refine⟨?_,?_,h3⟩
 ·induction e:W'.own a with
  |none=>rfl|some k=>
   rcases P.BX a k e with h|⟨h,_⟩
   ·rw[h1] at h;exact nE h
   ·exact absurd bT (Nat.not_lt_of_le h)
 ·induction e:W'.Z a with
  |none=>rfl|some o=>
   rcases P.vL a o e with h|h|⟨k,h,_⟩|h
   ·rw[h2] at h;exact nE h
   ·exact absurd bT (Nat.not_lt_of_le h)
   ·rw[h1] at h;exact nE h
   ·exact absurd h hx
def Still(W:Wd)(H:AH)(s:Shared)(X:Addr→Prop)(a:Addr):Prop:=(∃o,s.heap.get? a=some o)∧¬G.eV a∧(∀k,W.own a=some k→¬nU H k)∧¬X a
theorem Still.post{X:Addr→Prop}{a:Addr}(S:aG W H s)(P:ai W H s X W' H' s')(f:Still W H s X a):Still W' H' s' X a∧∀o,s.heap.get? a=some o→s'.heap.get? a=some o:=by
 obtain Kz:=f.1;obtain h1:=f.2.1;obtain h2:=f.2.2.1;obtain h3:=f.2.2.2;refine Kz.elim fun o ho=>?_
 exact⟨⟨⟨o,P.keep a o ho h1 h2 h3⟩,h1,P.dead S (Heap.lt_size ho) h2,h3⟩,fun o ho=>P.keep a o ho h1 h2 h3⟩
theorem ai.free(S:aG W H s){IA:Addr→Prop}(hf:∀a,IA a→cC W a)(hk:∀b o,¬IA b→s.heap.get? b=some o→s'.heap.get? b=some o)(hsz:s.heap.objs.size≤s'.heap.objs.size)(qJ:s'.os=s.os)(hg:s'.gens=s.gens):
  ai W H s IA W H s':=by
 have zi:∀a o,W.Z a=some o→¬IA a:=fun a o h hi=>by rw[(hf a hi).2.1] at h;exact nE h
 have oi:∀a k,W.own a=some k→¬IA a:=fun a k h hi=>by rw[(hf a hi).1] at h;exact nE h
 refine⟨⟨fun a o h=>hk a o (zi a o h) (S.z a o h),S.i5,fun a k h=>⟨(S.b_ a k h).1,Nat.lt_of_lt_of_le (S.b_ a k h).2 hsz⟩,S.qX,fun k o h=>?_,fun c P q hm=>?_,S.base⟩,.refl W,fun d d h=>h,fun d d h=>.inl h,fun d d h=>.inl h,fun a o h hn hd hx=>hk a o hx h,fun a ps ht h=>⟨#[],by exact hk a _ (fun hi=>(hf a hi).2.2 ht) h⟩,fun d h=>h,Nat.le_refl _,hsz,qJ,hg⟩
 ·obtain⟨a,h1,h2⟩:=S.obj k o h;exact⟨a,h1,h2.keeps (.refl W) (fun d h=>h) (fun o e=>hk a o (oi a k (S.i5 k a h1)) e) fun b o hb e=>hk b o (oi b k hb) e⟩
 ·obtain⟨h1,⟨oc,h0⟩,h2,lY,ps,h3,h4,h5⟩:=S.tab c P q hm;refine⟨?_,⟨oc,h0⟩,h2,lY,ps,hk P _ (fun hi=>(hf P hi).2.2 ⟨c,q,hm⟩) h3,h4,h5⟩;obtain⟨o,vs,file,tf,flags,tg,GH,text,tt,e,r⟩:=h1;exact⟨o,vs,file,tf,flags,tg,GH,text,tt,hk c o (zi c oc h0) e,r⟩
theorem bG.post{X:Addr→Prop}(P:ai W H s X W' H' s'){a:Addr}(f:bG W s a)(hx:¬X a):bG W' s' a:=by obtain⟨f,o,vs,ho,hd⟩:=f;exact⟨f.post P (Heap.lt_size ho) hx,o,vs,P.keep a o ho f.2.2 (fun k h=>by rw[f.1] at h;exact nE h) hx,hd⟩
theorem bG.keep{X:Addr→Prop}(P:ai W H s X W' H' s'){a:Addr}(f:bG W s a)(hx:¬X a){o:Obj}(ho:s.heap.get? a=some o):s'.heap.get? a=some o:=P.keep a o ho f.1.2.2 (fun k h=>by rw[f.1.1] at h;exact nE h) hx
theorem bG.apart(N:ao sc env e' W s){a:Addr}(f:bG W s a):a≠e'.locals∧∀y,(kindOf sc y=some .cell∨(kindOf sc y=some .free∧(a_ env y).isSome=true))→e'.cells.lookup y≠some a:=by
 obtain⟨f,o,vs,ho,hd⟩:=f;refine⟨?_,fun y hy hl=>?_⟩
 ·rintro rfl;obtain⟨o',es,ep,m,h1,h2,h3,_⟩:=N.locals;rw[ho] at h1;obtain rfl:=Option.some.inj h1;rw[hd] at h3;cases h3
 ·rcases hy with hy|⟨hy,hb⟩
  ·obtain⟨c,oc,u,h1,h2,h3,h4,_⟩:=N.cells y hy;rw[hl] at h1;obtain rfl:=Option.some.inj h1;rw[ho] at h2;obtain rfl:=Option.some.inj h2;rw[hd] at h4;exact nomatch h4
  ·obtain⟨v,hv⟩:=lF hb;obtain⟨c,oc,z,h1,h2,h4,_⟩:=N.frees y v hy hv;rw[hl] at h1;obtain rfl:=Option.some.inj h1;rw[ho] at h2;obtain rfl:=Option.some.inj h2;rw[hd] at h4;exact nomatch h4
theorem bG.fq(N:ao sc env e' W s){a:Addr}(f:bG W s a):¬bY sc e' a:=fun ho=>by
 rcases ho with ho|⟨x,h1,h2⟩
 ·exact(f.apart N).1 ho
 ·exact(f.apart N).2 x (.inl h1) h2
end
section
variable{n:Nat}{A:Around}{E:Value→Shared→Prop}{W W':Wd}{H H':AH}{s s':Shared}{sc:Scope}{env:ah}{e':Env}
noncomputable def v5(T:String):Bool:=["enumerate","zip","dict_itemiterator","dict_reverseitemiterator","odict_iterator","itertools.zip_longest","itertools.pairwise"].contains T
theorem kD{M:Model}{t:Expr}{I:Addr}{o:Obj}{T:String}{y:Value}{Q:Unit→Shared→Prop}(ho:s.heap.get? I=some o)(hc:o.cls=.type T)(hT:v5 T=false)(h:Q () s):
  wpAny M A (letOwnedTupleGo t (.ref I) y) Q E s:=by
 have main:∀(a:Addr),wpAny M A (do
   let o←load I
   match o.cls,o.data with
   |.type n,.fields vs=>
    if ["enumerate","zip","dict_itemiterator","dict_reverseitemiterator","odict_iterator","itertools.zip_longest","itertools.pairwise"].contains n&&vs[0]?==some (rawInt a) then
     rule "for.unpacks-the-owned-tuple"
     updateField I 0 .none
   |aM,bL=>pure ():Sem Unit) Q E s:=by
  intro a;refine wpAny_bind (wpAny_load ho ?_);refine hc▸?_;unfold v5 at hT
  induction hd:o.data<;>first
   |exact wpAny_pure h|(dsimp only;refine hT▸?_;exact wpAny_pure h)
 induction t using Expr.casesOn<;>first
  |exact wpAny_pure h|(induction y<;>first
    |exact wpAny_pure h|exact main _)
structure Iter(t:Expr)(it:Value)(IA D:Addr→Prop)(W₀:Wd)(xs:List V)(P:Heap→Prop):Prop where
 zH:gR t it IA D W₀ xs P
 nW:dw (fun a=>IA a∨D a) P
 self:∀{A:Around} {E:Value→Shared→Prop} {Q:Value→Shared→Prop} {s:Shared},A.handled=none→P s.heap→Q it s→wpAny gM A (pyIter it) Q E s
theorem rL{t:Expr}{W₀:Wd}{I:Addr}{fp:List Addr}{m:Nat}{Pv:Nat→Value→Prop}{St:Nat→Heap→Prop}(Wk:∀A:Around,A.handled=none→Walks G.prog G.w A I fp [I] m Pv St)
  (hI:∀i h,St i h→∃o T vs,h.get? I=some o∧o.cls=.type T∧v5 T=false∧o.data=.fields vs){vs:List V}(hm:vs.length=m)(kY:∀i x v,vs[i]?=some x→Pv i v→∀W,W₀.Le W→Rel W x v):
  ∀(k i:Nat),m-i=k→i≤m→gR t (.ref I) (fun a=>a=I) (fun a=>a∈fp∧a≠I) W₀ (vs.drop i) (St i):=by
 obtain nW:∀i,dw (fun a=>a=I∨a∈fp∧a≠I) (St i):=fun i h h' st hk=>(Wk {} rfl).frame i h h' st fun b hb o e=>hk b o (by
  by_cases zI:b=I
  ·exact .inl zI
  ·exact .inr ⟨hb,zI⟩) e
 intro k;induction k with
 |zero=>
  intro i hk hi;obtain CJ:i=m:=by exact aQ (nat_lit 0x102509234028104100113) ae hi (Ln.aY (m) (i)) hk
  subst CJ;rw[List.drop_of_length_le (by exact aA (nat_lit 68737310977) ae hm)];intro A E Q s hA st hQ;exact bD ((Wk A hA).done s _ E st fun h' tk Fp hsz=>hQ h' tk hsz fun b o hb e=>Fp b o (by simpa using hb) e)
 |succ k ih=>
  intro i hk hi;have bT:i<vs.length:=by exact vj (nat_lit 0x24111918031323134082103) ae (Nat.sub_add_cancel (aA (nat_lit 68737302785) ae hi:i≤m)) hm hk
  rw[List.drop_eq_getElem_cons bT];refine⟨St (i+1),nW _,ih (i+1) (by grind) (aQ (nat_lit 0x21908012121101102) ae bT hm),fun{A E H W s} hL S CK hA st=>?_⟩;refine bD ((Wk A hA).item i s _ E (by simp_all) st fun v h' tk hP GN Fp hsz=>⟨v,rfl,fun{E'}=>?_⟩);refine(hI _ _ GN).elim fun o Kz=>?_;refine Kz.elim fun T Vu=>?_;refine Vu.elim fun pR NW=>?_;obtain ho:=NW.1;obtain hc:=NW.2.1;obtain hT:=NW.2.2.1;obtain hd:=NW.2.2.2
  refine kD ho hc hT ?_;obtain PP:=ai.free S (fun a ha=>(CK a ha).1) (fun b o hb e=>Fp b o (by simpa using hb) e) hsz rfl rfl;exact⟨W,PP,fun a ha=>⟨(CK a ha).1,o,pR,by rw[ha];exact ho,hd⟩,kY i _ v (List.getElem?_eq_getElem bT) hP W hL,GN⟩
theorem cJ{t:Expr}{W₀:Wd}{I:Addr}{fp:List Addr}{m:Nat}{Pv:Nat→Value→Prop}{St:Nat→Heap→Prop}(Wk:∀A:Around,A.handled=none→Walks G.prog G.w A I fp [I] m Pv St)
  (hI:∀i h,St i h→∃o T vs,h.get? I=some o∧o.cls=.type T∧v5 T=false∧o.data=.fields vs){vs:List V}(hm:vs.length=m)(kY:∀i x v,vs[i]?=some x→Pv i v→∀W,W₀.Le W→Rel W x v):
  Iter t (.ref I) (fun a=>a=I) (fun a=>a∈fp∧a≠I) W₀ vs (St 0):=
 ⟨rL Wk hI hm kY m 0 rfl (aJ (nat_lit 590080) ae),fun h h' st hk=>(Wk {} rfl).frame 0 h h' st fun b hb o e=>hk b o (by
  by_cases zI:b=I
  ·exact .inl zI
  ·exact .inr ⟨hb,zI⟩) e,fun hA st hQ=>(Wk _ hA).self 0 _ _ _ st hQ⟩
def SrcAt(W:Wd)(H:AH)(s:Shared)(a:Addr):Prop:=(∃o,s.heap.get? a=some o∧∀y,o.data≠.cell y)∧((∃k,W.own a=some k∧H[k]?=some aE.gone)∨∃o,W.Z a=some o)
theorem SrcAt.zJ{a:Addr}(S:aG W H s)(x:SrcAt W H s a){X:Addr→Prop}(hX:¬X a):Still W H s X a:=by
 obtain⟨⟨o,ho,_⟩,h⟩:=x;refine⟨⟨o,ho⟩,fun⟨c,q,hm⟩=>?_,fun k hk hl=>?_,hX⟩
 ·obtain⟨_,_,hz,hw,_⟩:=S.tab c a q hm;rcases h with ⟨k,h,_⟩|⟨o,h⟩
  ·rw[hw] at h;exact nE h
  ·rw[hz] at h;exact nE h
 ·rcases h with ⟨j,h,hg⟩|⟨o',h⟩
  ·rw[h] at hk;obtain rfl:=Option.some.inj hk;obtain⟨q,hq,hn⟩:=hl;rw[hg] at hq;obtain rfl:=Option.some.inj hq;exact hn
  ·rw[S.qX a k hk hl] at h;exact nE h
theorem SrcAt.fq{a:Addr}(N:ao sc env e' W s)(x:SrcAt W H s a):¬bY sc e' a:=by
 obtain⟨⟨o,ho,hd⟩,h⟩:=x;rintro(rfl|⟨y,hy,hl⟩)
 ·refine N.locals.elim fun Vv Qi=>?_;refine Qi.elim fun Vw Qj=>?_;refine Qj.elim fun Vx Qk=>?_;refine Qk.elim fun Kp Lb=>?_;obtain hw:=Lb.2.2.2.2.1;obtain hz:=Lb.2.2.2.2.2.1
  rcases h with ⟨j,h,hg⟩|⟨o',h⟩
  ·rw[hw] at h;exact nE h
  ·rw[hz] at h;exact nE h
 ·obtain⟨c,oc,u,h1,h2,h3,h4,_⟩:=N.cells y hy;rw[hl] at h1;obtain rfl:=Option.some.inj h1;rw[ho] at h2;obtain rfl:=Option.some.inj h2;exact hd u h4
def Lock(W:Wd)(H:AH)(s:Shared)(back:Option (Nat×aE))(H₁:AH):Prop:=(back=none∧H₁=H)∨∃k o a,back=some (k,o)∧H[k]?=some o∧nU H k∧W.φ k=some a∧H₁=H.set k .gone
theorem Lock.post{back:Option (Nat×aE)}{H₁:AH}(S:aG W H s)(L:Lock W H s back H₁)(X:Addr→Prop):ai W H s X W H₁ s:=by
 rcases L with ⟨_,rfl⟩|⟨k,o,a,_,_,_,_,rfl⟩
 ·exact .refl S
 ·exact ai.Ky S X k
theorem Lock.back{back:Option (Nat×aE)}{H₁ Hf:AH}{X:Addr→Prop}(S:aG W H s)(L:Lock W H s back H₁)(P:ai W H₁ s X W' H' s')(hX:∀b k,W.own b=some k→¬X b)
  (h:ie back H'=some ((),Hf)):ai W H s X W' Hf s':=by
 rcases L with ⟨rfl,rfl⟩|⟨k,o,a,rfl,ho,hl,ha,rfl⟩
 ·obtain Ql:=(aW h).2;subst Ql;exact P
 ·obtain this:=b8 h;subst this;have own:=S.i5 k a ha
  have bT:=(c_ ho).1;have dead:¬nU (H.set k .gone) k:=fun⟨q,hq,hn⟩=>by rw[List.getElem?_set_self bT] at hq;obtain rfl:=Option.some.inj hq;exact hn
  obtain nt:∀b,W.own b=some k→¬G.eV b:=fun b hb ⟨c,q,hm⟩=>by obtain⟨_,_,_,hw,_⟩:=S.tab c b q hm;rw[hw] at hb;exact nE hb
  have kp:=fun b o hb e=>P.keep b o e (nt b hb) (fun j hj=>by rw[hb] at hj;obtain rfl:=Option.some.inj hj;exact dead) (hX b k hb)
  exact ai.back S P ho hl ha ((S.at ho ha).keeps P.le (fun b hb=>P.vK b k hb) (fun o e=>kp a o own e) kp) fun b hb hk=>hX b k hk hb
end
section
variable{n:Nat}{A:Around}{E:Value→Shared→Prop}{W W':Wd}{H H':AH}{s s':Shared}{sc:Scope}{env:ah}{e':Env}
inductive rM(W:Wd)(H:AH)(s:Shared):Value→List V→Prop|lst(l:Addr)(ys:Array Value)(m:Nat)(xs:List V):s.heap.get? l=some (gA ys m)→xs.length<ak→ay W xs ys.toList→SrcAt W H s l→rM W H s (.ref l) xs|tup(l:Addr)(ys:Array Value)(m:Nat)(xs:List V):s.heap.get? l=some (nL ys m)→xs.length<ak→ay W xs ys.toList→SrcAt W H s l→rM W H s (.ref l) xs|str(x:Str)(t:Tok):x.length<ak→rM W H s (.str x t) (x.cps.toList.map fun c=>.str ⟨#[c]⟩)|nK(r:Addr)(a b:Int)(t u v:Tok):IsRange s.heap r a b 1 t u v→Builtin.Range.small a b 1=true→rM W H s (.ref r) ((List.range (b-a).toNat).map fun(i:Nat)=>.int (a+(i:Int)))|bf(d:Addr)(es:Array DictEntry)(m:Nat)(kvs:List (Str×V)):s.heap.get? d=some (cT es m)→d≠sysModules→(kvs.map (·.1)).Nodup→kvs.length<ak→Reld W kvs es.toList→SrcAt W H s d→rM W H s (.ref d) (kvs.map fun kv=>.str kv.1)
theorem SrcAt.z{a:Addr}{o:Obj}(S:aG W H s)(h:W.Z a=some o)(hd:∀y,o.data≠.cell y):SrcAt W H s a:=⟨⟨o,S.z _ _ h,hd⟩,.inr ⟨o,h⟩⟩
theorem SrcAt.lock{a:Addr}{o:Obj}{k:Nat}(S:aG W H s)(hk:k<H.length)(ha:W.φ k=some a)(h:s.heap.get? a=some o)(hd:∀y,o.data≠.cell y):SrcAt W (H.set k .gone) s a:=⟨⟨o,h,hd⟩,.inl ⟨k,S.i5 k a ha,List.getElem?_set_self hk⟩⟩
theorem rN{v:V}{x:Value}{xs:List V}{back:Option (Nat×aE)}(h:srcOf v H=some ((xs,back),H'))(S:aG W H s)(r:Rel W v x):Lock W H s back H'∧rM W H' s x xs:=by
 induction v using V.casesOn with
 |lst vs=>refine jc h ?_;obtain⟨a,m,ys,rfl,hz,hl,rs⟩:=r;exact⟨.inl ⟨rfl,rfl⟩,.lst a ys m _ (S.z _ _ hz) hl rs (.z S hz (by intro y e;cases e))⟩
 |tup vs=>refine jc h ?_;obtain⟨a,m,ys,rfl,hz,hl,rs⟩:=r;exact⟨.inl ⟨rfl,rfl⟩,.tup a ys m _ (S.z _ _ hz) hl rs (.z S hz (by intro y e;cases e))⟩
 |str y=>refine jc h ?_;obtain⟨hl,t,rfl⟩:=r;exact⟨.inl ⟨rfl,rfl⟩,.str _ _ hl⟩
 |nK a b=>refine jc h ?_;obtain⟨q,t,u,v,rfl,hz,hs⟩:=r;exact⟨.inl ⟨rfl,rfl⟩,.nK q a b t u v (S.z _ _ hz) hs⟩
 |bf kvs=>refine jc h ?_;obtain⟨a,m,es,rfl,hz,h0,nd,hl,rs⟩:=r;exact⟨.inl ⟨rfl,rfl⟩,.bf a es m _ (S.z _ _ hz) h0 nd hl rs (.z S hz (by intro y e;cases e))⟩
 |ref k=>
  refine bJ h fun o H₁ h1 k1=>?_
  obtain⟨ho,hn,rfl⟩:=bQ h1;obtain⟨a,rfl,ha⟩:=r;have O:=S.at ho ha
  have bT:=(c_ ho).1;induction o with
  |lst vs=>
   refine bJ k1 fun u H₂ h2 k2=>?_
   have :=b8 h2;subst this;refine jc k2 ?_;obtain⟨m,ys,g,hl,rs⟩:=O;exact⟨.inr ⟨k,_,a,rfl,ho,hn,ha,rfl⟩,.lst a ys m _ g hl rs (.lock S bT ha g (by intro y e;cases e))⟩
  |bf kvs=>
   refine bJ k1 fun u H₂ h2 k2=>?_
   have :=b8 h2;subst this;refine jc k2 ?_;obtain⟨m,es,g,h0,nd,hl,rs⟩:=O;exact⟨.inr ⟨k,_,a,rfl,ho,hn,ha,rfl⟩,.bf a es m _ g h0 nd hl rs (.lock S bT ha g (by intro y e;cases e))⟩
  |_=>exact nE k1
 |_=>exact nE h
inductive kE(t:Expr)(it:Value)(W:Wd)(H:AH)(s₁:Shared)(n0:Nat)(xs:List V):Prop|mk(IA D:Addr→Prop)(P:Heap→Prop)(I:Iter t it IA D W xs P)(p:P s₁.heap)(h:∀a,IA a→bG W s₁ a∧n0≤a)(hD:∀a,D a→SrcAt W H s₁ a)
theorem SrcAt.push{a:Addr}(x:SrcAt W H s a)(o:Obj)(t:Nat):SrcAt W H {s with heap:=s.heap.push o,toks:=t} a:=by obtain⟨⟨q,hq,hd⟩,h⟩:=x;exact⟨⟨q,Heap.get?_push_of_some _ hq,hd⟩,h⟩
theorem bG.push(S:aG W H s){o:Obj}{vs:Array Value}(hd:o.data=.fields vs)(t:Nat):bG W {s with heap:=s.heap.push o,toks:=t} s.heap.objs.size:=⟨⟨S.cH (Nat.le_refl _),S.gJ (Nat.le_refl _),S.fj (Nat.le_refl _)⟩,o,vs,Heap.get?_push_size _ (Obj.isFreed_of_fields hd),hd⟩
theorem dS.get{kvs:List (Str×V)}{ps:List (Str×Value)}{i:Nat}{k:Str}{y:Value}(h:dS W kvs ps)(hx:ps[i]?=some (k,y)):∃v,kvs[i]?=some (k,v)∧k.length<ak∧Rel W v y:=by
 induction kvs generalizing ps i with
 |nil=>induction ps with |nil=>exact nE hx|cons _ _=>exact h.elim
 |cons a r ih=>induction ps with
  |nil=>exact h.elim|cons b r'=>induction i with
   |zero=>obtain hb:=Option.some.inj hx;subst hb;exact⟨a.2,congrArg some (Prod.ext h.1.symm rfl),h.1.symm▸h.2.1,h.2.2.1⟩
   |succ i=>exact ih h.2.2.2 hx
theorem rangeSize_one(a b:Int):((b-a).toNat:Int)=Builtin.Range.rangeSize a b 1:=by
 unfold Builtin.Range.rangeSize;obtain h1:(1:Int)>0:=by exact Iz.go (nat_lit 420057344) [] [] ae
 split<;>lia
theorem CN{t:Expr}{x:Value}{xs:List V}(V:rM W H s x xs)(S:aG W H s):
  wpAny gM A (pyIter x) (fun it s₁=>ai W H s aH W H s₁∧kE t it W H s₁ s.heap.objs.size xs) E s:=by
 obtain I0:∀{a:Addr} {o:Obj},s.heap.get? a=some o→a≠s.heap.objs.size:=fun h=>Nat.ne_of_lt (Heap.lt_size h)
 induction V with
 |lst l ys m xs g hl rs sa=>
  have cI:=I0 g;refine wpAny_pyIter_list (nM g) ⟨ai.fF S aH _,_,_,_,cJ (fun A hA=>Walks.list hA s.heap.objs.size l cI ys) (fun i h st=>?_) ?_ ?_,⟨⟨_,Heap.get?_push_size _ rfl,rfl,rfl⟩,_,Heap.get?_push_of_some _ g,rfl,m,rfl⟩,fun a ha=>?_,fun a ha=>?_⟩
  ·obtain⟨⟨o,ho,hc,hd⟩,_⟩:=st;exact⟨o,_,_,ho,hc,by decide,hd⟩
  ·have :=rs.length;simpa using this
  ·intro i x v hx hv W' L;obtain⟨y,hy,r⟩:=rs.get hx;rw[Array.getElem?_toList] at hy;rw[hy] at hv;cases hv;exact r.mono L
  ·cases ha;exact⟨bG.push S rfl s.toks,Nat.le_refl _⟩
  ·have :a=l:=by
    rcases bz ha.1 with h|h
    ·exact absurd h ha.2
    ·simpa using h
   subst this;exact sa.push _ s.toks
 |tup l ys m xs g hl rs sa=>
  have cI:=I0 g;refine wpAny_pyIter_tuple (B4 g) ⟨ai.fF S aH _,_,_,_,cJ (fun A hA=>Walks.tuple hA s.heap.objs.size l cI ys) (fun i h st=>?_) ?_ ?_,⟨⟨_,Heap.get?_push_size _ rfl,rfl,rfl⟩,_,Heap.get?_push_of_some _ g,rfl,m,rfl⟩,fun a ha=>?_,fun a ha=>?_⟩
  ·obtain⟨⟨o,ho,hc,hd⟩,_⟩:=st;exact⟨o,_,_,ho,hc,by decide,hd⟩
  ·have :=rs.length;simpa using this
  ·intro i x v hx hv W' L;obtain⟨y,hy,r⟩:=rs.get hx;rw[Array.getElem?_toList] at hy;rw[hy] at hv;cases hv;exact r.mono L
  ·cases ha;exact⟨bG.push S rfl s.toks,Nat.le_refl _⟩
  ·have :a=l:=by
    rcases bz ha.1 with h|h
    ·exact absurd h ha.2
    ·simpa using h
   subst this;exact sa.push _ s.toks
 |str y tk hl=>
  have kY:∀(i:Nat) (x:V) (v:Value),(y.cps.toList.map fun c=>V.str ⟨#[c]⟩)[i]?=some x→SignAt y i v→∀W',W.Le W'→Rel W' x v:=by rintro i x v hx ⟨c,u,hc,rfl⟩ W' L;rw[List.getElem?_map,Array.getElem?_toList,hc] at hx;cases hx;exact⟨by show 1<ak;decide,u,rfl⟩
  induction ha:y.cps.all (·<128)
  ·refine wpAny_pyIter_wide ha ⟨ai.fF S aH _,_,_,_,cJ (fun A hA=>Walks.strWide hA s.heap.objs.size y tk) (fun i h st=>?_) (by simp) kY,⟨_,Heap.get?_push_size _ rfl,rfl,rfl⟩,fun a ha=>?_,fun a ha=>?_⟩
   ·obtain⟨o,ho,hc,hd⟩:=st;exact⟨o,_,_,ho,hc,by decide,hd⟩
   ·cases ha;exact⟨bG.push S rfl s.toks,Nat.le_refl _⟩
   ·exact absurd (by simpa using ha.1) ha.2
  ·refine wpAny_pyIter_ascii ha ⟨ai.fF S aH _,_,_,_,cJ (fun A hA=>Walks.strAscii hA s.heap.objs.size y tk) (fun i h st=>?_) (by simp) kY,⟨_,Heap.get?_push_size _ rfl,rfl,rfl⟩,fun a ha=>?_,fun a ha=>?_⟩
   ·obtain⟨o,ho,hc,hd⟩:=st;exact⟨o,_,_,ho,hc,by decide,hd⟩
   ·cases ha;exact⟨bG.push S rfl s.toks,Nat.le_refl _⟩
   ·exact absurd (by simpa using ha.1) ha.2
 |nK r a b tk u v g hs=>
  refine wpAny_pyIter_range g hs ⟨ai.fF S aH _,_,_,_,cJ (fun A hA=>Walks.range hA s.heap.objs.size a 1 (b-a).toNat) (fun i h st=>?_) (by simp) ?_,?_,fun a ha=>?_,fun a ha=>?_⟩
  ·exact⟨_,_,_,st,rfl,by decide,rfl⟩
  ·rintro i x v hx ⟨t,rfl⟩ W' L;rw[List.getElem?_map] at hx;induction hr:(List.range (b-a).toNat)[i]? with
   |none=>rw[hr] at hx;exact nE hx|some j=>
    rw[hr] at hx;cases hx;have :j=i:=by have :=c_ hr;obtain⟨h1,h2⟩:=this;simp at h2;exact h2.symm
    subst this;exact⟨t,congrArg (fun j=>Value.int (a+j) t) (Int.mul_one _)⟩
  ·skip
   rw[rangeSize_one];have :a+((0:Nat):Int)* 1=a:=by simp
   rw[this];have :Builtin.Range.rangeSize a b 1-((0:Nat):Int)=Builtin.Range.rangeSize a b 1:=by simp
   rw[this];exact Heap.get?_push_size _ rfl
  ·cases ha;exact⟨bG.push S rfl s.toks,Nat.le_refl _⟩
  ·exact absurd (by simpa using ha.1) ha.2
 |bf d es m kvs g h0 nd hl rs sa=>
  have cI:=I0 g;obtain⟨ps,h1,h2,h3⟩:=fG rs;have D:∀h:Heap,h.get? d=some (cT es m)→h.DictAt (sk) d ps m:=fun h g=>⟨_,es,g,⟨rfl,rfl,rfl⟩,rfl,fun e he=>h3 e (by simpa using he),h1,by rw[←h2.keys];exact nd⟩
  refine wpAny_pyIter_dict (by simpa using h0) (D _ g) ⟨ai.fF S aH _,_,_,_,cJ (fun A hA=>Walks.dictKeys hA s.heap.objs.size d cI ps m) (fun i h st=>?_) ?_ ?_,⟨⟨_,Heap.get?_push_size _ rfl,rfl,rfl⟩,D _ (Heap.get?_push_of_some _ g)⟩,fun a ha=>?_,fun a ha=>?_⟩
  ·obtain⟨⟨o,ho,hc,hd⟩,_⟩:=st;exact⟨o,_,_,ho,hc,by decide,hd⟩
  ·simp[h2.length]
  ·rintro i x v hx ⟨k,y,hk,hv⟩ W' L;obtain⟨u,hu,hlen,_⟩:=h2.get hk;rw[List.getElem?_map,hu] at hx;cases hx;obtain⟨tk,Qm⟩:=Value.isStrOf_shape hv;exact⟨hlen,tk,Qm⟩
  ·cases ha;exact⟨bG.push S rfl s.toks,Nat.le_refl _⟩
  ·have :a=d:=by
    rcases bz ha.1 with h|h
    ·exact absurd h ha.2
    ·simpa using h
   subst this;exact sa.push _ s.toks
end
section
variable{n:Nat}{A:Around}{E:Value→Shared→Prop}{W W':Wd}{H H':AH}{s s':Shared}{sc:Scope}{env:ah}{e':Env}
def uo(W:Wd)(H:AH)(s:Shared)(back:Option (Nat×aE))(W₁:Wd)(H₁:AH)(s₁:Shared):Prop:=ai W H s aH W₁ H₁ s₁∧∀{X:Addr→Prop} {W':Wd} {H' Hf:AH} {s':Shared},ai W₁ H₁ s₁ X W' H' s'→(∀b k,W₁.own b=some k→¬X b)→ie back H'=some ((),Hf)→ai W H s X W' Hf s'
theorem uo.mk'{back:Option (Nat×aE)}{W₀ W₁:Wd}{H₀ H₁:AH}{s₀ s₁:Shared}(S:aG W H s)(P₀:ai W H s aH W₀ H₀ s₀)(L:Lock W₀ H₀ s₀ back H₁)(P₁:ai W₀ H₁ s₀ aH W₁ H₁ s₁):uo W H s back W₁ H₁ s₁:=by obtain PL:=L.post P₀.sim aH;refine⟨P₀.trans S (PL.trans P₀.sim P₁),fun{X W' H' Hf s'} Q hX hb=>?_⟩;obtain Q':=(P₁.wk fun a h=>h.elim).trans PL.sim Q;obtain Vy:=L.back P₀.sim Q' (fun b k hb=>hX b k (P₁.vK b k hb)) hb;exact(P₀.wk fun a h=>h.elim).trans S Vy
theorem k_{v:V}{x:Value}{kvs:List (Str×V)}{back:Option (Nat×aE)}(h:Ci v H=some ((kvs,back),H'))(S:aG W H s)(r:Rel W v x):
  Lock W H s back H'∧∃d es m,x=.ref d∧s.heap.get? d=some (cT es m)∧d≠sysModules∧(kvs.map (·.1)).Nodup∧kvs.length<ak∧Reld W kvs es.toList∧SrcAt W H' s d:=by
 cases v with
 |bf kvs=>refine jc h ?_;obtain⟨a,m,es,rfl,hz,h0,nd,hl,rs⟩:=r;exact⟨.inl ⟨rfl,rfl⟩,a,es,m,rfl,S.z _ _ hz,h0,nd,hl,rs,.z S hz (by intro y e;cases e)⟩
 |ref k=>
  refine bJ h fun o H₁ h1 k1=>?_
  obtain⟨ho,hn,rfl⟩:=bQ h1;obtain⟨a,rfl,ha⟩:=r;have O:=S.at ho ha
  have bT:=(c_ ho).1;cases o with
  |bf kvs=>
   refine bJ k1 fun u H₂ h2 k2=>?_
   have :=b8 h2;subst this;refine jc k2 ?_;obtain⟨m,es,g,h0,nd,hl,rs⟩:=O;exact⟨.inr ⟨k,_,a,rfl,ho,hn,ha,rfl⟩,a,es,m,rfl,g,h0,nd,hl,rs,.lock S bT ha g (by intro y e;cases e)⟩
  |_=>exact nE k1
 |_=>exact nE h
theorem mH{IA:Addr→Prop}{v1 v2:V}{a b:Value}{zK:Heap}{tk:Nat}(S:aG W H s)(CK:∀a,IA a→bG W s a)(ht:zK.get? s.heap.objs.size=some (nL #[a,b] 0))(hsz:zK.objs.size=s.heap.objs.size+1)
  (hk:∀c o,¬IA c→s.heap.get? c=some o→zK.get? c=some o)(ex:∀a,IA a→∃o vs,zK.get? a=some o∧o.data=.fields vs)(r1:Rel W v1 a)(r2:Rel W v2 b):
  ∃W',ai W H s IA W' H {s with heap:=zK,toks:=tk}∧(∀a,IA a→bG W' {s with heap:=zK,toks:=tk} a)∧Rel W' (.tup [v1,v2]) (.ref s.heap.objs.size):=by
 obtain P₁:=ai.push S aH (nL #[a,b] 0) rfl tk;obtain lt:∀c,IA c→c<s.heap.objs.size:=fun c hc=>by obtain⟨_,o,_,ho,_⟩:=CK c hc;exact Heap.lt_size ho
 obtain hF:=fun c hc=>((CK c hc).post P₁ (fun h=>h)).1
 obtain P₂:ai (W.add s.heap.objs.size (nL #[a,b] 0)) H {s with heap:=s.heap.push (nL #[a,b] 0),toks:=tk} IA (W.add s.heap.objs.size (nL #[a,b] 0)) H {s with heap:=zK,toks:=tk}:=by
  refine ai.free P₁.sim hF (fun c o hc ho=>?_) (by simp only[hsz];exact Nat.le_of_eq (Heap.size_push ..)) rfl rfl;by_cases i6:c=s.heap.objs.size
  ·subst i6;rw[Heap.get?_push_size _ rfl] at ho;obtain rfl:=Option.some.inj ho;exact ht
  ·refine hk c o hc ?_
   rwa [Heap.get?_push_ne _ _ _ i6] at ho
 refine⟨_,(P₁.wk fun d h=>h.elim).trans S P₂,fun c hc=>⟨hF c hc,ex c hc⟩,?_⟩;exact⟨_,_,_,rfl,Wd.aZ ..,by show 2<ak;decide,by exact⟨r1.mono P₁.le,r2.mono P₁.le,trivial⟩⟩
end
section
variable{n:Nat}{A:Around}{E:Value→Shared→Prop}{W W':Wd}{H H':AH}{s s':Shared}{sc:Scope}{env:ah}{e':Env}
theorem uq{elts:List Expr}{x1}{pos:Pos}{W₀:Wd}{e it:Addr}{fp:List Addr}{m:Nat}{Pv:Nat→Value→Prop}{St:Nat→Heap→Prop}(D:∀A:Around,A.handled=none→Draws G.prog G.w A it fp m Pv St)
  (Qn:e≠it)(NX:e∉fp)(S7:it∈fp)(B6:∀i h,St i h→∃o vs,h.get? it=some o∧o.data=.fields vs){vs:List V}(hm:vs.length=m)(kY:∀i x v,vs[i]?=some x→Pv i v→∀W,W₀.Le W→Rel W x v):
  ∀(k i:Nat),m-i=k→i≤m→gR (.Tuple elts x1 pos) (.ref e) (fun a=>a=e∨a=it) (fun a=>a∈fp∧a≠it) W₀ (aR i (vs.drop i)) (fun h=>(∃old,IsEnum h e it i old)∧St i h):=by
 have nW:∀i:Nat,dw (fun a=>(a=e∨a=it)∨a∈fp∧a≠it) (fun h=>(∃old,IsEnum h e it i old)∧St i h):=fun i h h' ⟨⟨old,he⟩,st⟩ hk=>⟨⟨old,hk e _ (.inl (.inl rfl)) he⟩,(D {} rfl).frame i h h' st fun b hb o e=>hk b o (by
  by_cases zI:b=it
  ·exact .inl (.inr zI)
  ·exact .inr ⟨hb,zI⟩) e⟩
 intro k;induction k with
 |zero=>
  intro i hk hi;have CJ:i=m:=by exact aQ (nat_lit 0x102509234028104100113) ae hi (Ln.aY (m) (i)) hk
  subst CJ;rw[List.drop_of_length_le (by exact aA (nat_lit 68737310977) ae hm)];intro A E Q s hA ⟨⟨old,he⟩,st⟩ hQ;exact bD (wpAny_pyNext_enum_endD (D A.in1 hA) he st fun h' hx hsz=>hQ h' s.toks hsz fun b o hb e=>hx b o (fun h=>hb (.inr h)) e)
 |succ k ih=>
  intro i hk hi;have bT:i<vs.length:=by exact vj (nat_lit 0x24111918031323134082103) ae (Nat.sub_add_cancel (aA (nat_lit 68737302785) ae hi:i≤m)) hm hk
  refine(List.drop_eq_getElem_cons bT)▸?_;refine⟨_,nW (i+1),by obtain this:=ih (i+1) (vj (nat_lit 0x1225194828304340834191802540830131948282115) ae (Nat.sub_add_cancel (aQ (nat_lit 0x21908012121101102) ae bT hm:i+1≤m)) (Ln.aY (m) (i)) hk (Nat.sub_add_cancel (aA (nat_lit 68737302785) ae hi:i≤m)) (Ln.aY (m) (i+1))) (aQ (nat_lit 0x21908012121101102) ae bT hm);exact this,fun{A E H W s} hL S CK hA ⟨⟨old,he⟩,st⟩=>?_⟩;refine wpAny_pyNext_enum_itemD (D A.in1 hA) he st (by simp_all) Qn NX fun x h' tk hP ho GN hT hsz Fp=>⟨_,rfl,fun{E'}=>?_⟩
  refine wpAny_letOwnedTupleGo_enum ho fun zK zL pY=>?_
  have GO:=Heap.lt_size he;have Lc:St (i+1) zK:=(D {} rfl).frame _ _ _ GN fun b hb o y=>pY.extBut b o (fun q=>NX (q▸hb)) y
  obtain⟨W',P,Qo,r⟩:=mH (v1:=.int (i:Int)) S CK (pY.extBut _ _ (Nat.ne_of_gt GO) hT) (by simp only[pY.1,hsz])
   (fun c o hc I1=>pY.extBut _ _ (fun h=>hc (.inl h)) (Fp c o (fun h=>hc (.inl h)) (fun h=>hc (.inr h)) I1))
   (fun a ha=>by
    rcases ha with rfl|rfl
    ·exact⟨_,_,zL,rfl⟩
    ·exact B6 _ _ Lc) ⟨_,rfl⟩ (kY i _ x (List.getElem?_eq_getElem bT) hP W hL)
  exact⟨W',P,Qo,r,⟨x,by exact zL⟩,Lc⟩
theorem jS{elts:List Expr}{x1}{pos:Pos}{W₀:Wd}{e it:Addr}{fp:List Addr}{m:Nat}{Pv:Nat→Value→Prop}{St:Nat→Heap→Prop}(D:∀A:Around,A.handled=none→Draws G.prog G.w A it fp m Pv St)
  (Qn:e≠it)(NX:e∉fp)(S7:it∈fp)(B6:∀i h,St i h→∃o vs,h.get? it=some o∧o.data=.fields vs){vs:List V}(hm:vs.length=m)(kY:∀i x v,vs[i]?=some x→Pv i v→∀W,W₀.Le W→Rel W x v):
  Iter (.Tuple elts x1 pos) (.ref e) (fun a=>a=e∨a=it) (fun a=>a∈fp∧a≠it) W₀ (aR 0 vs) (fun h=>(∃old,IsEnum h e it 0 old)∧St 0 h):=
 ⟨by obtain this:=uq D Qn NX S7 B6 hm kY m 0 rfl (by simp_all);exact this,
 fun h h' ⟨⟨old,he⟩,st⟩ hk=>⟨⟨old,hk e _ (.inl (.inl rfl)) he⟩,(D {} rfl).frame 0 h h' st fun b hb o e=>hk b o (by
  by_cases zI:b=it
  ·exact .inl (.inr zI)
  ·exact .inr ⟨hb,zI⟩) e⟩,fun hA ⟨⟨old,he⟩,st⟩ hQ=>wpAny_pyIter_enum he hQ⟩
theorem rO{elts:List Expr}{x1}{pos:Pos}{W₀:Wd}{it d:Addr}{ps:List (Str×Value)}{kvs:List (Str×V)}{ep:Nat}(cI:d≠it)(rp:dS W₀ kvs ps):
  ∀(k i:Nat),ps.length-i=k→i≤ps.length→gR (.Tuple elts x1 pos) (.ref it) (fun a=>a=it) (fun a=>a=d) W₀ ((kvs.map fun kv=>.tup [.str kv.1,kv.2]).drop i)
   (fun h=>(∃ok ov,IsItemIter h it d i ps.length ep ok ov)∧h.DictAt (sk) d ps ep):=by
 obtain nW:∀i:Nat,dw (fun a=>a=it∨a=d) (fun h=>(∃ok ov,IsItemIter h it d i ps.length ep ok ov)∧h.DictAt (sk) d ps ep):=fun i h h' ⟨⟨ok,ov,he⟩,st⟩ hk=>⟨⟨ok,ov,hk it _ (.inl rfl) he⟩,st.at' fun o e=>hk d o (.inr rfl) e⟩
 have hlen:=rp.length;intro k;induction k with
 |zero=>
  intro i hk hi;have CJ:i=ps.length:=by exact aQ (nat_lit 0x102509234028104100113) ae hi (Ln.aY (ps.length) (i)) hk
  subst CJ;rw[List.drop_of_length_le (by simp;exact aA (nat_lit 68737310977) ae hlen)];intro A E Q s hA ⟨⟨ok,ov,he⟩,st⟩ hQ;exact bD (wpAny_pyNext_items_end hA he st (by simp) fun h' hx hsz=>hQ h' s.toks hsz fun b o hb e=>hx b o hb e)
 |succ k ih=>
  intro i hk hi;have bT:i<(kvs.map fun kv=>V.tup [.str kv.1,kv.2]).length:=by simp;exact vj (nat_lit 0x24111918031323134082103) ae (Nat.sub_add_cancel (aA (nat_lit 68737302785) ae hi:i≤ps.length)) hlen hk
  simp only[List.drop_eq_getElem_cons bT];refine⟨_,nW (i+1),ih (i+1) (by omega) (eO (nat_lit 0x3192801191803132082102) ae (Nat.sub_add_cancel (aA (nat_lit 68737302785) ae hi:i≤ps.length)) hk),fun{A E H W s} hL S CK hA ⟨⟨ok,ov,he⟩,st⟩=>?_⟩;obtain⟨⟨k0,y⟩,hx⟩:∃p,ps[i]?=some p:=⟨ps[i]'(by exact eO (nat_lit 0x3211191803132082102) ae (Nat.sub_add_cancel (aA (nat_lit 68737302785) ae hi:i≤ps.length)) hk),List.getElem?_eq_getElem (by exact eO (nat_lit 0x3211191803132082102) ae (Nat.sub_add_cancel (aA (nat_lit 68737302785) ae hi:i≤ps.length)) hk)⟩;refine(rp.get hx).elim fun u BY=>?_;obtain hu:=BY.1;obtain hl:=BY.2.1;obtain ru:=BY.2.2
  refine wpAny_pyNext_items_item he st hx fun key h' Qp ho hT hsz Fp=>⟨_,rfl,fun{E'}=>?_⟩
  refine wpAny_letOwnedTupleGo_items ho fun zK zL pY=>?_
  obtain GO:=Heap.lt_size he;refine(Value.isStrOf_shape Qp).elim fun tk Qm=>?_
  obtain ev:(kvs.map fun kv=>V.tup [.str kv.1,kv.2])[i]=.tup [.str k0,u]:=by
   obtain h1:(kvs.map fun kv=>V.tup [.str kv.1,kv.2])[i]?=some (.tup [.str k0,u]):=by rw[List.getElem?_map,hu];rfl
   rw[List.getElem?_eq_getElem bT] at h1;exact Option.some.inj h1
  rw[ev]
  obtain⟨W',P,Qo,r⟩:=mH (v1:=.str k0) S CK (pY.extBut _ _ (Nat.ne_of_gt GO) hT) (by rw[pY.1,hsz])
   (fun c o hc I1=>pY.extBut _ _ hc (Fp c o hc I1)) (fun a ha=>by cases ha;exact⟨_,_,zL,rfl⟩) (⟨hl,tk,Qm⟩) (ru.mono hL)
  refine⟨W',P,Qo,r,⟨_,_,zL⟩,st.at' fun o e=>pY.extBut _ _ cI (Fp d o cI e)⟩
end
section
variable{A:Around}{E:Value→Shared→Prop}{s:Shared}
theorem jk{it t:Addr}{i:Nat}{items:Array Value}{Q:Value→Shared→Prop}(hh:A.handled=none)(hit:s.heap.IsTupleIter it t i)(ht:s.heap.IsTuple t items)
  (hQ:∀x h',items[i]?=some x→h'.IsTupleIter it t (i+1)→Heap.SameBut it s.heap h'→Q x {s with heap:=h'})
  (hE:∀h' e,items[i]?=none→Heap.ExtBut it s.heap h'→(∃o,h'.get? e=some o∧o.cls=.type "StopIteration")→E (.ref e) {s with heap:=h'}):
  wpAny gM A (Builtin.SmallTypes.nextOf (.ref it)) Q E s:=by
 obtain⟨o,ho,hc,hd⟩:=id hit;obtain⟨ol,GP,_,nl,Vz⟩:=ht
 refine wpAny_bind (wpAny_callSpecial?_slot hit.typeIs F.slot_tuple_iterator_next
  (wpAny_call_entry F.slot_tuple_iterator_next hit.typeIs F.entry_tuple_iterator_next ?_ (F.args_tuple_iterator_next_1 _)))
 show wpAny _ _ (field (.ref it) 0>>=_) _ _ s;refine wpAny_bind (wpAny_field ho hd (x:=.ref t) rfl ?_);refine wpAny_bind (wpAny_field ho hd rfl ?_);refine wpAny_bind (wpAny_seqItems GP Vz ?_);induction hx:items[i]? with
 |some x=>simp only[Int.toNat_natCast,hx];refine wpAny_bind (wpAny_setField ho hd (Nat.le_refl _) (wpAny_pure ⟨x,rfl,wpAny_pure (hQ _ _ hx ?_ (Heap.SameBut.update ..))⟩));exact⟨_,Heap.get?_update_self _ ho (Obj.isFreed_of_fields (Obj.data_mapFields hd _)),(Obj.cls_mapFields ..).trans hc,by rw[Obj.data_mapFields hd];rfl⟩|none=>
  simp only[Int.toNat_natCast,hx];refine wpAny_bind (wpAny_rule (wpAny_bind (wpAny_setField ho hd (by simp) ?_)));refine wpAny_bind ?_;refine wpAny_bind (wpAny_newObj_type ?_ (Ln.go (nat_lit 72057596169224448) [] ae));refine wpAny_bind (wpAny_of_eq (a:=Value.none) (by first|rfl|(rfl)) ?_);refine wpAny_newObj_type ?_ (by size_fits);refine wpAny_bind (wpAny_handled ?_)
  first|rw[show A.in1.handled=none from hh]|rw[hh]
  refine wpAny_bind (wpAny_pure (wpAny_throw ?_));exact hE _ _ hx (((Heap.SameBut.update ..).extBut.push _).push _) ⟨_,Heap.get?_push_size _ rfl,rfl⟩
theorem rP(hh:A.handled=none)(it l:Addr)(cI:l≠it)(items:Array Value):
  Draws G.prog G.w A it [it,l] items.size (fun i v=>items[i]?=some v) (fun i h=>h.IsTupleIter it l i∧h.IsTuple l items) where
 live:=fun c c st=>let ⟨o,ho,_⟩:=st.1;⟨o,ho⟩
 frame:=fun c c c st hk=>⟨st.1.at fun o e=>hk it (by simp) o e,st.2.at fun o e=>hk l (by simp) o e⟩
 item:=fun i s Q E hi st hQ=>jk hh st.1 st.2 (fun x h' hx Qq S8=>hQ _ h' s.toks hx ⟨Qq,let ⟨o,ho,r⟩:=st.2;⟨o,S8.extBut l o cI ho,r⟩⟩ S8) fun h' e hx=>by rw[Array.getElem?_eq_getElem hi] at hx;exact nomatch hx
 done:=fun s Q E st hE=>jk hh st.1 st.2 (fun x h' hx=>by simp at hx) fun h' e c a b=>hE h' e a b
theorem nX{M:Model}{g:List (Code×Pos)→Bool}{Q:Bool→Shared→Prop}(h:∀b,Q b s):wpAny M A stack (fun st s'=>wpAny M A (Pure.pure (g st)) Q E s') E s:=wpAny_stack_any fun a=>wpAny_pure (h _)
open AutoSeq1 (wpAny_loadPart') in
theorem gS(l:Addr)(items:Array Value)(n:Nat):
  Meets (Builtin.«enumerate.__new__» ⟨[.type "enumerate",.ref l],[]⟩) (fun a R s=>s.heap.get? l=some (nL items n)∧
   R (.ok (.ret (.ref (s.heap.push {cls:=.type "tuple_iterator",data:=.fields #[.ref l,.int 0 0]}).objs.size)))
    {s with heap:=(s.heap.push {cls:=.type "tuple_iterator",data:=.fields #[.ref l,.int 0 0]}).push {cls:=.type "enumerate",data:=.fields #[.none,.bool false,.ref s.heap.objs.size,rawInt 0,.none,.none]}}):=
 .of_wp fun prog w A R s h=>by
  obtain⟨hp,g,d,tk,os⟩:=s;obtain⟨hl,h⟩:=h;have Gg:=sub_enumerate
  have hL:Heap.IsTuple (Shared.heap ⟨hp,g,d,tk,os⟩) l items:=⟨_,hl,rfl,n,rfl⟩
  wp_walk using wpAny_loadPart' hl
  refine nX fun b=>?_
  cases b<;>(wp_walk using wpAny_loadPart' hl,wpAny_pyIter_tuple hL)<;>exact⟨_,rfl,h⟩
theorem gT{l:Addr}{items:Array Value}{n:Nat}{Q:Value→Shared→Prop}(hl:s.heap.get? l=some (nL items n))
  (h:∀h',IsEnum h' (s.heap.objs.size+1) s.heap.objs.size 0 .none→h'.IsTupleIter s.heap.objs.size l 0→h'.objs.size=s.heap.objs.size+2→(∀b o,s.heap.get? b=some o→h'.get? b=some o)→Q (.ref (s.heap.objs.size+1)) {s with heap:=h'}):
  wpAny gM A (call (.type "enumerate") [.ref l]) Q E s:=by
 refine callType_new F.called_enumerate rfl (F.typeCall_enumerate_1 _) (F.newCall_enumerate_1 _) (fun obj=>F.args_object_init_2 obj _) F.entry_enumerate_new
  (gS l items n) ⟨hl,?_⟩
 obtain hz:=Heap.size_push ..;rw[hz]
 obtain he:IsEnum ((s.heap.push {cls:=.type "tuple_iterator",data:=.fields #[.ref l,.int 0 0]}).push
   {cls:=.type "enumerate",data:=.fields #[.none,.bool false,.ref s.heap.objs.size,rawInt 0,.none,.none]}) (s.heap.objs.size+1) s.heap.objs.size 0 .none:=by
  obtain this:=Heap.get?_push_size (s.heap.push {cls:=.type "tuple_iterator",data:=.fields #[.ref l,.int 0 0]})
   (o:={cls:=.type "enumerate",data:=.fields #[.none,.bool false,.ref s.heap.objs.size,rawInt 0,.none,.none]}) rfl
  rw[hz] at this;exact this
 exact⟨⟨_,he,rfl⟩,h _ he ⟨_,Heap.get?_push_of_some _ (Heap.get?_push_size _ rfl),rfl,rfl⟩ (by rw[Heap.size_push,hz]) fun b o x=>Heap.get?_push_of_some _ (Heap.get?_push_of_some _ x)⟩
end
section
variable{n:Nat}{A:Around}{E:Value→Shared→Prop}{W W':Wd}{H H':AH}{s s':Shared}{sc:Scope}{env:ah}{e':Env}
theorem ur(S:aG W H s){h':Heap}(hsz:h'.objs.size=s.heap.objs.size+2)(hk:∀b o,s.heap.get? b=some o→h'.get? b=some o):ai W H s aH W H {s with heap:=h'}:=ai.grow S aH hk (aA (nat_lit 17671936553217) ae hsz) rfl rfl (fun a a h=>h) (fun a a h=>.inl h) rfl rfl
theorem fK(S:aG W H s){h':Heap}{a:Addr}{o:Obj}{vs:Array Value}(ha:s.heap.objs.size≤a)(ho:h'.get? a=some o)(hd:o.data=.fields vs):bG W {s with heap:=h'} a:=⟨⟨S.cH ha,S.gJ ha,S.fj ha⟩,o,vs,ho,hd⟩
theorem SrcAt.old{a:Addr}(x:SrcAt W H s a){h':Heap}(hk:∀b o,s.heap.get? b=some o→h'.get? b=some o):SrcAt W H {s with heap:=h'} a:=by obtain⟨⟨q,hq,hd⟩,h⟩:=x;exact⟨⟨q,hk _ _ hq,hd⟩,h⟩
theorem CO{elts:List Expr}{x1}{pos:Pos}{x:Value}{xs:List V}(V:rM W H s x xs)(S:aG W H s)(hr:∀r a b t u v,x=.ref r→¬IsRange s.heap r a b 1 t u v)(hd:∀d es m,x=.ref d→s.heap.get? d≠some (cT es m)){Q:Value→Shared→Prop}
  (k:∀y s₁,ai W H s aH W H s₁→kE (.Tuple elts x1 pos) y W H s₁ s.heap.objs.size (aR 0 xs)→(∀{A:Around} {E:Value→Shared→Prop} {Q:Value→Shared→Prop},Q y s₁→wpAny gM A (pyIter y) Q E s₁)→Q y s₁):
  wpAny gM A (PySem.call (.type "enumerate") [x]) Q E s:=by
 obtain zM:s.heap.objs.size+1≠s.heap.objs.size:=by exact aJ (nat_lit 0x90961019082101) ae
 obtain I0:∀{a:Addr} {o:Obj},s.heap.get? a=some o→a<s.heap.objs.size:=fun h=>Heap.lt_size h
 induction V with
 |lst l ys m xs g hl rs sa=>
  have bT:=I0 g;refine call_enumerate_list (nM g) fun h' he hit hsz hk=>?_
  obtain⟨oi,Ld,_,zN⟩:=id hit;refine k _ _ (ur S hsz hk) ⟨_,_,_,jS (fun A hA=>Draws.list hA s.heap.objs.size l (Nat.ne_of_lt bT) ys) zM ?_ ?_ (fun i h st=>let ⟨⟨o,ho,_,hd⟩,_⟩:=st;⟨o,_,ho,hd⟩) ?_ ?_,⟨⟨_,he⟩,hit,(nM g).at fun o e=>hk _ _ e⟩,fun a ha=>?_,fun a ha=>?_⟩ fun hQ=>wpAny_pyIter_enum he hQ
  ·intro hm;rcases bz hm with h|h
   ·exact zM h
   ·have h:=List.mem_singleton.mp h;exact Nat.not_lt_of_le (Nat.le_succ _) (h▸bT)
  ·simp
  ·have :=rs.length;exact this
  ·intro i x v hx hv W' L;obtain⟨y,hy,r⟩:=rs.get hx;rw[Array.getElem?_toList] at hy;rw[hy] at hv;cases hv;exact r.mono L
  ·rcases ha with rfl|rfl
   ·exact⟨fK S (Nat.le_succ _) he rfl,Nat.le_succ _⟩
   ·exact⟨fK S (Nat.le_refl _) Ld zN,Nat.le_refl _⟩
  ·have :a=l:=by
    rcases bz ha.1 with h|h
    ·exact absurd h ha.2
    ·simpa using h
   subst this;exact sa.old hk
 |tup l ys m xs g hl rs sa=>
  have bT:=I0 g;refine gT g fun h' he hit hsz hk=>?_
  obtain⟨oi,Ld,_,zN⟩:=id hit;refine k _ _ (ur S hsz hk) ⟨_,_,_,jS (fun A hA=>rP hA s.heap.objs.size l (Nat.ne_of_lt bT) ys) zM ?_ ?_ (fun i h st=>let ⟨⟨o,ho,_,hd⟩,_⟩:=st;⟨o,_,ho,hd⟩) ?_ ?_,⟨⟨_,he⟩,hit,(B4 g).at fun o e=>hk _ _ e⟩,fun a ha=>?_,fun a ha=>?_⟩ fun hQ=>wpAny_pyIter_enum he hQ
  ·intro hm;rcases bz hm with h|h
   ·exact zM h
   ·have h:=List.mem_singleton.mp h;exact Nat.not_lt_of_le (Nat.le_succ _) (h▸bT)
  ·simp
  ·have :=rs.length;exact this
  ·intro i x v hx hv W' L;obtain⟨y,hy,r⟩:=rs.get hx;rw[Array.getElem?_toList] at hy;rw[hy] at hv;cases hv;exact r.mono L
  ·rcases ha with rfl|rfl
   ·exact⟨fK S (Nat.le_succ _) he rfl,Nat.le_succ _⟩
   ·exact⟨fK S (Nat.le_refl _) Ld zN,Nat.le_refl _⟩
  ·have :a=l:=by
    rcases bz ha.1 with h|h
    ·exact absurd h ha.2
    ·simpa using h
   subst this;exact sa.old hk
 |str y tk hl=>
  have kY:∀(i:Nat) (x:V) (v:Value),(y.cps.toList.map fun c=>V.str ⟨#[c]⟩)[i]?=some x→(∃c u,y.cps[i]?=some c∧v=.str ⟨#[c]⟩ u)→∀W',W.Le W'→Rel W' x v:=by rintro i x v hx ⟨c,u,hc,rfl⟩ W' L;rw[List.getElem?_map,Array.getElem?_toList,hc] at hx;obtain rfl:=Option.some.inj hx;exact⟨by show 1<ak;decide,u,rfl⟩
  refine call_enumerate_str fun h' he hit hsz hk=>?_
  obtain⟨oi,Ld,_,zN⟩:=id hit
  obtain main:∀(ty:String),(∀A:Around,A.handled=none→Draws G.prog G.w A s.heap.objs.size [s.heap.objs.size] y.cps.size (fun i v=>∃c u,y.cps[i]?=some c∧v=.str ⟨#[c]⟩ u) (fun i h=>h.IsStrIter s.heap.objs.size ty y tk i))→
    h'.IsStrIter s.heap.objs.size ty y tk 0→Q (.ref (s.heap.objs.size+1)) {s with heap:=h'}:=by
   intro ty D hit;refine k _ _ (ur S hsz hk) ⟨_,_,_,jS D zM (by simp) (by simp) (fun i h st=>let ⟨o,ho,_,hd⟩:=st;⟨o,_,ho,hd⟩) (by simp) kY,⟨⟨_,he⟩,hit⟩,fun a ha=>?_,fun a ha=>?_⟩ fun hQ=>wpAny_pyIter_enum he hQ
   ·rcases ha with rfl|rfl
    ·exact⟨fK S (Nat.le_succ _) he rfl,Nat.le_succ _⟩
    ·exact⟨fK S (Nat.le_refl _) Ld zN,Nat.le_refl _⟩
   ·exact absurd (by simpa using ha.1) ha.2
  unfold strIterType at hit;cases ha:y.cps.all (·<128)
  ·rw[ha] at hit;exact main _ (fun A hA=>Draws.strWide hA _ y tk) hit
  ·rw[ha] at hit;exact main _ (fun A hA=>Draws.strAscii hA _ y tk) hit
 |nK r a b tk u v g hs=>exact absurd g (hr _ _ _ _ _ _ rfl)|bf d es m kvs g h0 nd hl rs sa=>exact absurd g (hd _ _ _ rfl)
end
section
variable{n:Nat}{A:Around}{E:Value→Shared→Prop}{W W':Wd}{H H':AH}{s s':Shared}{sc:Scope}{env:ah}{e':Env}
theorem kE.le{t:Expr}{it:Value}{n0 n1:Nat}{xs:List V}(g:kE t it W H s n0 xs)(h:n1≤n0):kE t it W H s n1 xs:=by obtain⟨IA,D,P,h1,h2,h3,h4⟩:=g;exact⟨IA,D,P,h1,h2,fun a ha=>⟨(h3 a ha).1,Nat.le_trans h (h3 a ha).2⟩,h4⟩
abbrev Lf(A:Around)(W:Wd)(H:AH)(s:Shared)(t:Expr)(xs:List V)(back:Option (Nat×aE))(H':AH)(x:Value)(s₁:Shared):Prop:=∀{E₂:Value→Shared→Prop},wpAny gM A (pyIter x) (fun i s₂=>∃W₂,uo W H s back W₂ H' s₂∧kE t i W₂ H' s₂ s.heap.objs.size xs) E₂ s₁
theorem fM{d:Addr}{es:Array DictEntry}{m:Nat}(g:s.heap.get? d=some (cT es m)):∀a,Value.ref d=.ref a→∃ob,s.heap.get? a=some ob∧ob.dict=none:=fun a e=>by obtain rfl:=PySem.Value.ref.inj e;exact⟨_,g,rfl⟩
theorem cD{v:V}{zs:List Value}(h:ay W [v] zs):∃z,zs=[z]∧Rel W v z:=by
 match zs,h with |[],h=>exact False.elim h|[z],h=>exact⟨z,rfl,h.1⟩|aM::bL::gn,h=>exact h.2.elim
theorem zO{u v:V}{zs:List Value}(h:ay W [u,v] zs):∃y z,zs=[y,z]∧Rel W u y∧Rel W v z:=by
 match zs,h with |[],h=>exact False.elim h|[z],h=>exact h.2.elim|[y,z],h=>exact⟨y,z,rfl,h.1,h.2.1⟩|aM::bL::gn::tR,h=>exact h.2.2.elim
theorem mJ{zs:List Value}(h:ay W [] zs):zs=[]:=by
 induction zs with |nil=>rfl|cons _ _=>exact False.elim h
theorem oT{h:Heap}{d:Addr}{es:Array DictEntry}{m:Nat}{kvs:List (Str×V)}(g:h.get? d=some (cT es m))(nd:(kvs.map (·.1)).Nodup)(rs:Reld W kvs es.toList):
  ∃ps,dS W kvs ps∧∀h':Heap,h'.get? d=some (cT es m)→h'.DictAt (sk) d ps m:=by
 refine(fG rs).elim fun ps VA=>?_;refine VA.elim fun h1 S9=>?_;obtain h2:=S9.1;obtain h3:=S9.2
 exact⟨ps,h2,fun h' g=>⟨_,es,g,⟨rfl,rfl,rfl⟩,rfl,fun e he=>h3 e (by simpa using he),h1,by rw[←h2.keys];exact nd⟩⟩
theorem zQ{elts:List Expr}{x1}{pos:Pos}{d:Addr}{es:Array DictEntry}{m:Nat}{kvs:List (Str×V)}(S:aG W H s)(g:s.heap.get? d=some (cT es m))(h0:d≠sysModules)(nd:(kvs.map (·.1)).Nodup)(rs:Reld W kvs es.toList)(sa:SrcAt W H s d):
  wpAny gM A (PySem.call (.builtin "dict.items") [.ref d]) (fun x s₁=>∀{E₂:Value→Shared→Prop},wpAny gM A (pyIter x) (fun i s₂=>ai W H s aH W H s₂∧kE (.Tuple elts x1 pos) i W H s₂ s.heap.objs.size (kvs.map fun kv=>.tup [.str kv.1,kv.2])) E₂ s₁) E s:=by
 refine(oT g nd rs).elim fun ps z=>z.elim fun rp D=>?_
 obtain Qs:(d==sysModules)=false:=by simpa using h0
 refine call_meetsIn F.slot_dict_items (⟨_,g,rfl⟩) F.entry_dict_items (F.args_dict_items_1 _) (meets_dict_items (sk) d Qs) ⟨⟨ps,(D _ g).dictOf⟩,?_⟩;intro E₂;obtain P₁:=ai.fF S aH {cls:=.type "dict_items",data:=.fields #[.ref d]};obtain g1:=Heap.get?_push_of_some {cls:=.type "dict_items",data:=.fields #[.ref d]} g;obtain P₂:=ai.fF P₁.sim aH {cls:=.type "dict_itemiterator",data:=.fields #[.none,.bool false,.ref d,.int 0 0,.int ps.length 0,.int m 0,.none,.none]};obtain Lg:=P₁.size;obtain cI:=Nat.ne_of_lt (Nat.lt_of_lt_of_le (Heap.lt_size g) Lg);refine wpAny_pyIter_items ⟨_,Heap.get?_push_size _ rfl,rfl,rfl⟩ (D _ g1) ⟨P₁.trans S P₂,_,_,_,⟨rO cI rp ps.length 0 rfl (aJ (nat_lit 590080) ae),fun h h' ⟨⟨ok,ov,he⟩,st⟩ hk=>⟨⟨ok,ov,hk _ _ (.inl rfl) he⟩,st.at' fun o e=>hk d o (.inr rfl) e⟩,fun hA ⟨⟨ok,ov,he⟩,st⟩ hQ=>kcp_self he hQ⟩,⟨⟨.none,.none,Heap.get?_push_size _ rfl⟩,D _ (Heap.get?_push_of_some _ g1)⟩,fun a ha=>?_,fun a ha=>?_⟩
 ·subst ha;exact⟨bG.push P₁.sim rfl _,Lg⟩
 ·cases ha;exact(sa.push _ _).push _ _
theorem xD{t:Expr}{d:Addr}{es:Array DictEntry}{m:Nat}{kvs:List (Str×V)}(S:aG W H s)(g:s.heap.get? d=some (cT es m))(h0:d≠sysModules)(nd:(kvs.map (·.1)).Nodup)(rs:Reld W kvs es.toList)(sa:SrcAt W H s d):
  wpAny gM A (PySem.call (.builtin "dict.values") [.ref d]) (fun x s₁=>∀{E₂:Value→Shared→Prop},wpAny gM A (pyIter x) (fun i s₂=>ai W H s aH W H s₂∧kE t i W H s₂ s.heap.objs.size (kvs.map (·.2))) E₂ s₁) E s:=by
 refine(oT g nd rs).elim fun ps z=>z.elim fun rp D=>?_
 obtain Qs:(d==sysModules)=false:=by simpa using h0
 refine call_meetsIn F.slot_dict_values (⟨_,g,rfl⟩) F.entry_dict_values (F.args_dict_values_1 _) (meets_dict_values (sk) d Qs) ⟨⟨ps,(D _ g).dictOf⟩,?_⟩;intro E₂;obtain P₁:=ai.fF S aH {cls:=.type "dict_values",data:=.fields #[.ref d]};obtain g1:=Heap.get?_push_of_some {cls:=.type "dict_values",data:=.fields #[.ref d]} g;obtain P₂:=ai.fF P₁.sim aH {cls:=.type "dict_valueiterator",data:=.fields #[.ref d,.int 0 0,.int ps.length 0,.int m 0]};obtain Lg:=P₁.size;obtain cI:=Nat.ne_of_lt (Nat.lt_of_lt_of_le (Heap.lt_size g) Lg);refine wpAny_pyIter_values ⟨_,Heap.get?_push_size _ rfl,rfl,rfl⟩ (D _ g1) ⟨P₁.trans S P₂,_,_,_,cJ (fun A hA=>Walks.dictValues hA _ d cI ps m) (fun i h st=>?_) ?_ ?_,⟨⟨_,Heap.get?_push_size _ rfl,rfl,rfl⟩,D _ (Heap.get?_push_of_some _ g1)⟩,fun a ha=>?_,fun a ha=>?_⟩
 ·obtain VB:=st.1;refine VB.elim fun o z=>z.elim fun ho z=>z.elim fun hc hd=>?_
  exact⟨o,_,_,ho,hc,by decide,hd⟩
 ·simp[rp.length]
 ·rintro i x v hx ⟨k,hk⟩ W' L;obtain⟨u,hu,hlen,ru⟩:=rp.get hk;rw[List.getElem?_map,hu] at hx;obtain rfl:=Option.some.inj hx;exact ru.mono L
 ·subst ha;exact⟨bG.push P₁.sim rfl _,Lg⟩
 ·have :a=d:=by
   rcases bz ha.1 with h|h
   ·exact absurd h ha.2
   ·simpa using h
  cases this;exact(sa.push _ _).push _ _
theorem pZ{v:V}{x:Value}{ys:List V}{back:Option (Nat×aE)}(h:srcOf v H=some ((ys,back),H'))(hc:enumSrc v back=true)(S:aG W H s)(r:Rel W v x):
  (∀r a b t u v',x=.ref r→¬IsRange s.heap r a b 1 t u v')∧(∀d es m,x=.ref d→s.heap.get? d≠some (cT es m)):=by
 induction v using V.casesOn with
 |lst vs=>
  obtain⟨l,m,ys,rfl,z,_⟩:=r;have g:=S.z _ _ z
  exact⟨fun r a b t u v' e hr=>(by cases e;unfold IsRange at hr;rw[g] at hr;simp at hr),fun d es m e hr=>(by cases e;rw[g] at hr;simp at hr)⟩
 |tup vs=>
  obtain⟨l,m,ys,rfl,z,_⟩:=r;have g:=S.z _ _ z
  exact⟨fun r a b t u v' e hr=>(by cases e;unfold IsRange at hr;rw[g] at hr;simp at hr),fun d es m e hr=>(by cases e;rw[g] at hr;simp at hr)⟩
 |str y=>obtain⟨_,t,rfl⟩:=r;exact⟨fun r a b t u v' e=>(nomatch e),fun d es m e=>(nomatch e)⟩
 |ref k=>
  obtain⟨a,rfl,ha⟩:=r;refine bJ h fun o H₅ g1 g2=>?_
  obtain⟨ho,hn,rfl⟩:=bQ g1;have O:=S.at ho ha
  induction o with
  |lst vs=>obtain⟨m,ys,g,_⟩:=O;exact⟨fun r a b t u v' e hr=>(by obtain rfl:=PySem.Value.ref.inj e;unfold IsRange at hr;rw[g] at hr;simp at hr),fun d es m e hr=>(by obtain rfl:=PySem.Value.ref.inj e;rw[g] at hr;simp at hr)⟩
  |bf vs=>
   refine bJ g2 fun u H₆ g3 g4=>?_
   obtain e:=(aW g4).1;obtain⟨rfl,rfl⟩:=Prod.mk.inj e;exact nomatch (show false=true from hc)
  |_=>exact nE g2
 |_=>exact bE hc
end
end Mine
end
noncomputable section
open PySem PySem.W PySem.Builtin PySem.Builtin.Str
namespace Mine
theorem jm:Slot "callable_iterator" "__iter__" "callable_iterator.__iter__":=
 .of (owner:="callable_iterator") (n:="__iter__") (by rw[typeLookup_type,builtinLookup_eq_fast];kernel_rfl) (by decide+kernel) (by decide+kernel) (by decide+kernel)
  (by first|exact .inl (by decide+kernel)|exact .inr (by decide+kernel)) (by rw[isSubtype_type];kernel_rfl)
theorem cX:Slot "callable_iterator" "__next__" "callable_iterator.__next__":=
 .of (owner:="callable_iterator") (n:="__next__") (by rw[typeLookup_type,builtinLookup_eq_fast];kernel_rfl) (by decide+kernel) (by decide+kernel) (by decide+kernel)
  (by first|exact .inl (by decide+kernel)|exact .inr (by decide+kernel)) (by rw[isSubtype_type];kernel_rfl)
theorem iJ:entryFor table "callable_iterator.__next__"=some Builtin.«callable_iterator.__next__»:=entryFor_of_tree (by kernel_rfl)
theorem nY:entryFor table "callable_iterator.__iter__"=some Builtin.«dict_keyiterator.__iter__»:=entryFor_alias (id':="dict_keyiterator.__iter__") (by kernel_rfl) (by first|rfl|decide+kernel|(unfold String.splitOn;simp +decide [String.splitOnAux])) (by decide+kernel) (by kernel_rfl)
theorem jn(a:Value):argsOk "callable_iterator.__next__" ⟨[a],[]⟩:=by unfold argsOk;kernel_rfl
theorem p5(a:Value):argsOk "callable_iterator.__iter__" ⟨[a],[]⟩:=by unfold argsOk;kernel_rfl
theorem kZ(f:Value)(pos:List Value):callBorrowed f pos=(call f pos).keep [borrowed]:=by
 show Sem.call _ _ _ _ _=Sem.call _ _ _ _ _;congr 1;funext r;induction r with
 |ok f=>induction f<;>rfl
 |error e=>rfl
theorem iS{M:Model}{A:Around}{E:Value→Shared→Prop}{s:Shared}{f:Value}{pos:List Value}{Q:Value→Shared→Prop}(h:wpAny M A (call f pos) Q E s):wpAny M A (callBorrowed f pos) Q E s:=by rw[kZ];exact Calls.wpAny_keep h
end Mine
end
noncomputable section
open PySem PySem.W PySem.Builtin PySem.Builtin.Str PyProof.Rows
namespace Mine
section
variable{n:Nat}{A:Around}{E:Value→Shared→Prop}{W W':Wd}{H H':AH}{s s':Shared}{sc:Scope}{env:ah}{e':Env}
theorem mK{M:Model}{b f c:Addr}{oc:Obj}{fd:FuncData}{Q:Bool→Shared→Prop}(hb:s.heap.get? b=some {cls:=.type "method",data:=.fields #[.ref f,.ref c]})(hf:s.heap.get? f=some oc)(hd:oc.data=.func fd)(h:Q true s):
  wpAny M A (borrowsExactly (.ref b)) Q E s:=by
 unfold borrowsExactly;refine wpAny_bind (wpAny_load hb ?_);refine wpAny_bind (wpAny_load hf ?_);rw[hd];exact wpAny_pure h
theorem cY{a:Addr}{o:Obj}{vs:Array Value}{k:Nat}{x:Value}{Q:Unit→Shared→Prop}(ho:s.heap.get? a=some o)(hd:o.data=.fields vs)(hk:k<vs.size)
  (h:∀h' o',h'.get? a=some o'→o'.cls=o.cls→o'.data=.fields (vs.setIfInBounds k x)→Heap.SameBut a s.heap h'→Q () {s with heap:=h'}):wpAny gM A (setField (.ref a) k x) Q E s:=
 wpAny_setField ho hd hk (h _ _ (Heap.get?_update_self _ ho (Obj.isFreed_of_fields (Obj.data_mapFields hd _))) (Obj.cls_mapFields ..) (Obj.data_mapFields hd _) (Heap.SameBut.update ..))
end
section
variable{n:Nat}{A:Around}{E:Value→Shared→Prop}{W W':Wd}{H H':AH}{s s':Shared}{sc:Scope}{env:ah}{e':Env}
theorem zR(hh:A.handled=none){a:Addr}{o:Obj}(ho:s.heap.get? a=some o)(hc:o.cls=.type "callable_iterator")(hd:o.data=.fields #[.none,.none,.bool true]){Q:Option Value→Shared→Prop}
  (q:∀h',s.heap.objs.size≤h'.objs.size→(∀b ob,s.heap.get? b=some ob→h'.get? b=some ob)→Q none {s with heap:=h'}):wpAny gM A (pyNext (.ref a)) Q E s:=by
 have hT:s.TypeIs (.ref a) "callable_iterator":=⟨o,ho,hc⟩;refine wpAny_bind (wpAny_attempt (wpAny_callSpecial?_slot hT cX (wpAny_call_entry cX hT iJ ?_ (jn _))));refine(?_:wpAny _ _ (field (.ref a) 2>>=_) _ _ s);refine wpAny_bind (wpAny_field ho hd rfl ?_);refine wpAny_bind (wpAny_rule ?_);refine wpAny_bind ?_;refine wpAny_bind ?_;refine wpAny_bind (wpAny_newObj_type ?_ (Ln.go (nat_lit 72057596169224448) [] ae));refine wpAny_bind (wpAny_of_eq (a:=Value.none) (by first|rfl|(rfl)) ?_);refine wpAny_newObj_type ?_ (by size_fits);refine wpAny_bind (wpAny_handled ?_);refine hh.symm▸?_;refine wpAny_bind (wpAny_pure (wpAny_throw ?_));refine wpAny_bind (wpAny_isInstance ⟨_,Heap.get?_push_size _ rfl,rfl⟩ isSubtype_stop ?_);exact wpAny_pure (q _ (by rw[Heap.size_push,Heap.size_push];exact aJ (nat_lit 27595307483392) ae) fun b ob e=>Heap.get?_push_of_some _ (Heap.get?_push_of_some _ e))
theorem zS{a:Addr}{o:Obj}(ho:s.heap.get? a=some o)(hc:o.cls=.type "callable_iterator"){Q:Value→Shared→Prop}(h:Q (.ref a) s):wpAny gM A (pyIter (.ref a)) Q E s:=by obtain hT:s.TypeIs (.ref a) "callable_iterator":=⟨o,ho,hc⟩;refine wpAny_pyIter_slot hT jm (wpAny_call_entry jm hT nY ?_ (p5 _));exact wpAny_pure ⟨_,rfl,"callable_iterator",_,hT,cX.lookup,h⟩
end
section
variable{n:Nat}{A:Around}{E:Value→Shared→Prop}{W W':Wd}{H H':AH}{s s':Shared}{sc:Scope}{env:ah}{e':Env}
theorem bY.free(N:ao sc env e' W s){a:Addr}(h:bY sc e' a):W.own a=none:=by
 rcases h with rfl|⟨y,hy,hl⟩
 ·refine N.locals.elim fun S_ Lh=>?_;refine Lh.elim fun XM Li=>?_;refine Li.elim fun Tc GQ=>?_;refine GQ.elim fun XN VC=>?_;obtain hw:=VC.2.2.2.2.1
  exact hw
 ·refine(N.cells y hy).elim fun c Gn=>?_;refine Gn.elim fun oc qY=>?_;refine qY.elim fun u zT=>?_;obtain h1:=zT.1;obtain h2:=zT.2.1;obtain h3:=zT.2.2.1;obtain h4:=zT.2.2.2.1;obtain h5:=zT.2.2.2.2.1
  rw[hl] at h1;obtain rfl:=Option.some.inj h1;exact h5
end
end Mine
end
noncomputable section
end
noncomputable section
open PySem PySem.W PySem.Builtin PySem.Builtin.Str PySem.StrLaws
namespace Mine
theorem f9(x:Str)(c lim:Nat):∀(k a:Nat) (acc:Array Nat) (free:Nat),free≤a→acc.size≤lim→
  (forIn (List.range' a k) (acc,free) (occBody x ⟨#[c]⟩ x.length lim)).run.fst.toList=acc.toList++((List.range' a k).filter fun i=>decide (x.cps.toList[i]?=some c)).take (lim-acc.size)
 |0,a,acc,free,aM,bL=>by simp[List.range']|k+1,a,acc,free,hf,hl=>by
  rw[List.range'_succ,List.forIn_cons];obtain hs:=subAt_one x c a;unfold occBody;by_cases hc:x.cps.toList[a]?=some c
  ·refine(hs.mpr hc).elim fun h1 h2=>?_
   by_cases bT:acc.size<lim
   ·rw[if_pos ⟨⟨⟨bT,hf⟩,h1⟩,h2⟩];show(forIn (List.range' (a+1) k) (acc.push a,a+1) (occBody x ⟨#[c]⟩ x.length lim)).run.fst.toList=_;refine(f9 x c lim k (a+1) _ _ (Nat.le_refl _) (by rw[Array.size_push];assumption)).trans ?_;rw[List.filter_cons_of_pos (by simpa using hc)];obtain⟨d,hd⟩:∃d,lim-acc.size=d+1:=⟨lim-acc.size-1,Ln.go (nat_lit 0x19180250191834191800112) [_,_,0,0] ae (Ln.aY (lim-acc.size) (1)) (Nat.sub_add_cancel (aQ (nat_lit 0x21901028101101102) ae bT (Ln.aY (lim) (acc.size)):1≤lim-acc.size))⟩;simp only[Array.size_push,hd,List.take_succ_cons,show lim-(acc.size+1)=d by exact vj (nat_lit 0x1225194828304340834191802540830131948282115) ae (Nat.sub_add_cancel (aA (nat_lit 308997144973569) ae bT:acc.size+1≤lim)) (Ln.aY (lim) (acc.size)) hd (Nat.sub_add_cancel (aA (nat_lit 68737306881) ae bT:acc.size≤lim)) (Ln.aY (lim) (acc.size+1))];simp
   ·rw[if_neg (fun h=>bT h.1.1.1)];show(forIn (List.range' (a+1) k) (acc,free) (occBody x ⟨#[c]⟩ x.length lim)).run.fst.toList=_;refine(f9 x c lim k (a+1) _ _ (by exact aA (nat_lit 441453936378113) ae hf) hl).trans ?_;have :lim-acc.size=0:=by exact aQ (nat_lit 0x9225105110282112) ae (Nat.sub_add_cancel (aA (nat_lit 68737302785) ae hl:acc.size≤lim)) bT
    rw[this];rfl
  ·rw[if_neg (fun h=>hc (hs.mp ⟨h.1.2,h.2⟩))];show(forIn (List.range' (a+1) k) (acc,free) (occBody x ⟨#[c]⟩ x.length lim)).run.fst.toList=_;refine(f9 x c lim k (a+1) _ _ (by exact aA (nat_lit 441453936378113) ae hf) hl).trans ?_;rw[List.filter_cons_of_neg (by simpa using hc)]
theorem gU(x:Str)(c lim:Nat):occurrences x ⟨#[c]⟩ 0 x.length lim=((List.range' 0 (x.length+1)).filter fun i=>decide (x.cps.toList[i]?=some c)).take lim:=by simp only[occ_eq,f9 x c lim _ 0 #[] 0 (Nat.le_refl _) (Nat.zero_le _)];rfl
theorem mL(c:Nat):∀(l pre:List Nat),((List.range' pre.length l.length).filter fun i=>decide ((pre++l)[i]?=some c)).length=(l.filter (·==c)).length
|[],pre=>by rfl|d::l,pre=>by
 simp only[List.length_cons,List.range'_succ];obtain ih:=mL c l (pre++[d]);simp only[List.length_append,List.length_singleton,List.append_assoc,List.singleton_append] at ih;obtain h0:(pre++d::l)[pre.length]?=some d:=by simp
 by_cases hd:d=c
 ·rw[List.filter_cons_of_pos (by rw[h0];simpa using hd),List.filter_cons_of_pos (by simpa using hd),List.length_cons,List.length_cons,ih]
 ·rw[List.filter_cons_of_neg (by rw[h0];simpa using hd),List.filter_cons_of_neg (by simpa using hd),ih]
theorem mO(x:Str)(c:Nat):((List.range' 0 (x.length+1)).filter fun i=>decide (x.cps.toList[i]?=some c))=((List.range' 0 x.length).filter fun i=>decide (x.cps.toList[i]?=some c)):=by
 simp only[List.range'_concat,List.filter_append];have :x.cps.toList[0+1* x.length]?=none:=by rw[List.getElem?_eq_none];show x.length≤_;exact aJ (nat_lit 111828533504) ae
 rw[List.filter_cons_of_neg (by refine this▸?_;simp)];simp
theorem p6(x:Str)(c:Nat):Txt.count x ⟨#[c]⟩=(lJ c x:Nat):=by unfold Txt.count;rw[gU,List.take_of_length_le (by refine Nat.le_trans (List.length_filter_le _ _) ?_;exact List.length_range'▸(Nat.le_refl _)),mO];obtain this:=mL c x.cps.toList [];unfold lJ;rw[←this];rfl
theorem oU(c:Nat):∀(l pre:List Nat),((List.range' pre.length l.length).filter fun i=>decide ((pre++l)[i]?=some c)).head?=(l.findIdx? (·==c)).map (·+pre.length)
|[],pre=>by simp |d::l,pre=>by
 rw[List.length_cons,List.range'_succ];have ih:=oU c l (pre++[d])
 rw[List.length_append,List.length_singleton,List.append_assoc,List.singleton_append] at ih;have h0:(pre++d::l)[pre.length]?=some d:=by simp
 by_cases hd:d=c
 ·rw[List.filter_cons_of_pos (by rw[h0];simpa using hd),List.findIdx?_cons];have :(d==c)=true:=by simpa using hd
  rw[this];simp
 ·rw[List.filter_cons_of_neg (by rw[h0];simpa using hd),List.findIdx?_cons];have :(d==c)=false:=by simpa using hd
  rw[this];simp only[Bool.false_eq_true,if_false,Option.map_map];rw[ih];cases List.findIdx? (fun x=>x==c) l with |none=>rfl|some i=>simp;omega
theorem p7(x:Str)(c i:Nat)(h:x.cps.toList.findIdx? (·==c)=some i):∃rest,occurrences x ⟨#[c]⟩ 0 x.length 1=i::rest:=by
 rw[gU,mO];have :=oU c x.cps.toList []
 have hl:x.cps.toList.length=x.length:=by rw[Array.length_toList];rfl
 rw[hl,h] at this;simp only[List.length_nil,List.nil_append,Option.map_some,Nat.add_zero] at this
 revert this
 generalize ((List.range' 0 x.length).filter fun i=>decide (x.cps.toList[i]?=some c))=l;intro this;cases l with
 |nil=>cases this
 |cons a r=>simp at this;subst this;exact⟨_,by rw[List.take_succ_cons]⟩
end Mine
end
noncomputable section
open PySem PySem.W PySem.Builtin PySem.Builtin.Str PyProof.Rows
namespace Mine
section
variable{n:Nat}{A:Around}{E:Value→Shared→Prop}{W W':Wd}{H H':AH}{s s':Shared}{sc:Scope}{env:ah}{e':Env}
theorem jT{α:Type}{c:Bool}{m n:M α}{r:α×AH}{P:Prop}(h:(if c=true then m else n) H=some r)(k:c=true→m H=some r→P)(l:n H=some r→P):P:=by
 induction c with |true=>exact k rfl h|false=>exact l h
theorem rQ:∀{vs:List V} {ys:List Str} {xs:List Value},qO vs=some ys→ay W vs xs→StrsAre xs ys
|[],aM,[],h,bL=>Option.some.inj h▸.nil|v::vs,ys,x::xs,h,r=>onStr.el h r.1 fun i t a h=>by obtain⟨zs,h1,h2⟩:=eG h;exact h2▸.cons i t (rQ h1 r.2)
|[],aM,bL::gn,tR,r=>r.elim|aM::bL,gn,[],tR,r=>r.elim
theorem zU{x:Str}{t:Tok}{v r:V}{z:Value}(h:qP x v H=some (r,H'))(hx:x.length=0)(S:aG W H s)(rv:Rel W v z):
  wpAny gM A (PySem.call (.builtin "str.join") [.str x t,z]) (fun z=>aU W H s aH H' fun W' a=>Rel W' r z) E s:=by
 obtain hh:=lZ S rv;refine cM.el h fun vs e h=>?_
 rw[e] at hh;obtain⟨l,m,ys,rfl,g,hl,rs⟩:=hh;obtain⟨zs,h1,h2⟩:=nQ h;refine rh h2 fun hc e=>?_
 obtain q:=bj hc;obtain⟨rfl,rfl⟩:=Prod.mk.inj e;exact join_list (nM g) (rQ h1 rs) (by simp only[hx,Nat.mul_zero];exact Nat.le_trans (Nat.le_of_lt (ck q.1)) (by decide)) fun t' k=>dF S (ck q.2)
theorem iT{y:Str}{c:Nat}(h:ou y=some c):y=⟨#[c]⟩:=by
 unfold ou at h;induction y with
 |mk cps=>
  induction hl:cps.toList with
  |nil=>simp[hl] at h|cons a r=>
   induction r with |nil=>simp[hl] at h;subst h;congr 1;exact Array.toList_inj.mp hl|cons b q=>simp[hl] at h
theorem CP{x:Str}{t:Tok}{v r:V}{z:Value}(h:JA x v H=some (r,H'))(S:aG W H s)(rv:Rel W v z):
  wpAny gM A (PySem.call (.builtin "str.count") [.str x t,z]) (fun z=>aU W H s aH H' fun W' a=>Rel W' r z) E s:=by
 obtain⟨hq,rfl⟩:=lX h;refine onStr.el hq rv fun y u a h=>?_
 obtain⟨c,hc,e⟩:=eG h;cases iT hc;exact e▸SC.count (p6 x c▸bP S)
theorem CQ{x:Str}{t:Tok}{v r:V}{z:Value}(h:JB x v H=some (r,H'))(S:aG W H s)(rv:Rel W v z):
  wpAny gM A (PySem.call (.builtin "str.index") [.str x t,z]) (fun z=>aU W H s aH H' fun W' a=>Rel W' r z) E s:=by
 obtain⟨hq,rfl⟩:=lX h;refine onStr.el hq rv fun y u a h=>?_
 obtain⟨c,hc,h⟩:=nQ h;obtain⟨i,hi,e⟩:=eG h;cases iT hc;obtain⟨rest,ho⟩:=p7 x c i hi;exact e▸SC.index ho (bP S)
theorem zV{x:Str}{t:Tok}(hl:x.length=1)(S:aG W H s):
  wpAny gM A (PySem.call (.builtin "str.lower") [.str x t]) (fun z=>aU W H s aH H fun W' a=>Rel W' (.str (Txt.lower x)) z) E s:=
 SCL.lower (hl▸by decide) fun hlen=>dF S (Nat.lt_of_le_of_lt hlen (hl▸show 3* 1<ak by decide))
end
section
variable{n:Nat}{A:Around}{E:Value→Shared→Prop}{W W':Wd}{H H':AH}{s s':Shared}{sc:Scope}{env:ah}{e':Env}
theorem mP{k:Nat}{l:Addr}{vs us:List V}{xs ys:Array Value}{m:Nat}{f:Array Value→Array Value}(S:aG W H s)(hk:H[k]?=some (.lst vs))(ha:W.φ k=some l)(g:s.heap.get? l=some (gA xs m))(hf:f xs=ys)(hl:us.length<ak)(rs:ay W us ys.toList):
  ai W H s aH W (H.set k (.lst us)) {s with heap:=s.heap.update l (Obj.mapSeq f)}:=by
 refine(iQ xs m f).elim fun m' hm=>?_
 exact .one S ⟨_,hk,trivial⟩ ha (Heap.SameBut.update ..) ⟨m',ys,hf▸hm▸Heap.get?_update_self _ g rfl,hl,rs⟩
theorem CR{k:Nat}{l:Addr}{xs:List V}{v r:V}{q:Value}(h:JC k xs v H=some (r,H'))(S:aG W H s)(ho:H[k]?=some (.lst xs))(ha:W.φ k=some l)(rq:Rel W v q):
  wpAny gM A (PySem.call (.builtin "list.append") [.ref l,q]) (fun z=>aU W H s aH H' fun W' a=>Rel W' r z) E s:=by
 obtain⟨m,ys,g,hl,ry⟩:=S.at ho ha;refine yY h fun hs h=>?_
 cases h;exact call_meets F.slot_list_append ⟨_,g,rfl⟩ F.entry_list_append (F.args_list_append_2 _ _) (PySem.list_append l ys m q (br ((show xs.length=ys.size from ry.length)▸hl))) ⟨g,W,mP S ho ha g rfl (List.length_append▸ck hs) (by rw[Array.toList_push];exact ry.append ⟨rq,trivial⟩),rfl⟩
theorem CU{k:Nat}{l:Addr}{xs:List V}{v r:V}{q:Value}(h:JD k xs v H=some (r,H'))(S:aG W H s)(ho:H[k]?=some (.lst xs))(ha:W.φ k=some l)(rq:Rel W v q):
  wpAny gM A (PySem.call (.builtin "list.pop") [.ref l,q]) (fun z=>aU W H s aH H' fun W' a=>Rel W' r z) E s:=by
 obtain⟨m,⟨ys⟩,g,hl,ry⟩:=S.at ho ha;refine av.el h rq fun i t h=>?_
 induction xs using List.casesOn with
 |nil=>exact nE h|cons x xs=>induction ys using List.casesOn with
  |nil=>exact ry.elim|cons y ys=>
   refine rh h fun hi h=>?_
   cases eq_of_beq hi;cases h;exact call_meets F.slot_list_pop ⟨_,g,rfl⟩ F.entry_list_pop (F.args_list_pop_2 _ _) (PySem.MeetsSeq.list_pop_at l ⟨y::ys⟩ m 0 t 0 y rfl (if_pos (dB ⟨rfl,decide_eq_true (Int.natCast_pos.mpr (Nat.succ_pos _))⟩)) rfl (br (n:=(y::ys).length) (ry.length▸hl))) ⟨g,W,mP S ho ha g rfl (Nat.lt_of_succ_lt hl) (by simpa using ry.2),ry.1⟩
theorem CV{k:Nat}{l:Addr}{xs:List V}{i v r:V}{p q:Value}(h:JF k xs i v H=some (r,H'))(S:aG W H s)(ho:H[k]?=some (.lst xs))(ha:W.φ k=some l)(rp:Rel W i p)(rq:Rel W v q):
  wpAny gM A (PySem.call (.builtin "list.insert") [.ref l,p,q]) (fun z=>aU W H s aH H' fun W' a=>Rel W' r z) E s:=by
 obtain⟨m,ys,g,hl,ry⟩:=S.at ho ha;refine av.el h rp fun i t h=>rh h fun hs h=>?_
 obtain⟨rfl,rfl⟩:=Prod.mk.inj h;obtain c:=bj hs;obtain c1:=bj c.1;obtain h0:=of_decide_eq_true c1.1;obtain hf:Builtin.List.listFitsIndex i=true:=dB ⟨decide_eq_true (Int.le_trans (by decide) h0),c1.2⟩;refine call_meets F.slot_list_insert ⟨_,g,rfl⟩ F.entry_list_insert (F.args_list_insert_3 _ _ _) (AutoSeq1.list_insert_list_int_val_1 l ys m i t q (by rw[hf];exact Bool.false_ne_true) (br ((show xs.length=ys.size from ry.length)▸hl))) ⟨g,W,mP S ho ha g rfl ?_ ?_,rfl⟩
 ·simp only[List.length_append,List.length_cons,List.length_take,List.length_drop];obtain this:=ck c.2;omega
 ·obtain hm:ys.toList.take (min i.toNat ys.size)=ys.toList.take i.toNat∧ys.toList.drop (min i.toNat ys.size)=ys.toList.drop i.toNat:=by
   induction Nat.le_total i.toNat ys.size with |inl h=>rw[Nat.min_eq_left h];exact⟨rfl,rfl⟩|inr h=>rw[Nat.min_eq_right h,List.take_of_length_le h,List.drop_of_length_le h];exact⟨List.take_of_length_le (Nat.le_refl _),List.drop_of_length_le (Nat.le_refl _)⟩
  rw[if_neg (Int.not_lt.mpr h0)];refine(congrArg Array.toList (kl_ins_eq ys.toList (min i.toNat ys.size) q)).symm▸?_;simp only[hm.1,hm.2];exact(ry.take _).append ⟨rq,ry.drop _⟩
theorem CW{r:List Bool}{f:Value→Bool}:∀{ys:List Value} {j:Nat},ys.map f=r→r.findIdx? id=some j→∃hj:j<ys.length,f ys[j]=true∧∀m (hm:m<ys.length),m<j→f ys[m]=false:=fun{ys j} e h=>by subst e;rw[List.findIdx?_map] at h;obtain q:=List.findIdx?_eq_some_iff_getElem.mp h;exact q.elim fun hj q=>⟨hj,q.1,fun m hm bT=>Bool.eq_false_iff.mpr (q.2 m bT)⟩
theorem xE{l:Addr}{m:Nat}{xs:List V}{ys:Array Value}{v:V}{n:Nat}{q:Value}(h:i9 v xs=some n)(S:aG W H s)(z:W.Z l=some (gA ys m))(ry:ay W xs ys.toList)(rq:Rel W v q):
  wpAny gM A (PySem.call (.builtin "list.count") [.ref l,q]) (fun z=>aU W H s aH H fun W' a=>Rel W' (.int n) z) E s:=by
 refine(eG h).elim fun r Lj=>?_;obtain hr:=Lj.1;obtain e:=Lj.2
 obtain w:=t7 rq hr ry;refine call_meets F.slot_list_count ⟨_,S.z _ _ z,rfl⟩ F.entry_list_count (F.args_list_count_2 _ _) (SeqAt.list_countAt l ys m none #[] q (Ff · q)) ⟨S.z _ _ z,fun y hy=>w.2 y (Array.mem_def.mp hy),?_⟩;exact(show ys.toList.countP (Ff · q)=n by simp only[←e,←w.1,List.countP_map];rfl)▸(bP S)
theorem xF{l:Addr}{m:Nat}{xs:List V}{ys:Array Value}{v:V}{n:Nat}{q:Value}(h:ic v xs=some n)(S:aG W H s)(z:W.Z l=some (gA ys m))(hl:xs.length<ak)(ry:ay W xs ys.toList)(rq:Rel W v q):
  wpAny gM A (PySem.call (.builtin "list.index") [.ref l,q]) (fun z=>aU W H s aH H fun W' a=>Rel W' (.int n) z) E s:=by
 obtain⟨r,hr,e⟩:=nQ h;obtain w:=t7 rq hr ry;obtain⟨hj,g3,g4⟩:=CW w.1 e;exact call_meets F.slot_list_index ⟨_,S.z _ _ z,rfl⟩ F.entry_list_index (F.args_list_index_2 _ _) (SeqAt.list_indexAt l ys m none #[] q (Ff · q) n hj (Int.lt_trans (Int.ofNat_lt.mpr (Nat.lt_trans hj (ry.length▸hl))) (show((ak:Nat):Int)<2^63-1 by decide)) g3 fun k hk bT=>g4 k hk bT) ⟨S.z _ _ z,fun y hy=>w.2 y (Array.mem_def.mp hy),bP S⟩
end
section
variable{n:Nat}{A:Around}{E:Value→Shared→Prop}{W W':Wd}{H H':AH}{s s':Shared}{sc:Scope}{env:ah}{e':Env}
theorem CY{d:Addr}{es:Array DictEntry}{m:Nat}{kvs:List (Str×V)}{x:Str}{t:Tok}{dv:V}{y:Value}(S:aG W H s)(g:s.heap.get? d=some (cT es m))(h0:d≠sysModules)(nd:(kvs.map (·.1)).Nodup)(rs:Reld W kvs es.toList)(rd:Rel W dv y):
  wpAny gM A (PySem.call (.builtin "dict.get") [.ref d,.str x t,y]) (fun z=>aU W H s aH H fun W' a=>Rel W' ((kvs.lookup x).getD dv) z) E s:=by
 refine(dg g nd rs).elim fun ps z=>z.elim fun hD rp=>?_
 refine call_meetsIn F.slot_dict_get (⟨_,g,rfl⟩) F.entry_dict_get (F.args_dict_get_3 _ _ _) (meets_dict_get_default (sk) d (strKind_is _ _ x t) (by simpa using h0) y) ⟨_,hD.mapOf,?_⟩;obtain hl:=rp.lookup x;show aU W H s aH H (fun W' a=>Rel W' ((kvs.lookup x).getD dv) ((valueAt ps x).getD y)) {s with toks:=s.toks+1};refine cu S _ ?_;induction hk:kvs.lookup x with
 |none=>obtain hl:=hk▸hl;refine hl▸?_;exact rd
 |some v=>rw[hk] at hl;obtain⟨z,hz,rz⟩:=hl;refine hz▸?_;exact rz
theorem rR{kvs:List (Str×V)}{v:V}{vs:List V}{d:Addr}{es:Array DictEntry}{m:Nat}{xs:List Value}(h:lN kvs "get" vs H=some (v,H'))(S:aG W H s)(g:s.heap.get? d=some (cT es m))(h0:d≠sysModules)(nd:(kvs.map (·.1)).Nodup)(rs:Reld W kvs es.toList)(rx:ay W vs xs):
  wpAny gM A (PySem.call (.builtin "dict.get") (.ref d::xs)) (fun z=>aU W H s aH H' fun W' a=>Rel W' v z) E s:=by
 refine tN.el h rx fun u y dv z ry rz h=>onStr.el h ry fun x t a h=>?_
 cases h;exact CY S g h0 nd rs rz
theorem zW{v:V}{vs:List V}{xs:List Value}(h:qQ G.qW "get" vs H=some (v,H'))(S:aG W H s)(rx:ay W vs xs):
  wpAny gM A (PySem.call (.builtin "dict.get") (.ref G.Co::xs)) (fun z=>aU W H s aH H' fun W' a=>Rel W' v z) E s:=by
 refine jD.el h rx fun u y ry h=>av.el h ry fun i t h=>?_
 cases h;refine S.cj.zu rfl (fun x hx t' k=>?_) fun hx k=>?_
 ·refine hx▸?_;exact dF S (S.cj.zv i x hx)
 ·refine hx▸?_;exact cu S k rfl
end
section
variable{n:Nat}{A:Around}{E:Value→Shared→Prop}{W W':Wd}{H H':AH}{s s':Shared}{sc:Scope}{env:ah}{e':Env}
theorem xG{v:V}{vs:List V}{zs:List Value}(h:ay W (v::vs) zs):∃z r,zs=z::r∧Rel W v z∧ay W vs r:=by
 induction zs with |nil=>exact h.elim|cons z r=>exact⟨z,r,rfl,h.1,h.2⟩
theorem v7{k n:Nat}(h:k<ak)(e:k=n):((n:Nat):Int)<2^63:=Int.lt_trans (Int.ofNat_lt.mpr (e▸h)) (show((ak:Nat):Int)<2^63 by decide)
theorem Qt{k n:Nat}(h:k<ak)(e:k=n):¬(((n:Nat):Int)≥2^63):=Int.not_le.mpr (v7 h e)
theorem CZ{vs:List V}{v:V}{xs:List Value}(h:Jt vs H=some (v,H'))(S:aG W H s)(rs:ay W vs xs):
  wpAny gM A (PySem.call (.builtin "len") xs) (fun z=>aU W H s aH H' fun W' a=>Rel W' v z) E s:=by
 refine jD.el h rs fun u y ry h=>?_
 obtain⟨k,hk,e⟩:=eG h;obtain⟨rfl,rfl⟩:=Prod.mk.inj e;have fin:∀{n t u:Nat},k=n→aU W H s aH H (fun W' a=>Rel W' (.int k) (.int (n:Int) t)) {s with toks:=u}:=fun e=>e▸cu S _ ⟨_,rfl⟩
 have hh:=lZ S ry
 revert hh hk
 generalize deref H u=a';intro hk hh;induction a' using V.casesOn with
 |str x=>obtain⟨hl,t,rfl⟩:=hh;obtain rfl:=Option.some.inj hk;exact P.len_str (Qt hl rfl) (fin rfl)
 |lst us=>obtain⟨l,m,ys,rfl,g,hl,r⟩:=hh;cases hk;exact Calls.call_len_list (nM g) (v7 hl r.length) (fin r.length)
 |tup us=>obtain⟨l,m,ys,rfl,g,hl,r⟩:=hh;cases hk;exact len_tuple (B4 g) (v7 hl r.length) (fin r.length)
 |bf us=>obtain⟨l,m,ys,rfl,g,h0,nd,hl,r⟩:=hh;obtain rfl:=Option.some.inj hk;obtain⟨ps,hD,rp⟩:=dg g nd r;exact call_len_dict (nR h0) hD (v7 hl rp.length) (fin rp.length)
 |_=>exact nE hk
theorem C0{vs:List V}{v:V}{xs:List Value}(h:Ju vs H=some (v,H'))(S:aG W H s)(rs:ay W vs xs):
  wpAny gM A (PySem.call (.builtin "chr") xs) (fun z=>aU W H s aH H' fun W' a=>Rel W' v z) E s:=by
 refine jD.el h rs fun u y ry h=>av.el h ry fun i t h=>rh h fun hc e=>?_
 obtain⟨rfl,rfl⟩:=Prod.mk.inj e;have q:=bj hc
 exact P.chr_of_int (Bool.or_eq_false_iff.mpr ⟨decide_eq_false (Int.not_lt.mpr (of_decide_eq_true q.1)),decide_eq_false (Int.not_lt.mpr (Int.le_of_lt_add_one (of_decide_eq_true q.2)))⟩) (dF S (show 1<ak by decide))
theorem C1{vs:List V}{v:V}{xs:List Value}(h:Jv vs H=some (v,H'))(S:aG W H s)(rs:ay W vs xs):
  wpAny gM A (PySem.call (.builtin "ord") xs) (fun z=>aU W H s aH H' fun W' a=>Rel W' v z) E s:=by
 refine jD.el h rs fun u y ry h=>onStr.el h ry fun x t a h=>?_
 obtain⟨c,hc,e⟩:=eG h;obtain⟨rfl,rfl⟩:=Prod.mk.inj e;cases iT hc;exact P.ord_of_char (bP S)
theorem C2{vs:List V}{v:V}{xs:List Value}(h:Jx vs H=some (v,H'))(S:aG W H s)(rs:ay W vs xs):
  wpAny gM A (PySem.call (.builtin "isinstance") xs) (fun z=>aU W H s aH H' fun W' a=>Rel W' v z) E s:=by
 refine tN.el h rs fun u y w z ry rz h=>av.el h ry fun i t h=>vp.el h rz fun T h=>rh h fun hc e=>?_
 obtain⟨rfl,rfl⟩:=Prod.mk.inj e;cases eq_of_beq hc;exact IsiPair.int_tuple (f7 S _)
theorem jo(f:Nat→Int):∀n,preSum f (n+1)=f 0+preSum (fun j=>f (j+1)) n|0=>by simp[preSum]|n+1=>by obtain ih:=jo f n;refine(?_:preSum f (n+1)+f (n+1)=f 0+(preSum (fun j=>f (j+1)) n+f (n+1)));refine ih▸?_;exact Iz.go (nat_lit 9429970342946064) [] [_,_,_] ae
theorem v8:∀{vs:List V} {i:Int},sumInts vs=some i→∃ns:List Int,vs=ns.map .int∧preSum (fun j=>ns.getD j 0) ns.length=i|[],i,h=>⟨[],rfl,Option.some.inj h⟩|v::vs,i,h=>av.inv h fun k e h=>by obtain⟨j,hj,e2⟩:=eG h;obtain⟨ns,h1,h2⟩:=v8 hj;exact⟨k::ns,by simp only[e,h1];rfl,by simp only[List.length_cons,jo];exact h2.symm▸e2⟩
theorem C3{vs:List V}{v:V}{xs:List Value}(h:Jw vs H=some (v,H'))(S:aG W H s)(rs:ay W vs xs)(hh:A.handled=none):
  wpAny gM A (PySem.call (.builtin "sum") xs) (fun z=>aU W H s aH H' fun W' a=>Rel W' v z) E s:=by
 refine jD.el h rs fun u z rz h=>cM.el h fun us e h=>?_
 subst e;obtain⟨i,hs,e⟩:=eG h;obtain⟨rfl,rfl⟩:=Prod.mk.inj e;obtain⟨ns,rfl,hp⟩:=v8 hs;obtain⟨l,m,ys,rfl,hz,hl,r⟩:=rz;obtain g:=S.z _ _ hz;obtain el:ns.length=ys.size:=(List.length_map ..).symm.trans r.length;obtain cI:=Nat.ne_of_lt (Heap.lt_size g);refine bD (call_sum_walkAnyS (wpAny_pyIter_list (nM g) ⟨s.heap.objs.size,_,_,_,_,_,_,fun j=>ns.getD j 0,rfl,(Walks.list (A:=A.in1) hh s.heap.objs.size l cI ys).toS,?_,?_,?_,?_⟩))
 ·exact⟨⟨_,Heap.get?_push_size _ rfl,rfl,rfl⟩,_,Heap.get?_push_of_some _ g,rfl,m,rfl⟩
 ·intro b hb;rw[Heap.size_push];rcases bz hb with rfl|hb
  ·exact Nat.lt_succ_self _
  ·refine(List.mem_singleton.mp hb)▸?_;exact Nat.lt_succ_of_lt (Heap.lt_size g)
 ·intro j w hw;obtain hj:=(Array.getElem?_eq_some_iff.mp hw).1;obtain hv:(ns.map V.int)[j]?=some (.int (ns.getD j 0)):=by simp[List.getD_eq_getElem?_getD,List.getElem?_eq_getElem (show j<ns.length by exact aQ (nat_lit 9025969084961026) ae hj el)]
  obtain⟨x,hx,rx⟩:=r.get hv;rw[Array.getElem?_toList,hw] at hx;obtain rfl:=Option.some.inj hx;exact rx
 ·intro s' t' M hsz;rw[←el,hp];refine⟨W,ai.grow S aH (fun b o hb=>M.heap b o ?_ (Heap.get?_push_of_some _ hb)) hsz rfl rfl (fun a a h=>h) (fun a a h=>.inl h) M.os M.gens,⟨_,rfl⟩⟩;intro hm;exact Nat.ne_of_lt (Heap.lt_size hb) (List.mem_singleton.mp hm)
theorem jU:typeLookup (.type "method") (Str.ofString "__call__")=pure (some (.builtin "method.__call__")):=by kernel_rfl
theorem uu(a b:Value):argsOk "iter" ⟨[a,b],[]⟩:=by unfold argsOk;kernel_rfl
theorem zX{vs:List V}{v:V}{xs:List Value}(h:E6 vs H=some (v,H'))(S:aG W H s)(rs:ay W vs xs):
  wpAny gM A (PySem.call (.builtin "iter") xs) (fun z=>aU W H s aH H' fun W' a=>Rel W' v z) E s:=by
 refine tN.el h rs fun u y st z ry rz h=>Cj.el h fun j g e h=>?_
 subst e;have VD:=ry
 obtain⟨rfl,rfl⟩:=dZ h;obtain⟨m,c,rfl,hj,zm,hg⟩:=ry;obtain gm:=S.z _ _ zm;refine Calls.call_function_entry (by decide+kernel) (by decide+kernel) kdk_entry_iter (uu _ _) ?_;refine wpAny_bind (wpAny_pure ?_);refine wpAny_bind (wpAny_specialOf (⟨_,gm,rfl⟩) jU ?_);refine wpAny_bind (wpAny_rule ?_);refine wpAny_bind (wpAny_newObj_type (wpAny_pure ⟨_,rfl,?_⟩))
 obtain PP:=ai.new S aH (.kP (.bm j g) st true) {cls:=.type "callable_iterator",data:=.fields #[.ref m,z,.bool false]} rfl s.toks
  ⟨_,.ref m,z,Heap.get?_push_size _ rfl,rfl,rfl,fun a=>⟨VD.mono (Wd.gK S (Nat.le_refl _)),rz.mono (Wd.gK S (Nat.le_refl _))⟩⟩
 refine⟨_,PP,?_⟩;exact⟨_,rfl,Wd.d8 ..⟩
theorem zY{i:String}{vs:List V}{v:V}{xs:List Value}(h:i_ i vs H=some (v,H'))(S:aG W H s)(rs:ay W vs xs)(hh:A.handled=none):
  wpAny gM A (PySem.call (.builtin i) xs) (fun z=>aU W H s aH H' fun W' a=>Rel W' v z) E s:=by
 refine jT h (fun hc h=>eq_of_beq hc▸CZ h S rs) fun h=>jT h (fun hc h=>eq_of_beq hc▸C0 h S rs) fun h=>jT h (fun hc h=>eq_of_beq hc▸C1 h S rs) fun h=>jT h (fun hc h=>eq_of_beq hc▸C3 h S rs hh) fun h=>jT h (fun hc h=>eq_of_beq hc▸C2 h S rs) fun h=>jT h (fun hc h=>eq_of_beq hc▸zX h S rs) fun h=>nE h
end
section
variable{A:Around}{E:Value→Shared→Prop}{s:Shared}
theorem p8{Q:List Value→Shared→Prop}(it:Addr){T:String}{o:Obj}{items:Array Value}{n:Nat}(hT:T="list"∨T="tuple")(ho:s.heap.get? it=some o)(hc:o.cls=.type T)(hd:o.data=.seq items n)
  (hQ:∀h':Heap,s.heap.objs.size≤h'.objs.size→(∀b o',s.heap.get? b=some o'→h'.get? b=some o')→Q items.toList {s with heap:=h'})(hsz:items.size≤sizeLine):wpAny gM A (collect (.ref it)) Q E s:=
 bD (wpAny_collect_seq (hsz:=hsz) it hT ho hc hd fun h' hk hz=>hQ h' hz hk)
end
section
variable{A:Around}{E:Value→Shared→Prop}{s:Shared}
theorem p9{prog:Program}{w:World}{Q:List Value→Shared→Prop}(it:Addr){T:String}{o:Obj}{items:Array Value}{n:Nat}(hT:T="list"∨T="tuple")(ho:s.heap.get? it=some o)(hc:o.cls=.type T)(hd:o.data=.seq items n)
  (hQ:∀h':Heap,s.heap.objs.size≤h'.objs.size→(∀b o',s.heap.get? b=some o'→h'.get? b=some o')→Q items.toList {s with heap:=h'})(hsz:items.size≤sizeLine):wpAny (model prog w) A (collect (.ref it)) Q E s:=
 bD (wpAny_collect_seq (hsz:=hsz) it hT ho hc hd fun h' hk hz=>hQ h' hz hk)
open AutoSeq1 (wpAny_loadPart') in
theorem jV(l:Addr)(o:Obj)(items:Array Value)(n:Nat)(hc:o.cls=.type "list")(hd:o.data=.seq items n)(hsz:items.size≤sizeLine):
  Meets (Builtin.«tuple.__new__» ⟨[.type "tuple",.ref l],[]⟩)
   (fun a R s=>s.heap.get? l=some o∧∀h':Heap,s.heap.objs.size≤h'.objs.size→(∀b o',s.heap.get? b=some o'→h'.get? b=some o')→R (.ok (.ret (.ref h'.objs.size))) {s with heap:=h'.push (nL items 0)}):=
 .of_wp fun prog w A R s h=>by
  obtain⟨hp,g,d,tk,os⟩:=s;obtain⟨ht,h⟩:=h;have Gg:=sub_tuple_self
  have Td:=init_tuple_lookup;have XO:=madeHere_tuple
  have hT:Shared.TypeIs ⟨hp,g,d,tk,os⟩ (.ref l) "list":=⟨o,ht,hc⟩
  wp_walk using wpAny_loadPart' ht,wpAny_typeOf hT,p9 (hsz:=hsz) l (.inl rfl) ht hc hd
  intro h' hz hk;show wpAny _ _ (Builtin.Tuple.tupleExact items.toList.toArray>>=fun v=>ret v) _ _ _;unfold Builtin.Tuple.tupleExact;refine wpAny_bind (wpAny_newObj_type ?_ (by show items.toList.toArray.size≤sizeLine;simpa using hsz));refine wpAny_pure ⟨_,rfl,?_⟩;have e:items.toList.toArray=items:=by simp
  rw[e];exact h h' hz hk
theorem rS{l:Addr}{o:Obj}{items:Array Value}{n:Nat}{Q:Value→Shared→Prop}(ho:s.heap.get? l=some o)(hc:o.cls=.type "list")(hd:o.data=.seq items n)(hsz:items.size≤sizeLine)
  (h:∀h':Heap,s.heap.objs.size≤h'.objs.size→(∀b o',s.heap.get? b=some o'→h'.get? b=some o')→Q (.ref h'.objs.size) {s with heap:=h'.push (nL items 0)}):wpAny gM A (call (.type "tuple") [.ref l]) Q E s:=
 callType_new F.called_tuple (by decide) (F.typeCall_tuple_1 _) (F.newCall_tuple_1 _) (fun obj=>F.args_object_init_2 obj _) F.entry_tuple_new
  (jV l o items n hc hd hsz) ⟨ho,fun h' hz hk=>⟨⟨_,Heap.get?_push_size _ rfl,rfl⟩,h h' hz hk⟩⟩
end
section
variable{n:Nat}{A:Around}{E:Value→Shared→Prop}{W W':Wd}{H H':AH}{s s':Shared}{sc:Scope}{env:ah}{e':Env}
set_option tactic.hygienic true in
theorem mQ{c:Bool}{vs:List V}{v:V}{a:Addr}{h':Heap}{tk m:Nat}{ys:Array Value}(h:(if c then gC (.lst vs) else pure (.lst vs)) H=some (v,H'))(S:aG W H s)(ha:s.heap.objs.size≤a)
  (hk:∀b o,s.heap.get? b=some o→h'.get? b=some o)(g:h'.get? a=some (gA ys m))(hl:vs.length<ak)(r:ay W vs ys.toList):
  aU W H s aH H' (fun W' d=>Rel W' v (.ref a)) {s with heap:=h',toks:=tk}:=by
 obtain bT:=Heap.lt_size g;obtain hsz:=Nat.le_of_lt (Nat.lt_of_le_of_lt ha bT);induction c with
 |false=>
  obtain⟨rfl,rfl⟩:=aW h;obtain PP:ai W H' s aH (W.add a (gA ys m)) H' {s with heap:=h',toks:=tk}:=ai.grow S aH hk hsz rfl rfl (fun b o e=>by
    refine(?_:(if b=a then some (gA ys m) else W.Z b)=some o);rw[if_neg (fun q=>by rw[q] at e;rw[S.gJ ha] at e;exact nE e)];exact e) (fun b o e=>by
    have e':(if b=a then some (gA ys m) else W.Z b)=some o:=e;split at e'
    ·rename_i q;obtain rfl:=Option.some.inj e';exact .inr ⟨q▸ha,by exact q▸(g)⟩
    ·exact .inl e') rfl rfl
  refine⟨_,PP,?_⟩;exact⟨a,m,ys,rfl,Wd.aZ ..,hl,r.mono PP.le⟩
 |true=>
  obtain⟨rfl,rfl⟩:=dZ h;have L:W.Le (W.ref H.length a):=Wd.gK S (Nat.le_refl _)
  have PP:ai W H s aH (W.ref H.length a) (H++[.lst vs]) {s with heap:=h',toks:=tk}:=ai.KW S aH (.lst vs) rfl rfl (by simp[Wd.ref]) (fun b j hb=>by
    refine(?_:(if b=a then some H.length else W.own b)=some j);rw[if_neg (fun q=>by rw[q,S.cH ha] at hb;exact nE hb)];exact hb) (fun b j hb=>by
    have C5:(if b=a then some H.length else W.own b)=some j:=hb;split at C5
    ·rename_i q;obtain rfl:=Option.some.inj C5;exact .inr ⟨rfl,by refine q▸?_;exact ha,by refine q▸?_;exact bT⟩
    ·exact .inl C5) hsz hk ⟨m,ys,g,hl,r.mono L⟩ rfl rfl
  refine⟨_,PP,?_⟩;exact⟨a,rfl,Wd.d8 ..⟩
theorem eY:∀{vs:List V} {ys:Array Value},ys.size=vs.length→(∀(j:Nat) (x:Value),ys[j]?=some x→∃v,vs[j]?=some v∧Rel W v x)→ay W vs ys.toList:=by
 obtain key:∀{vs:List V} {xs:List Value},xs.length=vs.length→(∀(j:Nat) (x:Value),xs[j]?=some x→∃v,vs[j]?=some v∧Rel W v x)→ay W vs xs:=by
  intro vs;induction vs with
  |nil=>intro xs hl _;obtain this:=List.length_eq_zero_iff.mp hl;subst this;trivial
  |cons v vs ih=>
   intro xs hl hg;induction xs with |nil=>exact nomatch hl|cons x xs=>obtain⟨u,hu,ru⟩:=hg 0 x rfl;obtain rfl:=Option.some.inj hu;refine⟨ru,ih (by simpa using hl) fun j y hy=>?_⟩;obtain this:=hg (j+1) y (hy);exact this
 intro vs ys hl hg;exact key (hl) fun j x hx=>hg j x (by rwa [Array.getElem?_toList] at hx)
theorem Lk.inv{u:V}{xs:List V}{P:Prop}(h:vq u=some xs)(k:∀x,u=.str x→xs=(x.cps.toList.map fun c=>.str ⟨#[c]⟩)→P)(l:∀a b,u=.nK a b→xs=((List.range (b-a).toNat).map fun(i:Nat)=>.int (a+(i:Int)))→P):P:=by
 induction u using V.casesOn with |str x=>exact k x rfl (Option.some.inj h).symm|nK a b=>exact l a b rfl (Option.some.inj h).symm|_=>exact nE h
theorem C6{vs:List V}{v:V}{xs:List Value}(h:Jy vs H=some (v,H'))(S:aG W H s)(rs:ay W vs xs):
  wpAny gM A (PySem.call (.type "int") xs) (fun z=>aU W H s aH H' fun W' a=>Rel W' v z) E s:=by
 refine jD.el h rs fun u y ry h=>b9.el h ry fun b h=>?_
 cases h;exact call_int_bool (bP S)
theorem rU{a b:Int}{t u w:Tok}{tk:Nat}(S:aG W H s)(ha:ig a=true)(hb:ig b=true):aU W H s aH H (fun W' c=>Rel W' (.nK a b) (.ref s.heap.objs.size)) {s with heap:=s.heap.push {cls:=.type "range",data:=.fields #[.int a t,.int b u,.int 1 w]},toks:=tk}:=
 ⟨_,ai.push S aH _ rfl tk,_,_,_,_,rfl,Wd.aZ ..,by
  have :=of_decide_eq_true ha;have :=of_decide_eq_true hb
  exact small_one (by omega) (by omega) (by omega) (by omega)⟩
theorem xH{vs:List V}{v:V}{xs:List Value}(h:rangeT vs H=some (v,H'))(S:aG W H s)(rs:ay W vs xs):
  wpAny gM A (PySem.call (.type "range") xs) (fun z=>aU W H s aH H' fun W' c=>Rel W' v z) E s:=by
 refine gy h (fun h=>jD.el h rs fun u y ry h=>av.el h ry fun b t h=>rh h fun hb e=>?_) fun h=>tN.el h rs fun u y w z ry rz h=>av.el h ry fun a t h=>av.el h rz fun b t' h=>rh h fun hb e=>?_
 ·obtain⟨rfl,rfl⟩:=Prod.mk.inj e;exact call_range_1 (rU S rfl hb)
 ·obtain⟨rfl,rfl⟩:=Prod.mk.inj e;have q:=bj hb;exact call_range_2 (rU S q.1 q.2)
theorem uv{c:Bool}{vs:List V}{v:V}{xs:List Value}(h:yV c vs H=some (v,H'))(S:aG W H s)(rs:ay W vs xs)(hh:A.handled=none):
  wpAny gM A (PySem.call (.type "list") xs) (fun z=>aU W H s aH H' fun W' d=>Rel W' v z) E s:=by
 refine jD.el h rs fun u y rz h=>?_
 obtain⟨us,hu,h⟩:=nQ h;refine Gw h (fun hs h2=>?_) fun d h=>nE h
 obtain hl:=ck hs;refine Lk.inv hu (fun x e1 e2=>?_) fun a b e1 e2=>?_
 ·subst e1;obtain⟨hx,t,rfl⟩:=rz;refine call_list_str hh x t (hn:=br hx) fun h' tk acc c' hk hD f_=>mQ h2 S (Nat.le_refl _) hk hD hl ?_
  rw[e2];refine eY (f_.1.trans (List.length_map ..).symm) fun j v hv=>?_
  obtain⟨c,w,hc,rfl⟩:=f_.2 j v hv;exact⟨.str ⟨#[c]⟩,by simp only[List.getElem?_map,Array.getElem?_toList,hc];rfl,(show 1<ak by decide),w,rfl⟩
 ·subst e1;obtain⟨q,t,w,w',rfl,hz,Qu⟩:=rz;obtain hlen:(b-a).toNat<ak:=by rw[e2,List.length_map,List.length_range] at hl;exact hl
  refine call_list_range hh (S.z _ _ hz) Qu (Mine.rangeSize_one a b).symm (Nat.le_trans (Nat.le_of_lt hlen) (by decide)) fun h' tk acc c' hk hD f_=>mQ h2 S (Nat.le_refl _) hk hD hl ?_
  rw[e2];refine eY (by simp only[f_.1,List.length_map,List.length_range]) fun j v hv=>?_
  obtain hj:=(Array.getElem?_eq_some_iff.mp hv).1;rw[f_.1] at hj;obtain⟨xu,rfl⟩:=f_.2 j v hv;exact⟨.int (a+(j:Int)),by simp only[List.getElem?_map,List.getElem?_range hj];rfl,_,by rw[Int.mul_one]⟩
theorem C7{vs:List V}{v:V}{xs:List Value}(h:Jz vs H=some (v,H'))(S:aG W H s)(rs:ay W vs xs):
  wpAny gM A (PySem.call (.type "tuple") xs) (fun z=>aU W H s aH H' fun W' a=>Rel W' v z) E s:=by
 refine jD.el h rs fun u y ry h=>cM.el h fun us e h=>?_
 subst e;obtain⟨rfl,rfl⟩:=Prod.mk.inj (Option.some.inj h);obtain⟨l,m,ys,rfl,hz,hl,r⟩:=ry;obtain el:us.length=ys.size:=r.length;refine rS (S.z _ _ hz) rfl rfl (br (by omega)) fun h' Qv hk=>?_
 have P₁:ai W H s aH W H {s with heap:=h'}:=ai.grow S aH hk Qv rfl rfl (fun a a h=>h) (fun a a h=>.inl h) rfl rfl;have P₂:=ai.push P₁.sim aH (nL ys 0)
 exact⟨_,P₁.trans S P₂,_,_,_,rfl,Wd.aZ ..,hl,r.mono P₂.le⟩
theorem zZ{c:Bool}{i:String}{vs:List V}{v:V}{xs:List Value}(h:gF c i vs H=some (v,H'))(S:aG W H s)(rs:ay W vs xs)(hh:A.handled=none):
  wpAny gM A (PySem.call (.type i) xs) (fun z=>aU W H s aH H' fun W' a=>Rel W' v z) E s:=
 jT h (fun hc h=>eq_of_beq hc▸C6 h S rs) fun h=>jT h (fun hc h=>eq_of_beq hc▸xH h S rs) fun h=>jT h (fun hc h=>eq_of_beq hc▸uv h S rs hh) fun h=>jT h (fun hc h=>eq_of_beq hc▸C7 h S rs) fun h=>nE h
end
section
variable{n:Nat}{A:Around}{E:Value→Shared→Prop}{W W' W₀:Wd}{H H' H₀:AH}{s s' s₀:Shared}{sc:Scope}{env:ah}{e':Env}
set_option tactic.hygienic true in
theorem ai.uw{X:Addr→Prop}{a:Addr}{ob:Obj}(P:ai W₀ H₀ s₀ X W H s)(f:cC W a)(ha:s₀.heap.objs.size≤a)(g:s.heap.get? a=some ob):ai W₀ H₀ s₀ X (W.add a ob) H s:=by
 obtain S:=P.sim;obtain⟨f1,f2,f3⟩:=f;have tG:∀b o,W.Z b=some o→(W.add a ob).Z b=some o:=fun b o e=>by show(if b=a then some ob else W.Z b)=some o;rw[if_neg (fun q=>by rw[q,f2] at e;exact nE e)];exact e
 have zc:∀b o,(W.add a ob).Z b=some o→(b=a∧o=ob)∨W.Z b=some o:=fun b o e=>by
  have e':(if b=a then some ob else W.Z b)=some o:=e;split at e'
  ·rename_i q;obtain rfl:=Option.some.inj e';exact .inl ⟨q,rfl⟩
  ·exact .inr e'
 have L:W.Le (W.add a ob):=⟨tG,fun d d h=>h⟩;refine⟨⟨fun b o e=>?_,S.i5,S.b_,fun b j h hl=>?_,fun j o e=>?_,fun c Q q hm=>?_,S.base.mono tG⟩,P.le.trans L,P.vK,P.BX,fun b o e=>?_,P.keep,P.cl,P.gone,P.len,P.size,P.os,P.gens⟩
 ·rcases zc b o e with ⟨rfl,rfl⟩|e
  ·exact g
  ·exact S.z b o e
 ·induction hh:(W.add a ob).Z b with
  |none=>rfl|some o=>
   rcases zc b o hh with ⟨rfl,rfl⟩|h'
   ·have h2:W.own b=some j:=h;rw[f1] at h2;exact nE h2
   ·rw[S.qX b j h hl] at h';exact nE h'
 ·obtain⟨b,h1,h2⟩:=S.obj j o e;exact⟨b,h1,h2.keeps L (fun d h=>h) (fun d e=>e) fun d d d e=>e⟩
 ·obtain⟨h1,⟨oc,h0⟩,h2,lY,ps,h3,h4,h5⟩:=S.tab c Q q hm;refine⟨h1,⟨oc,tG _ _ h0⟩,?_,lY,ps,h3,h4,fun pos cv hc=>(h5 pos cv hc).mono tG⟩
  ·induction hh:(W.add a ob).Z Q with
   |none=>rfl|some o=>
    rcases zc Q o hh with ⟨rfl,_⟩|h'
    ·exact absurd ⟨c,q,hm⟩ f3
    ·rw[h2] at h';exact nE h'
 ·rcases zc b o e with ⟨rfl,rfl⟩|e
  ·exact .inr (.inl ha)
  ·exact P.vL b o e
set_option tactic.hygienic true in
theorem ai.z0{X:Addr→Prop}{a:Addr}{o:aE}(P:ai W₀ H₀ s₀ X W H s)(f:cC W a)(ha:s₀.heap.objs.size≤a)(bT:a<s.heap.objs.size)(hr:kU (W.ref H.length a) s.heap a H.length o):
  ai W₀ H₀ s₀ X (W.ref H.length a) (H++[o]) s:=by
 obtain S:=P.sim;obtain⟨f1,f2,f3⟩:=f;obtain L:=Wd.gK S (Nat.le_refl _);have oc:∀b k,(W.ref H.length a).own b=some k→(b=a∧k=H.length)∨(b≠a∧W.own b=some k):=fun b k e=>by
  have e':(if b=a then some H.length else W.own b)=some k:=e;split at e'
  ·rename_i q;obtain rfl:=Option.some.inj e';exact .inl ⟨q,rfl⟩
  ·rename_i q;exact .inr ⟨q,e'⟩
 have vK:∀b k,W.own b=some k→(W.ref H.length a).own b=some k:=fun b k e=>by refine(if_neg (fun q=>by rw[q,f1] at e;exact nE e)).trans ?_;exact e
 refine⟨⟨S.z,fun k b e=>?_,fun b k e=>?_,fun b k e hl=>?_,fun k o' e=>?_,fun c Q q hm=>?_,S.base⟩,P.le.trans L,fun b k e=>vK b k (P.vK b k e),fun b k e=>?_,P.vL,P.keep,P.cl,fun k e=>?_,by simp;exact Nat.le_succ_of_le P.len,P.size,P.os,P.gens⟩
 ·have e':(if k=H.length then some a else W.φ k)=some b:=e;show(if b=a then some H.length else W.own b)=some k;split at e'
  ·rename_i q;obtain rfl:=Option.some.inj e';rw[if_pos rfl,q]
  ·exact vK b k (S.i5 k b e')
 ·rcases oc b k e with ⟨rfl,rfl⟩|⟨_,e⟩
  ·exact⟨by simp,bT⟩
  ·exact⟨by simp;exact Nat.lt_succ_of_lt (S.b_ b k e).1,(S.b_ b k e).2⟩
 ·rcases oc b k e with ⟨rfl,rfl⟩|⟨_,e⟩
  ·exact f2
  ·refine S.qX b k e ?_;obtain⟨q,hq,hn⟩:=hl;rw[List.getElem?_append_left (S.b_ b k e).1] at hq;exact⟨q,hq,hn⟩
 ·by_cases hk:k<H.length
  ·rw[List.getElem?_append_left hk] at e;obtain⟨b,h1,h2⟩:=S.obj k o' e;exact⟨b,L.φ _ _ h1,h2.keeps L (fun b hb=>vK b k hb) (fun d e=>e) fun d d d e=>e⟩
  ·have gz:k=H.length:=by
    have :=(c_ e).1;simp at this;exact aA (nat_lit 0x10251054191801112) ae this hk
   subst gz;rw[List.getElem?_append_right (Nat.le_refl _),Nat.sub_self] at e;obtain rfl:=Option.some.inj e;exact⟨a,Wd.d8 ..,hr⟩
 ·obtain⟨h1,h0,h2,lY,ps,h3,h4,h5⟩:=S.tab c Q q hm;refine⟨h1,h0,h2,?_,ps,h3,h4,h5⟩;show(if Q=a then some H.length else W.own Q)=none;rw[if_neg (fun e=>f3 ⟨c,q,by refine e▸?_;exact hm⟩)];exact lY
 ·rcases oc b k e with ⟨rfl,rfl⟩|⟨_,e⟩
  ·exact .inr ⟨ha,by rw[List.getElem?_eq_none P.len];intro e;cases e⟩
  ·exact P.BX b k e
 ·have :=P.gone k e;have bT:=(c_ this).1;refine(List.getElem?_append_left bT).trans ?_;exact this
theorem xJ{X:Addr→Prop}{c:Bool}{vs:List V}{v:V}{a:Addr}{ys:Array Value}{m:Nat}(h:(if c then gC (.lst vs) else pure (.lst vs)) H=some (v,H'))(P:ai W₀ H₀ s₀ X W H s)(f:cC W a)(ha:s₀.heap.objs.size≤a)
  (g:s.heap.get? a=some (gA ys m))(hl:vs.length<ak)(r:ay W vs ys.toList):∃W',ai W₀ H₀ s₀ X W' H' s∧W.Le W'∧Rel W' v (.ref a)∧∀b,b≠a→cC W b→cC W' b:=by
 induction c with
 |false=>refine gG h ?_;obtain L:W.Le (W.add a (gA ys m)):=⟨fun b o e=>by refine(if_neg (fun q=>by rw[q,f.2.1] at e;exact nE e)).trans ?_;exact e,fun d d h=>h⟩;refine⟨_,P.uw f ha g,L,?_,fun b hb fb=>⟨fb.1,(if_neg hb).trans fb.2.1,fb.2.2⟩⟩;exact⟨a,m,ys,rfl,Wd.aZ ..,hl,r.mono L⟩
 |true=>
  obtain⟨rfl,rfl⟩:=dZ h;have L:W.Le (W.ref H.length a):=Wd.gK P.sim (Nat.le_refl _)
  refine⟨_,P.z0 f ha (Heap.lt_size g) ⟨m,ys,g,hl,r.mono L⟩,L,?_,fun b hb fb=>⟨(if_neg hb).trans fb.1,fb.2.1,fb.2.2⟩⟩;exact⟨a,rfl,Wd.d8 ..⟩
theorem jW{X:Addr→Prop}{c:Bool}{vs:List (Str×V)}{v:V}{a:Addr}{ys:Array DictEntry}{m:Nat}(h:(if c then gC (.bf vs) else pure (.bf vs)) H=some (v,H'))(P:ai W₀ H₀ s₀ X W H s)(f:cC W a)(ha:s₀.heap.objs.size≤a)
  (g:s.heap.get? a=some (cT ys m))(h0:a≠sysModules)(nd:(vs.map (·.1)).Nodup)(hl:vs.length<ak)(r:Reld W vs ys.toList):∃W',ai W₀ H₀ s₀ X W' H' s∧W.Le W'∧Rel W' v (.ref a)∧∀b,b≠a→cC W b→cC W' b:=by
 cases c with
 |false=>refine gG h ?_;obtain L:W.Le (W.add a (cT ys m)):=⟨fun b o e=>by refine(if_neg (fun q=>by rw[q,f.2.1] at e;exact nE e)).trans ?_;exact e,fun d d h=>h⟩;refine⟨_,P.uw f ha g,L,?_,fun b hb fb=>⟨fb.1,(if_neg hb).trans fb.2.1,fb.2.2⟩⟩;exact⟨a,m,ys,rfl,Wd.aZ ..,h0,nd,hl,r.mono L⟩
 |true=>obtain Qw:=(dZ h).1;obtain Qx:=(dZ h).2;subst Qw;subst Qx;obtain L:=Wd.gK P.sim (Nat.le_refl _);refine⟨_,P.z0 f ha (Heap.lt_size g) ⟨m,ys,g,h0,nd,hl,r.mono L⟩,L,?_,fun b hb fb=>⟨(if_neg hb).trans fb.1,fb.2.1,fb.2.2⟩⟩;exact⟨a,rfl,Wd.d8 ..⟩
end
section
variable{n:Nat}{A:Around}{E:Value→Shared→Prop}{W W' W₀:Wd}{H H' H₀:AH}{s s' s₀:Shared}{sc:Scope}{env:ah}{e':Env}
theorem aG.mods(S:aG W H s){a:Addr}(h:s.heap.objs.size≤a):a≠sysModules:=by rintro rfl;exact absurd S.cj.mods (Nat.not_lt_of_le h)
end
set_option tactic.hygienic true in
theorem oV{pos:Pos}{a b:Int}{c cv:Value}:∀(l:List Value),TriplesOk l→codeAmong pos (l++[rawInt a,rawInt b,c])=some cv→codeAmong pos l=some cv∨cv=c
|[],aM,h=>by
 have h':(if a==pos.line&&b==pos.col then some c else codeAmong pos [])=some cv:=h;split at h'
 ·obtain rfl:=Option.some.inj h';exact .inr rfl
 ·exact nE h'
|[x],ht,aM=>by induction x<;>exact ht.elim
|[x,y],ht,aM=>by induction x<;>first|exact ht.elim|(induction y<;>exact ht.elim)
|x::y::z::r,ht,h=>by
 induction x<;>first|exact ht.elim|skip
 induction y<;>first|exact ht.elim|skip
 rename_i x _ y _;have h':(if x==pos.line&&y==pos.col then some z else codeAmong pos (r++[rawInt a,rawInt b,c]))=some cv:=h
 refine(?_:(if x==pos.line&&y==pos.col then some z else codeAmong pos r)=some cv∨_);split at h'
 ·rename_i hc;rw[if_pos hc];exact .inl h'
 ·rename_i hc;rw[if_neg hc];exact oV r ht h'
theorem iU{e:Env}:∀(names:List (Str×NameKind)) (cs:List (Str×Addr)),(∀n∈names,n.2=.free→(e.cells.lookup n.1).isSome=true)→
  ∃cl,(forIn names cs fun(x:Str×NameKind) (cs:List (Str×Addr))=>(match x with |(name,kind)=>if(kind==.free)=true then do let a←cellOf e name;pure (ForInStep.yield ((name,a)::cs)) else pure (ForInStep.yield cs):Sem (ForInStep (List (Str×Addr)))))=pure cl∧
   (∀n,(n,NameKind.free)∈names→cl.lookup n=e.cells.lookup n)∧(∀n,(n,NameKind.free)∉names→cl.lookup n=cs.lookup n)
 |[],cs,aM=>⟨cs,by rw[List.forIn_nil],(fun n h=>nomatch h),fun b b=>rfl⟩|(m,k)::r,cs,h=>by
  rw[List.forIn_cons];obtain hr:=fun n hn=>h n (List.mem_cons_of_mem _ hn)
  by_cases hk:k=.free
  ·subst hk;obtain⟨a,ha⟩:=lF (h _ (List.mem_cons_self ..) rfl);refine(iU r ((m,a)::cs) hr).elim fun cl z5=>?_;obtain g1:=z5.1;obtain g2:=z5.2.1;obtain g3:=z5.2.2
   refine⟨cl,?_,fun n hn=>?_,fun n hn=>?_⟩
   ·have :cellOf e m=pure a:=by unfold cellOf;rw[ha]
    simp only[this,beq_self_eq_true,if_true,pure_bind];exact g1
   ·by_cases Qy:(n,NameKind.free)∈r
    ·exact g2 n Qy
    ·rcases bz hn with e1|e1
     ·cases e1;simp only[g3 _ Qy,List.lookup_cons_self,ha]
     ·exact absurd e1 Qy
   ·obtain h1:=fun q=>hn (List.mem_cons_of_mem _ q)
    obtain h2:n≠m:=fun q=>hn (by refine q▸?_;exact List.mem_cons_self ..)
    simp only[g3 n h1,List.lookup_cons];have :(n==m)=false:=by simpa using h2
    rw[this]
  ·refine(iU r cs hr).elim fun cl Fq=>?_;obtain g1:=Fq.1;obtain g2:=Fq.2.1;obtain g3:=Fq.2.2
   refine⟨cl,?_,fun n hn=>?_,fun n hn=>?_⟩
   ·have :(k==NameKind.free)=false:=by simpa using hk
    simp only[this,Bool.false_eq_true,if_false,pure_bind];exact g1
   ·rcases bz hn with e1|e1
    ·obtain⟨rfl,rfl⟩:=Prod.mk.inj e1;exact absurd rfl hk
    ·exact g2 n e1
   ·exact g3 n fun q=>hn (List.mem_cons_of_mem _ q)
section
variable{n:Nat}{A:Around}{E:Value→Shared→Prop}{W W' W₀:Wd}{H H' H₀:AH}{s s' s₀:Shared}{sc au:Scope}{env:ah}{e':Env}
theorem eZ(h:fY sc au=true):au.kind=.function∧(au.names.map (·.1)).Nodup∧gr au=false∧∀x,(x,NameKind.free)∈au.names→(kindOf sc x=some .cell∨kindOf sc x=some .free)∧x≠Str.ofString "__classdict__":=by
 unfold fY at h;simp only[Bool.and_eq_true,beq_iff_eq,decide_eq_true_eq,Bool.not_eq_true',List.all_eq_true] at h;refine h.elim fun Qz h4=>?_;refine Qz.elim fun QA h3=>?_;refine QA.elim fun h1 h2=>?_
 refine⟨h1,h2,h3,fun x hx=>?_⟩;obtain this:=h4 _ hx;simp only[Bool.or_eq_true,bne_iff_ne,ne_eq,not_true_eq_false,false_or,Bool.and_eq_true,beq_iff_eq] at this;exact this
theorem mapM_some{α β:Type}{f:α→Option β}:∀{l:List α} {r:List β},l.mapM f=some r→∀x∈l,∃y,f x=some y∧y∈r
|[],r,h,x,hx=>by cases hx
|a::l,r,h,x,hx=>by
 rw[List.mapM_cons] at h;induction ha:f a with
 |none=>obtain h:=ha▸h;exact nE h
 |some b=>
  rw[ha] at h;induction hr:l.mapM f with
  |none=>obtain h:=hr▸h;exact nE h
  |some bs=>
   rw[hr] at h;obtain rfl:=Option.some.inj h;rcases bz hx with rfl|hx
   ·exact⟨b,ha,List.mem_cons_self ..⟩
   ·refine(mapM_some hr x hx).elim fun y Te=>?_;obtain h1:=Te.1;obtain h2:=Te.2
    exact⟨y,h1,List.mem_cons_of_mem _ h2⟩
theorem oW{α β:Type}{f:α→Option β}:∀{l:List α} {r:List β},l.mapM f=some r→∀y∈r,∃x∈l,f x=some y
|[],r,h,y,hy=>by obtain rfl:=Option.some.inj h;cases hy
|a::l,r,h,y,hy=>by
 rw[List.mapM_cons] at h;induction ha:f a with
 |none=>obtain h:=ha▸h;exact nE h
 |some b=>
  rw[ha] at h;induction hr:l.mapM f with
  |none=>obtain h:=hr▸h;exact nE h
  |some bs=>
   rw[hr] at h;obtain rfl:=Option.some.inj h;rcases bz hy with rfl|hy
   ·exact⟨a,List.mem_cons_self ..,ha⟩
   ·refine(oW hr y hy).elim fun x Tf=>?_;obtain h1:=Tf.1;obtain h2:=Tf.2
    exact⟨x,List.mem_cons_of_mem _ h1,h2⟩
theorem gf{cQ:List (Str×V)}(h:eS au env=some cQ):(∀x,(x,NameKind.free)∈au.names→∃v,a_ env x=some v∧(x,v)∈cQ)∧∀x v,(x,v)∈cQ→(x,NameKind.free)∈au.names∧a_ env x=some v:=by
 refine⟨fun x hx=>?_,fun x v hv=>?_⟩
 ·obtain⟨y,h1,h2⟩:=mapM_some h (x,.free) (List.mem_filter.mpr ⟨hx,by rfl⟩);induction hl:a_ env x with
  |none=>obtain h1:=hl▸h1;exact nE h1
  |some v=>rw[hl] at h1;obtain rfl:=Option.some.inj h1;exact⟨v,rfl,h2⟩
 ·obtain⟨⟨m,k⟩,h1,h2⟩:=oW h (x,v) hv;obtain hm:=(wX h1).1;obtain hk:=(wX h1).2;obtain hk:k=.free:=by simpa using hk
  subst hk;induction hl:a_ env m with
  |none=>obtain h2:=hl▸h2;exact nE h2
  |some u=>rw[hl] at h2;cases h2;exact⟨hm,hl⟩
theorem mR{cQ:List (Str×V)}(hc:eS au env=some cQ)(f6:fY sc au=true)(N:ao sc env e' W s):
  ∃cl,closureFor au e'=pure cl∧(∀x,(x,NameKind.free)∈au.names→cl.lookup x=e'.cells.lookup x)∧∀x,(x,NameKind.free)∉au.names→cl.lookup x=none:=by
 obtain QB:=eZ f6;obtain mS:=QB.2.2.2;refine(gf hc).elim fun c1 b=>?_
 obtain hs:∀m∈au.names,m.2=.free→(e'.cells.lookup m.1).isSome=true:=fun m hm hk=>by
  obtain⟨x,k⟩:=m;subst hk;refine(c1 x hm).elim fun v QC=>?_;obtain hv:=QC.1
  rcases(mS x hm).1 with h|h
  ·obtain⟨c,_,_,h1,_⟩:=N.cells x h;rw[h1];rfl
  ·obtain⟨c,_,_,h1,_⟩:=N.frees x v h hv;rw[h1];rfl
 refine(iU au.names [] hs).elim fun cl z3=>?_;obtain g1:=z3.1;obtain g2:=z3.2.1;obtain g3:=z3.2.2
 refine⟨cl,?_,g2,fun x hx=>by rw[g3 x hx];rfl⟩;show(forIn au.names ([]:List (Str×Addr)) (fun(x:Str×NameKind) (cs:List (Str×Addr))=>(match x with |(name,kind)=>if(kind==.free)=true then do let a←cellOf e' name;pure (ForInStep.yield ((name,a)::cs)) else pure (ForInStep.yield cs):Sem (ForInStep (List (Str×Addr)))))>>=fun r=>pure r)=pure cl
 rw[g1];rfl
end
section
variable{n:Nat}{A:Around}{E:Value→Shared→Prop}{W W' W₀:Wd}{H H' H₀:AH}{s s' s₀:Shared}{sc au:Scope}{env:ah}{e':Env}
set_option tactic.hygienic true in
theorem ai.table(S:aG W H s)(X:Addr→Prop){c P c':Addr}{q:Str}{ps:Array Value}{oc:Obj}{vs:Array Value}{t:Tok}{a b:Int}{h':Heap}{tk:Nat}(hm:(c,P,q)∈G.tabs)(hP:s.heap.get? P=some (tabObj ps))
  (hx:Heap.ExtBut P s.heap h')(hsz:s.heap.objs.size≤h'.objs.size)(v9:s.heap.objs.size≤c')(QD:h'.get? c'=some oc)(hd:oc.data=.fields vs)(hv:vs[1]?=some (.str (q++"<lambda>") t))
  (ux:h'.get? P=some (tabObj (ps++#[rawInt a,rawInt b,.ref c']))):ai W H s X (W.add c' oc) H {s with heap:=h',toks:=tk}:=by
 obtain⟨_,_,zP,oP,NY,gP,tP,cP⟩:=S.tab c P q hm;have :NY=ps:=by
  rw[hP] at gP;have :=Option.some.inj gP
  simp only[tabObj,Obj.mk.injEq,Data.fields.injEq,true_and,and_true] at this;exact this.symm
 subst this;obtain zc:=S.gJ v9;obtain VE:=S.cH v9;have tG:∀b o,W.Z b=some o→(W.add c' oc).Z b=some o:=fun b o e=>by show(if b=c' then some oc else W.Z b)=some o;rw[if_neg (fun q=>by rw[q,zc] at e;exact nE e)];exact e
 have QE:∀b o,(W.add c' oc).Z b=some o→(b=c'∧o=oc)∨W.Z b=some o:=fun b o e=>by
  have e':(if b=c' then some oc else W.Z b)=some o:=e;split at e'
  ·rename_i q;obtain rfl:=Option.some.inj e';exact .inl ⟨q,rfl⟩
  ·exact .inr e'
 have L:W.Le (W.add c' oc):=⟨tG,fun d d h=>h⟩;have zk:=fun b o e=>hx b o (fun q=>by rw[q,zP] at e;exact nE e) (S.z b o e)
 have ok:∀b k o,W.own b=some k→s.heap.get? b=some o→h'.get? b=some o:=fun b k o hb e=>hx b o (fun q=>by rw[q,oP] at hb;exact nE hb) e
 refine⟨⟨fun b o e=>?_,S.i5,fun b k e=>⟨(S.b_ b k e).1,Nat.lt_of_lt_of_le (S.b_ b k e).2 hsz⟩,fun b k e hl=>?_,fun k o e=>?_,fun c2 P2 q2 Tg=>?_,S.base.mono tG⟩,L,fun d d h=>h,fun d d h=>.inl h,fun b o e=>?_,fun b o e hn d d=>hx b o (fun q1=>hn ⟨c,q,by rw[q1];exact hm⟩) e,fun b QF ht e=>?_,fun d h=>h,Nat.le_refl _,hsz,rfl,rfl⟩
 ·rcases QE b o e with ⟨rfl,rfl⟩|e
  ·exact QD
  ·exact zk b o e
 ·induction hh:(W.add c' oc).Z b with
  |none=>rfl|some o=>
   rcases QE b o hh with ⟨rfl,rfl⟩|h1
   ·have e2:W.own b=some k:=e;rw[VE] at e2;exact nE e2
   ·rw[S.qX b k e hl] at h1;exact nE h1
 ·obtain⟨b,h1,h2⟩:=S.obj k o e;exact⟨b,h1,h2.keeps L (fun d h=>h) (fun ob e=>ok b k ob (S.i5 k b h1) e) fun b' ob hb e=>ok b' k ob hb e⟩
 ·obtain⟨h1,⟨Th,h0⟩,h2,lY,QF,h3,h4,h5⟩:=S.tab c2 P2 q2 Tg
  have hd2:CodeHd h' c2 P2:=by
   obtain⟨o,VF,file,tf,flags,tg,GH,text,tt,e,r⟩:=h1;have :=S.z _ _ h0
   rw[e] at this;cases this;exact⟨_,VF,file,tf,flags,tg,GH,text,tt,zk _ _ h0,r⟩
  have Ti:(W.add c' oc).Z P2=none:=by show(if P2=c' then some oc else W.Z P2)=none;rw[if_neg (fun q=>absurd (Heap.lt_size h3) (Nat.not_lt_of_le (by rw[q];exact v9)))];exact h2
  by_cases Tj:P2=P
  ·subst Tj;obtain VG:=S.cj.zq c P2 q c2 q2 hm Tg;subst VG;rw[gP] at h3;have :QF=NY:=by have :=Option.some.inj h3;simp only[tabObj,Obj.mk.injEq,Data.fields.injEq,true_and,and_true] at this;exact this.symm
   subst this;refine⟨hd2,⟨Th,tG _ _ h0⟩,Ti,lY,_,ux,by rw[Array.toList_append];exact TriplesOk_snoc _ _ _ _ h4,fun pos cv hc=>?_⟩;rw[Array.toList_append] at hc;rcases oV _ h4 hc with hc|rfl
   ·exact(h5 pos cv hc).mono tG
   ·exact⟨c',oc,vs,t,rfl,Wd.aZ ..,hd,hv⟩
  ·refine⟨hd2,⟨Th,tG _ _ h0⟩,Ti,lY,QF,hx _ _ Tj h3,h4,fun pos cv hc=>(h5 pos cv hc).mono tG⟩
 ·rcases QE b o e with ⟨rfl,rfl⟩|e
  ·exact .inr (.inl v9)
  ·exact .inl e
 ·by_cases hb:b=P
  ·subst hb;rw[hP] at e;obtain this:=Option.some.inj e;simp only[tabObj,Obj.mk.injEq,Data.fields.injEq,true_and,and_true] at this;subst this;exact⟨_,ux⟩
  ·exact⟨#[],by exact hx _ _ hb e⟩
theorem C8{cQ:List (Str×V)}{cl:List (Str×Addr)}(hc:eS au env=some cQ)(f6:fY sc au=true)(yL:cQ.all (fun kv=>G.C.wo kv.1)=true)(N:ao sc env e' W s)
  (ku:∀x,(x,NameKind.free)∈au.names→cl.lookup x=e'.cells.lookup x):kR W cQ cl:=by
 refine(eZ f6).elim fun VH QG=>?_;obtain mS:=QG.2.2
 obtain⟨c1,c2⟩:=gf hc;obtain key:∀l:List (Str×V),(∀p∈l,p∈cQ)→kR W l cl:=by
  intro l;induction l with
  |nil=>intro _;trivial|cons p r ih=>
   obtain⟨x,v⟩:=p;intro hp;refine⟨?_,ih fun p hm=>hp p (List.mem_cons_of_mem _ hm)⟩;obtain hm:=hp (x,v) (List.mem_cons_self ..);refine(c2 x v hm).elim fun hx hv=>?_
   have hw:G.C.wo x=true:=cO yL _ hm;rcases(mS x hx).1 with h|h
   ·obtain⟨c,o,u,h1,h2,h3,h4,h5,h6⟩:=N.cells x h;rw[hv] at h6;obtain⟨⟨y,rfl,ry⟩,hz⟩:=h6;rw[if_pos hw] at hz;exact⟨c,o,y,by refine(ku x hx).trans ?_;exact h1,hz,h4,ry⟩
   ·obtain⟨c,o,y,h1,h2,h4,h5,_,h6⟩:=N.frees x v h hv;rcases h6 with h6|⟨h6,_⟩
    ·exact⟨c,o,y,by refine(ku x hx).trans ?_;exact h1,h6,h4,h5⟩
    ·rw[hw] at h6;exact nomatch h6
 exact key cQ fun p h=>h
end
noncomputable def Out.expr(out:Out)(gens:List Comprehension)(au:Scope)(pos:Pos):Expr:=match out with |.e x=>.ListComp x gens au pos|.kv k v=>.DictComp k v gens au pos
noncomputable def emitC(out:Out)(acc:Value)(env:Env):Sem Unit:=match out with
|.e elt=>do let _←call (.builtin "list.append") [acc,←eval elt env]
|.kv k v=>do
 let kv←eval k env;let vv←holding [kv] (eval v env)
 match acc with
 |.ref d=>do
  standAt {k.pos with endLine:=v.pos.endLine,endCol:=v.pos.endCol}
  holding [kv,vv] (dictSet d kv vv)
 |_=>unsupported "internal:dictcomp"
noncomputable def oX(out:Out)(gens:List Comprehension)(au:Scope)(pos:Pos)(d:Nat)(acc:Value)(env:Env)(K:Sem PySem.Fin):Sem PySem.Fin:=match gens[d+1]? with
|some g'=>do
 let x←eval g'.iter env
 standAt g'.iter.pos
 let x←if g'.is_async !=0 then foldedIterable g'.iter x else foldedSetIterable g'.iter env x
 let _←runOwn (.compStart (out.expr gens au pos) (d+1) (←holding [x] (if g'.is_async !=0 then asyncIter x else pyIter x)) acc env) env
 K
|none=>do
 emitC out acc env
 K
theorem compTurn_gen{out:Out}{gens:List Comprehension}{au:Scope}{pos:Pos}{d:Nat}{it acc:Value}{env:Env}{g:Comprehension}(hg:gens[d]?=some g)(ha:g.is_async=0):
  compTurn (out.expr gens au pos) d it acc env=(do
   standAt g.iter.pos
   match ←pyNext it with
   |none=>pure (.done .next)|some v=>
    letOwnedTupleGo g.target it v
    assign g.target env v
    let mut ok:=true
    for c in g.ifs do
     if ok then ok←isTrue c env (eval c env)
    if ok then
     oX out gens au pos d acc env (again (.compLoop (out.expr gens au pos) d it acc env))
    else again (.compLoop (out.expr gens au pos) d it acc env)):=by
 obtain⟨t,i,f,a⟩:=g;cases ha;induction out with |e x=>unfold compTurn Out.expr;dsimp only;rw[hg];rfl|kv k v=>unfold compTurn Out.expr;dsimp only;rw[hg];rfl
section
variable{A:Around}{E:Value→Shared→Prop}{R:Result→Shared→Prop}{s:Shared}
theorem iK{out:Out}{gens:List Comprehension}{au:Scope}{pos:Pos}{d:Nat}{it acc:Value}{env:Env}{g:Comprehension}(hg:gens[d]?=some g)(ha:g.is_async=0)
  (h0:codeAny gM A (.compLoop (out.expr gens au pos) d it acc env) R s)
  (h:wpAny gM A (pyIter it) (fun Ft s'=>codeAny gM A (.compLoop (out.expr gens au pos) d Ft acc env) R s') (notedBy gM A env fun x s'=>R (.error x) s') s):
  codeAny gM A (.compStart (out.expr gens au pos) d it acc env) R s:=by
 have ku:clausesOf (out.expr gens au pos)=gens:=by induction out<;>rfl
 refine codeAny_of_tree ?_
 have GR:wpAny gM A ((compStart (out.expr gens au pos) d it acc env).onRaise (fun x=>do noteFrame x env;standAt theWindowsPlace)) (fun fin s'=>match fin with |.done f=>R (.ok f) s'|.again c'=>c'.quiet=true∧codeAny gM A c' R s')
   (fun e s'=>R (.error e) s') s:=by
  refine wpAny_notedAt ?_;unfold compStart;rw[ku,hg];obtain VI:(some g).elim false (fun x=>x.is_async !=0)=false:=by simp[ha]
  refine VI.symm▸?_;have Tn:(Code.compLoop (out.expr gens au pos) d it acc env).quiet=true:=by induction out<;>rfl
  have Ll:∀Ft,(Code.compLoop (out.expr gens au pos) d Ft acc env).quiet=true:=fun Ft=>by induction out<;>rfl
  refine wpAny_bind (wpAny_askSetting (wpAny_ite ?_));split
  ·first
    |exact wpAny_bind (wpAny_pure (wpAny_pure (And.intro Tn h0)))|exact wpAny_pure (And.intro Tn h0)
  ·first
    |exact wpAny_bind (wpAny_rule (wpAny_bind (wpAny_standAt (wpAny_bind (wpAny_mono h (fun Ft s' h'=>wpAny_pure (And.intro (Ll Ft) h')) fun a a x=>x)))))|(refine wpAny_bind (wpAny_rule ?_);exact wpAny_bind (wpAny_standAt (wpAny_bind (wpAny_mono h (fun Ft s' h'=>wpAny_pure (And.intro (Ll Ft) h')) fun a a x=>x))))
 induction out<;>exact GR
theorem p_{out:Out}{gens:List Comprehension}{au:Scope}{pos:Pos}{d:Nat}{it acc:Value}{env:Env}{g:Comprehension}(hg:gens[d]?=some g)(ha:g.is_async=0)(I:Nat→Shared→Prop)
  (turn:∀n s,I n s→∀(E:Value→Shared→Prop) (Q:Option Value→Shared→Prop) (B:Bool→Shared→Prop) (K:Sem PySem.Fin) (T:PySem.Fin→Shared→Prop),(∀s',R (.ok .next) s'→Q none s')→
   (∀v s',wpAny gM A (letOwnedTupleGo g.target it v) (fun a s₀=>wpAny gM A (assign g.target env v) (fun a s₂=>wpAny gM A (forIn g.ifs true fun c r=>if r=true then do let ok←isTrue c env (eval c env);pure (ForInStep.yield ok) else pure (ForInStep.yield r)) B E s₂) E s₀) E s'→Q (some v) s')→
   (∀s',wpAny gM A (oX out gens au pos d acc env K) T E s'→B true s')→(∀m s',m<n→I m s'→wpAny gM A K T E s')→(∀m s',m<n→I m s'→B false s')→wpAny gM A (pyNext it) Q E s)
  (n:Nat)(h:I n s):codeAny gM A (.compLoop (out.expr gens au pos) d it acc env) R s:=by
 have hq:(Code.compLoop (out.expr gens au pos) d it acc env).quiet=true:=by induction out<;>rfl
 refine codeAny_loop hq I (fun n s hI=>?_) n h;have GR:wpAny gM A ((compTurn (out.expr gens au pos) d it acc env).onRaise (fun x=>do noteFrame x env;theTreesLotGoes x)) (fun fin s'=>match fin with |.done f=>R (.ok f) s'|.again c'=>c'=.compLoop (out.expr gens au pos) d it acc env∧∃m,m<n∧I m s') (fun e s'=>R (.error e) s') s:=by
  refine wpAny_noted ?_;refine(compTurn_gen hg ha)▸?_;exact wpAny_bind (wpAny_standAt (wpAny_bind (turn n s hI _ _ (fun ok s'=>wpAny gM A (if ok=true then oX out gens au pos d acc env (again (.compLoop (out.expr gens au pos) d it acc env)) else again (.compLoop (out.expr gens au pos) d it acc env)) _ _ s') (again (.compLoop (out.expr gens au pos) d it acc env)) _ (fun a h=>wpAny_pure h) (fun v a h=>wpAny_bind (wpAny_mono h (fun a a h=>wpAny_bind (wpAny_mono h (fun a a h=>wpAny_bind h) fun a a h=>h)) fun a a h=>h)) (fun a h=>h) (fun m a hm h=>wpAny_pure ⟨rfl,m,hm,h⟩) fun m a hm h=>wpAny_pure ⟨rfl,m,hm,h⟩)))
 induction out<;>exact GR
end
section
variable{n:Nat}{A:Around}{E:Value→Shared→Prop}{W W' W₀:Wd}{H H' H₀:AH}{s s' s₀:Shared}{sc au:Scope}{env:ah}{e':Env}
theorem oY{env:Env}:∀(cs:List Expr),(forIn cs false fun c r=>if r=true then do let ok←PySem.isTrue c env (PySem.eval c env);pure (ForInStep.yield ok) else pure (ForInStep.yield r):Sem Bool)=pure false|[]=>by rfl|c::r=>by rw[List.forIn_cons];exact oY r
def iB(W:Wd)(s:Shared)(a:Addr):Acc→Prop|.l vs=>∃ys m,s.heap.get? a=some (gA ys m)∧vs.length<ak∧ay W vs ys.toList|.d kvs=>∃es m,s.heap.get? a=some (cT es m)∧a≠sysModules∧(kvs.map (·.1)).Nodup∧kvs.length<ak∧Reld W kvs es.toList
theorem iB.keep{a:Addr}{ac:Acc}{X:Addr→Prop}(x:iB W s a ac)(f:cC W a)(P:ai W H s X W' H' s')(hx:¬X a):iB W' s' a ac∧cC W' a:=by
 have kp:=fun o ho=>P.keep a o ho f.2.2 (fun k h=>by rw[f.1] at h;exact nE h) hx
 induction ac with
 |l vs=>obtain⟨ys,m,g,hl,r⟩:=x;exact⟨⟨ys,m,kp _ g,hl,r.mono P.le⟩,f.post P (Heap.lt_size g) hx⟩
 |d kvs=>obtain⟨es,m,g,h0,nd,hl,r⟩:=x;exact⟨⟨es,m,kp _ g,h0,nd,hl,r.mono P.le⟩,f.post P (Heap.lt_size g) hx⟩
def Apart(au:Scope)(e':Env)(a:Addr):Prop:=a≠e'.locals∧∀y,(kindOf au y=some .cell∨kindOf au y=some .free)→e'.cells.lookup y≠some a
theorem Apart.fq{a:Addr}(h:Apart au e' a):¬bY au e' a:=by
 rintro(rfl|⟨y,hy,hl⟩)
 ·exact h.1 rfl
 ·exact h.2 y (.inl hy) hl
theorem dG{a:Addr}{h':Heap}{tk:Nat}(S:aG W H s)(f:cC W a)(yK:Heap.SameBut a s.heap h'):ai W H s (fun b=>b=a) W H {s with heap:=h',toks:=tk}:=ai.free S (fun b hb=>by exact hb▸(f)) (fun b o hb ho=>yK.extBut b o hb ho) (Nat.le_of_eq yK.1.symm) rfl rfl
end
section
variable{n:Nat}{A:Around}{E:Value→Shared→Prop}{W W' W₀:Wd}{H H' H₀:AH}{s s' s₀:Shared}{sc au:Scope}{env:ah}{e':Env}
theorem iB.lt{a:Addr}{ac:Acc}(x:iB W s a ac):a<s.heap.objs.size:=by
 induction ac with
 |l vs=>obtain⟨ys,m,g,_⟩:=x;exact Heap.lt_size g
 |d kvs=>obtain⟨es,m,g,_⟩:=x;exact Heap.lt_size g
theorem SrcAt.lg{b:Addr}(x:SrcAt W H s b):¬cC W b:=fun f=>by
 obtain⟨_,hz⟩:=x;rcases hz with ⟨k,hz,_⟩|⟨o',hz⟩
 ·rw[f.1] at hz;exact nE hz
 ·rw[f.2.1] at hz;exact nE hz
theorem qa{α:Type}{l:List α}{d:Nat}{x:α}{r:List α}(h:l.drop d=x::r):l[d]?=some x∧l.drop (d+1)=r:=by
 constructor
 ·have :=List.getElem?_drop (xs:=l) (i:=d) (j:=0);rw[h] at this;simpa using this.symm
 ·rw[←List.drop_drop,h];rfl
end
noncomputable abbrev I2(u:Option Value):Obj:={cls:=.type "cell",data:=.cell u}
section
variable{M:Model}{A:Around}{E:Value→Shared→Prop}{s:Shared}
theorem z7(names:List (Str×NameKind))(cells:List (Str×Addr)){s:Shared}{Q:List (Str×Addr)→Shared→Prop}
  (h:∀r h',(∀b o,s.heap.get? b=some o→h'.get? b=some o)→s.heap.objs.size≤h'.objs.size→(∀x,(x,NameKind.cell)∈names→∃c,r.lookup x=some c∧s.heap.objs.size≤c∧h'.get? c=some (I2 none))→(∀x,(x,NameKind.cell)∉names→r.lookup x=cells.lookup x)→(∀x y c,(x,NameKind.cell)∈names→(y,NameKind.cell)∈names→r.lookup x=some c→r.lookup y=some c→x=y)→Q r {s with heap:=h'}):
  wpAny M A (forIn names cells fun(x:Str×NameKind) (cs:List (Str×Addr))=>(match x with |(name,kind)=>if(kind==.cell)=true then do let a←alloc {cls:=.type "cell",data:=.cell none};pure (ForInStep.yield ((name,a)::cs)) else pure (ForInStep.yield cs):Sem (ForInStep (List (Str×Addr))))) Q E s:=by
 induction names generalizing cells s Q with
 |nil=>exact wpAny_pure (h cells s.heap (fun d d e=>e) (Nat.le_refl _) (fun x hx=>nomatch hx) (fun d d=>rfl) (fun x y c hx=>nomatch hx))|cons p rest ih=>
  obtain⟨m,k⟩:=p;rw[List.forIn_cons];by_cases hk:k=.cell
  ·subst hk;refine wpAny_bind (wpAny_bind (wpAny_alloc (wpAny_pure ?_)));refine ih ((m,s.heap.objs.size)::cells) fun r h' hk hsz h1 h2 h3=>?_
   have hsz:s.heap.objs.size+1≤h'.objs.size:=by
    have :(s.heap.push (I2 none)).objs.size≤h'.objs.size:=hsz
    rwa [Heap.size_push] at this
   have h1:∀x,(x,NameKind.cell)∈rest→∃c,r.lookup x=some c∧s.heap.objs.size+1≤c∧h'.get? c=some (I2 none):=fun x hx=>by
    refine(h1 x hx).elim fun c z2=>?_;obtain e1:=z2.1;obtain e2:=z2.2.1;obtain e3:=z2.2.2
    rw[Heap.size_push] at e2;exact⟨c,e1,e2,e3⟩
   have hm:(m,NameKind.cell)∉rest→r.lookup m=some s.heap.objs.size:=fun hn=>by simp only[h2 m hn,List.lookup_cons_self]
   refine h r h' (fun b o e=>hk b o (Heap.get?_push_of_some _ e)) (Ln.go (nat_lit 281548411109633) [_,_,0] ae hsz) (fun x hx=>?_) (fun x hx=>?_) (fun x y c hx hy e1 e2=>?_)
   ·by_cases hr:(x,NameKind.cell)∈rest
    ·obtain⟨c,e1,e2,e3⟩:=h1 x hr;exact⟨c,e1,aA (nat_lit 281548411109633) ae e2,e3⟩
    ·rcases bz hx with e|e
     ·cases e;exact⟨_,hm hr,Nat.le_refl _,hk _ _ (Heap.get?_push_size _ rfl)⟩
     ·exact absurd e hr
   ·have hr:=fun q=>hx (List.mem_cons_of_mem _ q)
    have cI:x≠m:=fun q=>hx (by refine q▸?_;exact List.mem_cons_self ..)
    simp only[h2 x hr,List.lookup_cons];have :(x==m)=false:=by simpa using cI
    rw[this]
   ·by_cases NZ:(x,NameKind.cell)∈rest
    ·by_cases I3:(y,NameKind.cell)∈rest
     ·exact h3 x y c NZ I3 e1 e2
     ·rcases bz hy with e|e
      ·cases e;rw[hm I3] at e2;cases e2;obtain⟨c',e3,e4,_⟩:=h1 x NZ;rw[e1] at e3;obtain rfl:=Option.some.inj e3;exact absurd e4 (Nat.not_succ_le_self _)
      ·exact absurd e I3
    ·rcases bz hx with e|e
     ·cases e;rw[hm NZ] at e1;obtain rfl:=Option.some.inj e1;by_cases I3:(y,NameKind.cell)∈rest
      ·obtain⟨c',e3,e4,_⟩:=h1 y I3;rw[e2] at e3;obtain rfl:=Option.some.inj e3;exact absurd e4 (Nat.not_succ_le_self _)
      ·rcases bz hy with e|e
       ·cases e;rfl
       ·exact absurd e I3
     ·exact absurd e NZ
  ·have hb:(k==NameKind.cell)=false:=by simpa using hk
   simp only[hb,Bool.false_eq_true,if_false];refine wpAny_bind (wpAny_pure ?_);refine ih cells fun r h' gz hsz h1 h2 h3=>h r h' gz hsz (fun x hx=>?_) (fun x hx=>?_) (fun x y c hx hy=>?_)
   ·rcases bz hx with e|e
    ·cases e;exact absurd rfl hk
    ·exact h1 x e
   ·exact h2 x fun q=>hx (List.mem_cons_of_mem _ q)
   ·have Cq:(x,NameKind.cell)∈rest:=by
     rcases bz hx with e|e
     ·cases e;exact absurd rfl hk
     ·exact e
    have Kf:(y,NameKind.cell)∈rest:=by
     rcases bz hy with e|e
     ·cases e;exact absurd rfl hk
     ·exact e
    exact h3 x y c Cq Kf
theorem xK{scope:Scope}{globals:Addr}{cl:List (Str×Addr)}{qual:Str}{e':Env}{Q:Env→Shared→Prop}
  (h:∀r h',(∀b o,s.heap.get? b=some o→h'.get? b=some o)→s.heap.objs.size<h'.objs.size→h'.get? s.heap.objs.size=some {cls:=.type "dict",data:=.dict #[]}→
   (∀x,(x,NameKind.cell)∈scope.names→∃c,r.lookup x=some c∧s.heap.objs.size<c∧h'.get? c=some (I2 none))→
   (∀x,(x,NameKind.cell)∉scope.names→r.lookup x=cl.lookup x)→(∀x y c,(x,NameKind.cell)∈scope.names→(y,NameKind.cell)∈scope.names→r.lookup x=some c→r.lookup y=some c→x=y)→
   Q {scope,locals:=s.heap.objs.size,globals,cells:=r,qual,func:=none,code:=e'.code,frame:=e'.frame,builtins:=e'.builtins} {s with heap:=h'}):
  wpAny M A (newFunctionEnv scope globals cl [] qual none .none (some e')) Q E s:=by
 refine wpAny_bind (wpAny_alloc ?_);refine wpAny_bind (z7 scope.names cl fun r h' hk hsz h1 h2 h3=>?_);obtain hsz:s.heap.objs.size+1≤h'.objs.size:=by
  have :(s.heap.push {cls:=.type "dict",data:=.dict #[]}).objs.size≤h'.objs.size:=hsz
  rwa [Heap.size_push] at this
 refine wpAny_bind (wpAny_of_eq (List.forIn_nil ..) (wpAny_pure ?_));refine h r h' (fun b o e=>hk b o (Heap.get?_push_of_some _ e)) hsz (hk _ _ (Heap.get?_push_size _ rfl)) (fun x hx=>?_) h2 h3;refine(h1 x hx).elim fun c GS=>?_;obtain e1:=GS.1;obtain e2:=GS.2.1;obtain e3:=GS.2.2
 rw[Heap.size_push] at e2;exact⟨c,e1,e2,e3⟩
end
theorem gV{env:Env}:∀{names:List (Str×NameKind)} {x:Str} {k:NameKind},names.lookup x=some k→
  (names.map fun(n,k)=>if(k==NameKind.free&&env.scope.kind==.function&&env.kindOf n==some .cell) then(n,NameKind.cell) else(n,k)).lookup x=some k∨
  (k=.free∧(names.map fun(n,k)=>if(k==NameKind.free&&env.scope.kind==.function&&env.kindOf n==some .cell) then(n,NameKind.cell) else(n,k)).lookup x=some .cell)
 |[],aM,bL,h=>by exact nE h|(n,j)::r,x,k,h=>by
  obtain ih:=@gV env r x k;refine(?_:List.lookup x ((if(j==NameKind.free&&env.scope.kind==.function&&env.kindOf n==some .cell)=true then(n,NameKind.cell) else(n,j))::_)=_∨(_∧List.lookup x ((if(j==NameKind.free&&env.scope.kind==.function&&env.kindOf n==some .cell)=true then(n,NameKind.cell) else(n,j))::_)=_));induction hx:x==n with
  |true=>
   simp only[List.lookup_cons,hx] at h;obtain rfl:=Option.some.inj h;by_cases hc:(j==NameKind.free&&env.scope.kind==.function&&env.kindOf n==some .cell)=true
   ·rw[if_pos hc];simp only[Bool.and_eq_true,beq_iff_eq] at hc;simp only[List.lookup_cons,hx];exact .inr ⟨hc.1.1,trivial⟩
   ·rw[if_neg hc];simp only[List.lookup_cons,hx];exact .inl trivial
  |false=>
   simp only[List.lookup_cons,hx] at h;by_cases hc:(j==NameKind.free&&env.scope.kind==.function&&env.kindOf n==some .cell)=true
   ·rw[if_pos hc];simp only[List.lookup_cons,hx];exact ih h
   ·rw[if_neg hc];simp only[List.lookup_cons,hx];exact ih h
section
variable{n:Nat}{A:Around}{E:Value→Shared→Prop}{W W' W₀:Wd}{H H' H₀:AH}{s s' s₀ s₂ s₃:Shared}{sc au:Scope}{env:ah}{e':Env}
theorem mT{l:List (Str×V)}{x:Str}{v:V}(h:a_ l x=some v):(x,v)∈l:=mem_of_lookup h
theorem uy{cQ:List (Str×V)}{cl r:List (Str×Addr)}{L:Addr}{n0:Nat}{o:Obj}(I4:gr sc=false)(f6:fY sc au=true)(kW:eS au env=some cQ)(N:ao sc env e' W s)(To:s.heap.objs.size=n0)
  (hk:∀b o,s.heap.get? b=some o→s'.heap.get? b=some o)(fr:∀b,n0≤b→cC W b)(ku:∀x,(x,NameKind.free)∈au.names→cl.lookup x=e'.cells.lookup x)
  (gL:s'.heap.get? L=some {cls:=.type "dict",data:=.dict #[]})(hL:n0≤L)
  (h1:∀x,(x,NameKind.cell)∈au.names→∃c,r.lookup x=some c∧L<c∧s'.heap.get? c=some (I2 none))(h2:∀x,(x,NameKind.cell)∉au.names→r.lookup x=cl.lookup x)
  (h3:∀x y c,(x,NameKind.cell)∈au.names→(y,NameKind.cell)∈au.names→r.lookup x=some c→r.lookup y=some c→x=y)(glob:e'.globals=mainGlobals):
  ao au cQ {scope:=relabel au e',locals:=L,globals:=e'.globals,cells:=r,qual:=e'.qual,func:=none,code:=e'.code,frame:=e'.frame,builtins:=e'.builtins} W s'∧
  (∀y,kindOf au y=some .free→∃c,r.lookup y=some c∧c<n0):=by
 refine(eZ f6).elim fun z8 z=>z.elim fun nd z=>z.elim fun VJ mS=>?_
 obtain⟨c1,c2⟩:=gf kW;have Fv:∀x k,kindOf au x=some k→(x,k)∈au.names:=fun x k h=>mem_of_lookup h
 have Tp:∀x k,(x,k)∈au.names→kindOf au x=some k:=fun x k h=>cU nd h
 have Lm:∀x v,a_ cQ x=some v→kindOf au x=some .free∧a_ env x=some v:=fun x v h=>by
  refine(c2 x v (mT h)).elim fun g1 g2=>?_
  exact⟨Tp _ _ g1,g2⟩
 have Lo:∀x,kindOf au x≠some .free→a_ cQ x=none:=fun x h=>by
  induction e:a_ cQ x with |none=>rfl|some v=>exact absurd (Lm x v e).1 h
 have z9:∀x,kindOf au x=some .free→r.lookup x=e'.cells.lookup x:=fun x h=>by
  obtain hn:(x,NameKind.cell)∉au.names:=fun q=>by have :=Tp _ _ q;rw[h] at this;exact nomatch this
  simp only[h2 x hn,ku x (Fv _ _ h)]
 have old:∀x,kindOf au x=some .free→∃v c o y,a_ env x=some v∧e'.cells.lookup x=some c∧s.heap.get? c=some o∧o.data=.cell (some y)∧Rel W v y∧(W.Z c=some o∨(G.C.wo x=false∧W.own c=none∧¬G.eV c)):=fun x h=>by
  refine(c1 x (Fv _ _ h)).elim fun v z=>z.elim fun hv a=>?_
  rcases(mS x (Fv _ _ h)).1 with hs|hs
  ·refine(N.cells x hs).elim fun c Lp=>?_;refine Lp.elim fun o Lq=>?_;refine Lq.elim fun u oZ=>?_;obtain g1:=oZ.1;obtain g2:=oZ.2.1;obtain g3:=oZ.2.2.1;obtain g4:=oZ.2.2.2.1;obtain g5:=oZ.2.2.2.2.1;obtain g6:=oZ.2.2.2.2.2
   rw[hv] at g6;obtain⟨⟨y,rfl,ry⟩,hz⟩:=g6;refine⟨v,c,o,y,hv,g1,g2,g4,ry,?_⟩;by_cases hw:G.C.wo x=true
   ·rw[if_pos hw] at hz;exact .inl hz
   ·exact .inr ⟨by simpa using hw,g5,g3⟩
  ·refine(N.frees x v hs hv).elim fun c Lr=>?_;refine Lr.elim fun o Ls=>?_;refine Ls.elim fun y rV=>?_;obtain g1:=rV.1;obtain g2:=rV.2.1;obtain g4:=rV.2.2.1;obtain g5:=rV.2.2.2.1;obtain g6:=rV.2.2.2.2.2
   exact⟨v,c,o,y,hv,g1,g2,g4,g5,g6⟩
 obtain fL:=fr L hL;refine⟨⟨z8,glob,N.builtins,fun a=>N.code I4,fun x k h cI=>?_,?_,fun x hx=>?_,fun x v hx hv=>?_,fun x y c hx hy e1 e2=>?_⟩,fun y hy=>?_⟩
 ·exact gV h
 ·refine⟨_,#[],0,fun a=>none,gL,fL.2.2,rfl,⟨_,_,_,gL,rfl,fun e he=>by simp at he,fun x=>rfl⟩,fL.1,fL.2.1,fun x v hx hv=>?_⟩;rw[Lo x (by rw[hx];intro h;exact nomatch h)] at hv;exact nE hv
 ·refine(h1 x (Fv _ _ hx)).elim fun c z_=>?_;obtain g1:=z_.1;obtain g2:=z_.2.1;obtain g3:=z_.2.2
  obtain fc:=fr c (Nat.le_trans hL (Nat.le_of_lt g2));refine⟨c,_,none,g1,g3,fc.2.2,rfl,fc.1,?_⟩;rw[Lo x (by rw[hx];intro h;exact nomatch h)];exact fc.2.1
 ·obtain⟨v',c,o',y,g1,g2,g3,g4,g5,g6⟩:=old x hx;have zF:=(Lm x v hv).2;rw[g1] at zF;obtain rfl:=Option.some.inj zF;exact⟨c,o',y,by rw[←g2];exact z9 x hx,hk _ _ g3,g4,g5,by simpa using (mS x (Fv _ _ hx)).2,g6⟩
 ·obtain⟨c',q1,q2,_⟩:=h1 x (Fv _ _ hx);rw[e1] at q1;obtain rfl:=Option.some.inj q1;rcases hy with hy|hy
  ·exact h3 x y c (Fv _ _ hx) (Fv _ _ hy) e1 e2
  ·obtain⟨v',c',o',z,g1,g2,g3,_⟩:=old y hy;rw[z9 y hy,g2] at e2;obtain rfl:=Option.some.inj e2;have :=Heap.lt_size g3
   rw[To] at this;exact absurd (Nat.lt_of_lt_of_le this hL) (Nat.not_lt_of_le (Nat.le_of_lt q2))
 ·refine(old y hy).elim fun v' Lu=>?_;refine Lu.elim fun c' Lv=>?_;refine Lv.elim fun o' Lw=>?_;refine Lw.elim fun z Aa=>?_;obtain g1:=Aa.1;obtain g2:=Aa.2.1;obtain g3:=Aa.2.2.1
  exact⟨c',by rw[z9 y hy];exact g2,by have :=Heap.lt_size g3;rw[To] at this;exact this⟩
end
noncomputable def qb(out:Out):Sem Value:=match out with |.e _=>newList []|.kv _ _=>newDict
def qj(out:Out):Obj:=match out with |.e _=>gA #[] 0|.kv _ _=>cT #[] 0
section
variable{n:Nat}{A:Around}{E:Value→Shared→Prop}{W W' W₀:Wd}{H H' H₀:AH}{s s' s₀ s₂ s₃:Shared}{sc au:Scope}{env:ah}{e':Env}
theorem xM{M:Model}{out:Out}{Q:Value→Shared→Prop}(h:Q (.ref s.heap.objs.size) {s with heap:=s.heap.push (qj out)}):wpAny M A (qb out) Q E s:=by
 induction out with |e x=>exact wpAny_newObj_type h (by show(0:Nat)≤sizeLine;exact Nat.zero_le _)|kv k v=>exact wpAny_newObj_type h
theorem Ab{out:Out}{a:Addr}(g:s.heap.get? a=some (qj out))(h0:a≠sysModules):iB W s a out.start:=by
 induction out with |e x=>exact⟨#[],0,g,by show 0<ak;decide,by trivial⟩|kv k v=>exact⟨#[],0,g,h0,by simp,by show 0<ak;decide,by trivial⟩
end
section
variable{n:Nat}{A:Around}{E:Value→Shared→Prop}{W W' W₀ W₄:Wd}{H H' H₀:AH}{s s' s₀ s₂ s₃ s₄:Shared}{sc au:Scope}{env:ah}{e':Env}
def xN(c:Bool):Acc→M V
|.l vs=>if c then gC (.lst vs) else pure (.lst vs)
|.d kvs=>if c then gC (.bf kvs) else pure (.bf kvs)
theorem rW{X:Addr→Prop}{c:Bool}{ac:Acc}{v:V}{a:Addr}{H₁:AH}(h:xN c ac H=some (v,H₁))(P:ai W₀ H₀ s₀ X W H s)(f:cC W a)(ha:s₀.heap.objs.size≤a)(hA:iB W s a ac):
  ∃W',ai W₀ H₀ s₀ X W' H₁ s∧W.Le W'∧Rel W' v (.ref a)∧∀b,b≠a→cC W b→cC W' b:=by
 induction ac with
 |l vs=>obtain⟨ys,m,g,hl,r⟩:=hA;exact xJ h P f ha g hl r
 |d kvs=>obtain⟨es,m,g,h0,nd,hl,r⟩:=hA;exact jW h P f ha g h0 nd hl r
theorem Ly(N:ao sc env e' W s){b:Addr}(h:bY sc e' b):b<s.heap.objs.size:=by
 rcases h with rfl|⟨y,hy,hl⟩
 ·obtain⟨o,_,_,_,h1,_⟩:=N.locals;exact Heap.lt_size h1
 ·obtain⟨c,oc,u,h1,h2,_⟩:=N.cells y hy;rw[hl] at h1;obtain rfl:=Option.some.inj h1;exact Heap.lt_size h2
end
def Ac:Prop:=∀{A:Around} {E:Value→Shared→Prop} {W:Wd} {H H':AH} {s:Shared} {vs:List V} {xs:List Value} {v:V},pJ vs H=some (v,H')→aG W H s→ay W vs xs→A.handled=none→wpAny gM A (PySem.call (.builtin "sorted") xs) (fun z=>aU W H s aH H' fun W' a=>Rel W' v z) E s
section
variable{n:Nat}{A:Around}{E:Value→Shared→Prop}{W W':Wd}{H H':AH}{s s':Shared}{sc:Scope}{env:ah}{e':Env}
end
end Mine
end
noncomputable section
end
noncomputable section
open PySem PySem.W PySem.Builtin PySem.Builtin.Str PyProof.Rows
namespace Mine
theorem Ad{α:Type}{cmp:Nat→Nat→(Bool→Shared→Prop)→Shared→Prop}{gq:Nat→Nat→Option Bool}{s:Shared}(hc:∀i j b (C:Bool→Shared→Prop),gq i j=some b→C b s→cmp i j C s){Q:α→Shared→Prop}:
  ∀(t:KasT α) {a:α},runK gq t=some a→Q a s→t.kasWp cmp Q s
 |.ret x,a,h,hq=>by obtain rfl:=Option.some.inj h;exact hq
 |.ask i j k,a,h,hq=>by
  unfold runK at h;induction hb:gq i j with |none=>rw[hb] at h;exact nE h|some b=>rw[hb] at h;exact hc i j b _ hb (Ad hc (k b) h hq)
section
variable{A:Around}{E:Value→Shared→Prop}{W W':Wd}{H H':AH}{s s':Shared}
theorem gh:∀{vs:List V} {xs:List Value} {i:Nat} {v:V},ay W vs xs→vs[i]?=some v→∃x,xs[i]?=some x∧Rel W v x
|[],[],i,v,aM,h=>by simp at h|u::vs,x::xs,0,v,r,h=>by simp at h;subst h;exact⟨x,rfl,r.1⟩|u::vs,x::xs,i+1,v,r,h=>by obtain⟨y,hy,ry⟩:=gh r.2 (h);exact⟨y,by exact hy,ry⟩
|[],aM::bL,i,v,r,gn=>False.elim r|aM::bL,[],i,v,r,gn=>False.elim r
theorem xO{vs:List V}{xs:List Value}(r:ay W vs xs)(i:Nat):Rel W (vs.getD i .none) (xs.getD i .none):=by
 induction h:vs[i]? with
 |some v=>obtain⟨x,hx,rx⟩:=gh r h;simp only[List.getD_eq_getElem?_getD,List.getD_eq_getElem?_getD,h,hx];exact rx
 |none=>
  obtain h2:xs[i]?=none:=by obtain this:=r.length;rw[List.getElem?_eq_none_iff] at h⊢;exact aQ (nat_lit 9289911199871234) ae this h
  simp only[List.getD_eq_getElem?_getD,List.getD_eq_getElem?_getD,h,h2];rfl
theorem iV{vs:List V}{xs:List Value}(r:ay W vs xs):∀(p:List Nat),ay W (p.map fun i=>vs.getD i .none) (p.map fun i=>xs.getD i .none)|[]=>by trivial|i::p=>by exact⟨xO r i,iV r p⟩
set_option tactic.hygienic true in
theorem mU{ks:List V}{i j:Nat}{b:Bool}(h:sortAns ks i j=some b):∃u v,ks[i]?=some u∧ks[j]?=some v∧NK bB u v=some b:=by
 unfold sortAns at h;split at h
 ·rename_i a c h1 h2;exact⟨a,c,h1,h2,h⟩
 ·exact nE h
theorem kG{vs:List V}{xs:List Value}(r:ay W vs xs){x:Value}(hx:x∈xs):∃v∈vs,Rel W v x:=by
 refine(List.getElem?_of_mem hx).elim fun i hi=>?_
 have hl:=r.length;have bT:=(c_ hi).1
 obtain hv:vs[i]?=some vs[i]:=List.getElem?_eq_getElem (by omega);obtain⟨y,hy,ry⟩:=gh r hv;rw[hi] at hy;obtain rfl:=Option.some.inj hy;exact⟨_,List.getElem_mem _,ry⟩
def uz(A:Around)(ks:List V)(vs:List Value)(s:Shared):Prop:=∃κ,(∀(Q:SortKind→Shared→Prop) (E:Value→Shared→Prop),Q κ s→wpAny gM A (keyKind' vs.toArray) Q E s)∧∀i j b (C:Bool→Shared→Prop),sortAns ks i j=some b→C b s→kas_ask G.prog G.w A κ vs i j C s
theorem getD_at{xs:List Value}{i:Nat}{x:Value}(h:xs[i]?=some x):xs.getD i Value.none=x:=by rw[List.getD_eq_getElem?_getD,h];rfl
theorem Ae{ks:List V}{vs:List Value}(hk:ks.all Cg=true)(r:ay W ks vs)(h2:2≤vs.length):uz A ks vs s:=by
 have hint:∀v x,Cg v=true→Rel W v x→∃i t,v=.int i∧x=.int i t:=fun v x h r=>by induction v using V.casesOn<;>first|(obtain⟨t,rfl⟩:=r;exact⟨_,t,rfl,rfl⟩)|exact bE h
 refine⟨oneType',fun Q E hq=>kas_kind (T:=.type "int") h2 (fun x hx=>?_) rfl rfl hq,fun i j b C h hC=>?_⟩
 ·obtain⟨v,hv,rv⟩:=kG r hx;obtain⟨i,t,rfl,rfl⟩:=hint v x (cO hk v hv) rv;exact Looks.of_pure rfl
 ·obtain⟨u,v,hu,hv,hl⟩:=mU h;obtain⟨x,hx,rx⟩:=gh r hu;obtain⟨y,hy,ry⟩:=gh r hv;obtain⟨p,t,rfl,rfl⟩:=hint u x (cO hk u (List.mem_of_getElem? hu)) rx;obtain⟨q,t',rfl,rfl⟩:=hint v y (cO hk v (List.mem_of_getElem? hv)) ry;unfold kas_ask;simp only[getD_at hx,getD_at hy];obtain rfl:=Option.some.inj hl;exact kat_lt_int hC
theorem keys_str{ks:List V}{vs:List Value}(hk:ks.all Gd=true)(r:ay W ks vs)(h2:2≤vs.length):uz A ks vs s:=by
 have GU:∀v x,Gd v=true→Rel W v x→∃i t,v=.str i∧x=.str i t:=fun v x h r=>by induction v using V.casesOn<;>first|(obtain⟨_,t,rfl⟩:=r;exact⟨_,t,rfl,rfl⟩)|exact bE h
 refine⟨oneType',fun Q E hq=>kas_kind (T:=.type "str") h2 (fun x hx=>?_) rfl rfl hq,fun i j b C h hC=>?_⟩
 ·obtain⟨v,hv,rv⟩:=kG r hx;obtain⟨i,t,rfl,rfl⟩:=GU v x (cO hk v hv) rv;exact Looks.of_pure rfl
 ·obtain⟨u,v,hu,hv,hl⟩:=mU h;obtain⟨x,hx,rx⟩:=gh r hu;obtain⟨y,hy,ry⟩:=gh r hv;obtain⟨p,t,rfl,rfl⟩:=GU u x (cO hk u (List.mem_of_getElem? hu)) rx;obtain⟨q,t',rfl,rfl⟩:=GU v y (cO hk v (List.mem_of_getElem? hv)) ry;unfold kas_ask;simp only[getD_at hx,getD_at hy];obtain rfl:=Option.some.inj hl;exact kas_lt_str hC
theorem v_{ks:List V}{vs:List Value}(hk:sortable ks=true)(r:ay W ks vs)(hz:∀b o,W.Z b=some o→s.heap.get? b=some o)(h2:2≤vs.length):uz A ks vs s:=by
 simp only[sortable,Bool.or_eq_true] at hk;rcases hk with hk|hk
 ·exact Ae hk r h2
 ·exact keys_str hk r h2
theorem wc{ks:List V}{kvs vs:List Value}{p:Array Nat}{κ:SortKind}(hl:kvs.length=vs.length)(h2:2≤vs.length)(yM:vs.length<64)
  (ha:∀i j b (C:Bool→Shared→Prop),sortAns ks i j=some b→C b s→kas_ask G.prog G.w A κ kvs i j C s)(hr:runK (sortAns ks) (kas_sort vs.length)=some p):
  wpAny gM A ((sortRuns').run (SortSt.mk' κ (kvs.toArray.zip vs.toArray) #[] 7 none)) (fun r s'=>s'=s∧(arrOf r.2).map (·.2)=List.toArray (p.toList.map fun i=>vs.getD i Value.none)∧failedOf r.2=none∧p.size=vs.length) E s:=by
 refine kat_run (Q:=fun st s'=>s'=s∧(arrOf st).map (·.2)=List.toArray (p.toList.map fun i=>vs.getD i Value.none)∧failedOf st=none∧p.size=vs.length) (G:=fun q s'=>q=p∧s'=s) hl h2 yM ?_ ?_
 ·rintro q st s' hq Lz hf ⟨rfl,rfl⟩;exact⟨rfl,kat_snds hl Lz,hf,hq⟩
 ·exact Ad ha _ hr ⟨rfl,rfl⟩
end
section
variable{A:Around}{E:Value→Shared→Prop}{s:Shared}
theorem nZ{R:List Value→Shared→Prop}{r:Addr}{a b c:Int}{t u v:Tok}{n:Nat}(hh:A.handled=none)(hr:IsRange s.heap r a b c t u v)(GV:Builtin.Range.small a b c=true)
  (hn:Builtin.Range.rangeSize a b c=n)(hlen:n≤2^24)
  (h:∀(h':Heap) (tk:Nat) (acc:Array Value),(∀b o,s.heap.get? b=some o→h'.get? b=some o)→ItemsOf (fun i v=>∃t,v=.int (a+i* c) t) acc n→R acc.toList {s with heap:=h',toks:=tk}):
  wpAny gM A (collect (.ref r)) R E s:=by
 refine wpAny_bind (wpAny_runValue (codeAny_builtin entry_proto_collect' ?_));refine wpAny_bind (wpAny_newObj_type ?_);refine wpAny_pure ⟨plainId_quiet PySem.F.plain_list_iadd _,codeAny_builtin entry_list_iadd' ?_⟩;obtain LA:(s.heap.push {cls:=.type "list",data:=.seq ([]:List Value).toArray}).get? s.heap.objs.size=some {cls:=.type "list",data:=.seq #[]}:=Heap.get?_push_size _ rfl
 obtain key:=wpAny_extend_range (s:={s with heap:=s.heap.push {cls:=.type "list",data:=.seq ([]:List Value).toArray}})
  (R:=fun(q:Result) (s':Shared)=>∃(h':Heap) (tk:Nat) (rY:Array Value) (c':Nat),q=.ok (.ret (.ref s.heap.objs.size))∧s'={s with heap:=h',toks:=tk}∧(∀b o,s.heap.get? b=some o→h'.get? b=some o)∧h'.get? s.heap.objs.size=some {cls:=.type "list",dict:=none,data:=.seq rY c',slots:=#[]}∧ItemsOf (fun i v=>∃t,v=.int (a+i* c) t) rY n)
  hh (Heap.get?_push_of_some _ hr) GV hn hlen s.heap.objs.size (.ref s.heap.objs.size) 0 LA
  (fun h' tk rY c' hk LB f_=>⟨h',tk,rY,c',rfl,rfl,fun b o e=>hk b o (Nat.ne_of_lt (Heap.lt_size e)) (Heap.get?_push_of_some _ e),LB,f_⟩)
 refine wpAny_mono key (fun fin s' x=>?_) fun e s' x=>?_
 ·induction fin with
  |done f=>obtain⟨h',tk,rY,c',e,rfl,hk,LB,f_⟩:=x;cases e;refine wpAny_bind (wpAny_load LB ?_);exact wpAny_pure (h h' tk rY hk f_)
  |again c₁=>refine⟨x.1,codeAny_mono x.2 fun q s₂ y=>?_⟩;obtain⟨h',tk,rY,c',rfl,rfl,hk,LB,f_⟩:=y;refine wpAny_bind (wpAny_load LB ?_);exact wpAny_pure (h h' tk rY hk f_)
 ·obtain⟨_,_,_,_,e',_⟩:=x;exact nomatch e'
end
section
variable{n:Nat}{A:Around}{E:Value→Shared→Prop}{W W':Wd}{H H':AH}{s s':Shared}{sc:Scope}{env:ah}{e':Env}
theorem ql{v:V}{xs:List V}(h:jb v H=some (xs,H')):H'=H:=by
 induction v using V.casesOn with
 |nK a b=>exact(aW h).2|bf kvs=>exact(aW h).2|lst xs=>exact(aW h).2|ref k=>
  refine bJ h fun o H₁ h1 h2=>?_
  refine(bQ h1).elim fun c z=>z.elim fun c QH=>?_;subst QH
  induction o<;>first|exact(aW h2).2|exact nE h2
 |_=>exact nE h
theorem mV{v:V}{xs:List V}{z:Value}(h:jb v H=some (xs,H'))(S:aG W H s)(r:Rel W v z)(hh:A.handled=none)(hl:xs.length<64){Q:List Value→Shared→Prop}
  (hQ:∀h' tk vs,(∀b o,s.heap.get? b=some o→h'.get? b=some o)→ay W xs vs→Q vs {s with heap:=h',toks:=tk}):
  wpAny gM A (collect z) Q E s:=by
 have seq:∀{l:Addr} {ys:Array Value} {m:Nat},s.heap.get? l=some (gA ys m)→ay W xs ys.toList→wpAny gM A (collect (.ref l)) Q E s:=fun{l ys m} g rs=>by
  obtain el:=rs.length;simp only[Array.length_toList] at el;refine p8 (hsz:=by rw[sizeLine_eq];exact aA (nat_lit 0x10000007f10140e011103102) ae el hl) l (.inl rfl) g rfl rfl fun h' c hk=>?_
  exact hQ h' s.toks _ hk rs
 have Tq:∀{d:Addr} {es:Array DictEntry} {m:Nat} {kvs:List (Str×V)},xs=kvs.map (fun kv=>.str kv.1)→s.heap.get? d=some (cT es m)→d≠sysModules→(kvs.map (·.1)).Nodup→Reld W kvs es.toList→wpAny gM A (collect (.ref d)) Q E s:=fun{d es m kvs} hx g h0 nd rs=>by
  obtain⟨ps,h1,h2,h3⟩:=fG rs;obtain hlen:=h2.length;subst hx;rw[List.length_map] at hl;refine kdu_collect (kdl_dict (by simpa using h0)) hh (⟨_,es,g,⟨rfl,rfl,rfl⟩,rfl,fun e he=>h3 e (by simpa using he),h1,by rw[←h2.keys];exact nd⟩) (by rw[sizeLine_eq];exact aA (nat_lit 0x10000007f10140e011103102) ae hlen hl) fun h' tk acc hk f_=>?_
  refine hQ h' tk _ hk (eY (by rw[f_.1,List.length_map];exact aA (nat_lit 4916786449) ae hlen) fun j x hx=>?_);obtain⟨k,y,gz,hv⟩:=f_.2 j x hx;obtain⟨u,hu,LC,_⟩:=h2.get gz;refine⟨.str k,by rw[List.getElem?_map,hu];rfl,?_⟩;obtain⟨t,rfl⟩:=Value.isStrOf_shape hv;exact⟨LC,t,rfl⟩
 induction v using V.casesOn with
 |nK a b=>
  obtain⟨rfl,rfl⟩:=aW h;obtain⟨q,t,w,w',rfl,hz,Qu⟩:=r;obtain hlen:(b-a).toNat<64:=by simpa using hl
  refine nZ hh (S.z _ _ hz) Qu (Mine.rangeSize_one a b).symm (aJ (nat_lit 0x10000007f00140e01101) ae hlen) fun h' tk acc hk f_=>hQ h' tk _ hk ?_
  refine eY (by simp[f_.1]) fun j v hv=>?_
  have hj:=(Array.getElem?_eq_some_iff.mp hv).1;rw[f_.1] at hj;obtain⟨xu,rfl⟩:=f_.2 j v hv;refine⟨.int (a+(j:Int)),?_,⟨xu,congrArg (fun z=>Value.int (a+z) xu) (Int.mul_one _)⟩⟩;rw[List.getElem?_map,List.getElem?_range hj];rfl
 |bf kvs=>obtain⟨e,rfl⟩:=aW h;obtain⟨d,m,es,rfl,hz,h0,nd,_,rs⟩:=r;exact Tq e (S.z _ _ hz) h0 nd rs
 |lst ys=>obtain⟨rfl,rfl⟩:=aW h;obtain⟨l,m,ys,rfl,hz,_,rs⟩:=r;exact seq (S.z _ _ hz) rs
 |ref k=>
  refine bJ h fun o H₁ h1 h2=>?_
  obtain⟨ho,_,rfl⟩:=bQ h1;obtain⟨a,rfl,ha⟩:=r;have O:=S.at ho ha
  induction o with
  |lst ys=>obtain⟨rfl,rfl⟩:=aW h2;obtain⟨m,ys,g,_,rs⟩:=O;exact seq g rs
  |bf kvs=>obtain⟨e,rfl⟩:=aW h2;obtain⟨m,es,g,h0,nd,_,rs⟩:=O;exact Tq e g h0 nd rs
  |_=>exact nE h2
 |_=>exact nE h
theorem e9{ks xs:List V}{v:V}(h:cR ks xs=some v):∃out,v=.lst out∧(xs.length<2→out=xs)∧
  (¬xs.length<2→xs.length<64∧sortable ks=true∧∃p,runK (sortAns ks) (kas_sort xs.length)=some p∧out=p.toList.map fun i=>xs.getD i .none):=by
 unfold cR at h;by_cases h2:xs.length<2
 ·rw[if_pos h2] at h;obtain rfl:=Option.some.inj h;exact⟨xs,rfl,fun a=>rfl,fun h=>absurd h2 h⟩
 ·rw[if_neg h2] at h;by_cases h3:(decide (xs.length<64)&&sortable ks)=true
  ·rw[if_pos h3] at h;obtain⟨p,hp,rfl⟩:=eG h;rw[Bool.and_eq_true,decide_eq_true_eq] at h3;exact⟨_,rfl,fun h=>absurd h h2,fun a=>⟨h3.1,h3.2,p,hp,rfl⟩⟩
  ·rw[if_neg h3] at h;exact nE h
theorem n5{a:Addr}{vs:List Value}{xs:List V}{m:Nat}{out:List V}{Pq:PySem.Fin→Shared→Prop}(h:cR xs xs=some (.lst out))(rs:ay W xs vs)(hl:xs.length<64)(ho:s.heap.get? a=some (seqObj "list" vs.toArray m))
  (hz:∀b o,W.Z b=some o→s.heap.get? b=some o)(QI:W.Z a=none)
  (hP:∀outs h',(∀b o,b≠a→s.heap.get? b=some o→h'.get? b=some o)→(∃m',h'.get? a=some (seqObj "list" outs m'))→ay W out outs.toList→out.length<64→Pq (.done (.ret .none)) {s with heap:=h'}):
  wpAny gM A (Builtin.«list.sort» ⟨[.ref a],[]⟩) Pq E s:=by
 have el:=rs.length;rw[list_sort_plain];refine wpAny_bind (listItems_at ho rfl ?_);refine wpAny_bind (listUpdate_at ho rfl ?_ (by rw[List.size_toArray,sizeLine_eq];exact aA (nat_lit 0x10000007f10140e011103102) ae el hl) (Nat.zero_le _));obtain⟨e1,B7⟩:∃e1,(s.heap.update a (Obj.mapSeq fun c=>#[])).get? a=some (seqObj "list" #[] e1):=⟨_,get?_update_seq ho (fun c=>#[])⟩;refine wpAny_bind (seqEpoch_at B7 rfl ?_);refine wpAny_bind (wpAny_newTuple ?_ (by show vs.length≤_;rw[sizeLine_eq];exact aA (nat_lit 0x10000007f10140e011103102) ae el hl));refine wpAny_bind (wpAny_newList ?_ (Nat.zero_le _));refine wpAny_holding ?_;obtain LD:(((s.heap.update a (Obj.mapSeq fun c=>#[])).push (seqObj "tuple" vs.toArray 0)).push (seqObj "list" #[] 0)).get? a=some (seqObj "list" #[] e1):=Heap.get?_push_of_some _ (Heap.get?_push_of_some _ B7);obtain Fw:=fun b o hb e=>Heap.get?_push_of_some _ (Heap.get?_push_of_some _ ((Heap.get?_update_other _ _ (Ne.symm hb)).trans e))
 dsimp only;have fin:∀outs:Array Value,∃m',((((s.heap.update a (Obj.mapSeq fun c=>#[])).push (seqObj "tuple" vs.toArray 0)).push (seqObj "list" #[] 0)).update a (Obj.mapSeq fun c=>outs)).get? a=some (seqObj "list" outs m'):=fun outs=>⟨_,get?_update_seq LD _⟩
 have Fx:∀(outs:Array Value) b o,b≠a→s.heap.get? b=some o→((((s.heap.update a (Obj.mapSeq fun c=>#[])).push (seqObj "tuple" vs.toArray 0)).push (seqObj "list" #[] 0)).update a (Obj.mapSeq fun c=>outs)).get? b=some o:=fun outs b o hb e=>(Heap.get?_update_other _ _ (Ne.symm hb)).trans (Fw b o hb e)
 have hsz:vs.toArray.size=vs.length:=by rfl
 obtain⟨LF,e,q1,q2⟩:=e9 h;cases e;by_cases h2:vs.toArray.size<2
 ·rw[if_pos h2,if_pos h2]
  obtain this:=q1 (aQ (nat_lit 0x29211290111031122103) ae el hsz h2);induction this;refine wpAny_bind (wpAny_pure ?_);refine wpAny_bind (wpAny_pure ?_);dsimp only;obtain eo:(Array.map (fun x=>x.snd) (arrOf (SortSt.mk' general' (vs.toArray.zip vs.toArray) #[] 7 none)))=vs.toArray:=by
   show Array.map (fun x=>x.snd) (vs.toArray.zip vs.toArray)=vs.toArray;apply Array.ext
   ·simp
   ·intro i h1 h2;simp
  rw[eo];refine wpAny_bind (seqEpoch_at LD rfl ?_);refine wpAny_bind (listUpdate_at LD rfl ?_ (Nat.zero_le _) (by rw[List.size_toArray,sizeLine_eq];exact aA (nat_lit 0x1910000007f810129011103102) ae hsz h2));simp only[bne_self_eq_false,Bool.false_eq_true,if_false];exact wpAny_pure (hP vs.toArray _ (Fx _) (fin _) (rs) hl)
 ·rw[if_neg h2,if_neg h2];obtain⟨yM,hs,p,hp,rfl⟩:=q2 (by simp_all)
  obtain⟨κ,hk,GW⟩:=v_ (s:={s with heap:=((s.heap.update a (Obj.mapSeq fun c=>#[])).push (seqObj "tuple" vs.toArray 0)).push (seqObj "list" #[] 0)}) hs rs
   (fun b o hb=>Fw b o (fun q=>by rw[q,QI] at hb;exact nE hb) (hz b o hb)) (aA (nat_lit 0x1290110212905102) ae h2 hsz)
  refine wpAny_bind (hk _ _ ?_);rw[el] at hp;refine wpAny_bind (wpAny_mono (wc rfl (aA (nat_lit 0x1290110212905102) ae h2 hsz) (aA (nat_lit 0x40e11140e011103102) ae el yM) GW hp) ?_ fun c c e=>e);rintro⟨⟨⟩,GN⟩ s' ⟨rfl,Lz,hf,vU⟩;have QJ:=Lz
  rw[QJ];refine wpAny_bind (seqEpoch_at LD rfl ?_);refine wpAny_bind (listUpdate_at LD rfl ?_ (Nat.zero_le _) (by rw[List.size_toArray,List.length_map,Array.length_toList,vU,sizeLine_eq];exact aA (nat_lit 0x1910000007f810140e011103102) ae el yM));rw[hf];simp only[bne_self_eq_false,Bool.false_eq_true,if_false];exact wpAny_pure (hP _ _ (Fx _) (fin _) (iV rs p.toList) (by rw[List.length_map,Array.length_toList,vU];exact aA (nat_lit 0x40e11140e011103102) ae el yM))
theorem xP:Ac:=by
 intro A E W H H' s vs xs v h S rs hh;induction vs using List.casesOn with
 |nil=>exact nE h|cons v0 rest=>
  induction rest using List.casesOn with
  |cons _ _=>exact nE h|nil=>
   obtain⟨z,rfl,rz⟩:=cD rs;refine bJ h fun us H₁ h1 h2=>?_
   obtain⟨h3,rfl⟩:=lX h2;obtain this:=ql h1;subst this;obtain⟨out,rfl,q1,q2⟩:=e9 h3;have hl:us.length<64:=by
    by_cases hs:us.length<2
    ·exact aJ (nat_lit 0x40e0112901101) ae hs
    ·exact(q2 hs).1
   refine Calls.call_function_entry kind_sorted plain_sorted entry_sorted (args_sorted1 _) ?_;refine wpAny_bind (wpAny_pure ?_);refine wpAny_bind (bD (mV h1 S rz (by exact hh) hl fun h' tk vs hk rs v9=>?_));obtain el:=rs.length;refine wpAny_bind (wpAny_newList ?_ (by rw[sizeLine_eq];exact aA (nat_lit 0x10000007f10140e011103102) ae el hl));refine wpAny_bind (wpAny_holding (wpAny_call_entry slot_list_sort ⟨_,Heap.get?_push_size _ rfl,rfl⟩ entry_list_sort (n5 h3 rs hl (Heap.get?_push_size _ rfl) (fun b o hb=>Heap.get?_push_of_some _ (hk b o (S.z b o hb))) (S.gJ v9) fun outs zK I5 hg ro Fy=>⟨_,rfl,?_⟩) (args_list_sort _)));obtain⟨m',hg⟩:=hg;have Fy:out.length<ak:=Nat.lt_trans Fy (by decide)
   refine wpAny_pure ⟨_,rfl,mQ (c:=false) rfl S v9 (fun b o e=>I5 b o (fun q=>absurd (Heap.lt_size e) (by rw[q];exact Nat.not_lt_of_le v9)) (Heap.get?_push_of_some _ (hk b o e))) hg Fy ro⟩
end
theorem bA.VK{A:Around}{n:Nat}(h:bA A (n+1)):bA A.in1.in1 n:=⟨h.handled,by have :=h.depth;simp only[Around.in1_depth];exact aQ (nat_lit 0x21081121918081101) ae this,by obtain this:=h.units;simp only[Around.in1_units];exact aQ (nat_lit 0x21ca191908881121918ca081101) ae this⟩
section
variable{n:Nat}{A:Around}{E:Value→Shared→Prop}{W W':Wd}{H H':AH}{s s':Shared}{sc:Scope}{env:ah}{e':Env}
structure gW(W₀:Wd)(H₀:AH)(s₀:Shared)(l kS:Addr)(e1:Nat)(ks:List V)(W:Wd)(H:AH)(t:Shared):Prop where
 post:ai W₀ H₀ s₀ aH W H t
 gl:t.heap.get? l=some (seqObj "list" #[] e1)
 gk:∃keys e,t.heap.get? kS=some (seqObj "list" keys e)∧ay W ks keys.toList
 fl:cC W l
 fk:cC W kS
 ll:s₀.heap.objs.size≤l
 lk:s₀.heap.objs.size≤kS
 ne:l≠kS
theorem gW.step{W₀:Wd}{H₀ H₁:AH}{s₀ t t':Shared}{l kS:Addr}{e1:Nat}{ks:List V}{k:V}{x:Value}(K:gW W₀ H₀ s₀ l kS e1 ks W H t)(S₀:aG W₀ H₀ s₀)(P:ai W H t aH W' H₁ t')(r:Rel W' k x):
  ∃keys e,t'.heap.get? kS=some (seqObj "list" keys e)∧keys.size=ks.length∧gW W₀ H₀ s₀ l kS e1 (ks++[k]) W' H₁ {t' with heap:=t'.heap.update kS (Obj.mapSeq (·.push x))}:=by
 refine K.gk.elim fun keys z=>z.elim fun e z=>z.elim fun gk rk=>?_
 obtain el:=rk.length;obtain VL:=P.keep _ _ K.gl K.fl.2.2 (fun j hj=>by rw[K.fl.1] at hj;exact nE hj) (fun h=>h);obtain Tr:=P.keep _ _ gk K.fk.2.2 (fun j hj=>by rw[K.fk.1] at hj;exact nE hj) (fun h=>h);obtain VM:=K.fl.post P (Heap.lt_size K.gl) (fun h=>h);obtain Tt:=K.fk.post P (Heap.lt_size gk) (fun h=>h);obtain P₁:=K.post.trans S₀ P;obtain P₂:ai W' H₁ t' (fun a=>a=kS) W' H₁ {t' with heap:=t'.heap.update kS (Obj.mapSeq (·.push x))}:=ai.free P₁.sim (fun a ha=>by cases ha;exact Tt) (fun b o hb ho=>(Heap.get?_update_other _ _ (Ne.symm hb)).trans ho) (by rw[Heap.size_update];exact Nat.le_refl _) rfl rfl;refine⟨keys,e,Tr,el.symm,⟨((P₁.wk fun c h=>h.elim).trans S₀ P₂).drop fun a ha=>.inr (by cases ha;exact K.lk),(Heap.get?_update_other _ _ K.ne.symm).trans VL,⟨_,_,get?_update_seq Tr _,?_⟩,VM,Tt,K.ll,K.lk,K.ne⟩⟩;rw[Array.toList_push];exact(rk.mono P.le).append (⟨r,trivial⟩)
end
section
variable{n:Nat}{A:Around}{E:Value→Shared→Prop}{W W':Wd}{H H':AH}{s s':Shared}{sc:Scope}{env:ah}{e':Env}
theorem C9{W₀:Wd}{H₀:AH}{s₀:Shared}{l kS:Addr}{e1:Nat}{ks xs out:List V}{vs:List Value}{Pq:PySem.Fin→Shared→Prop}(K:gW W₀ H₀ s₀ l kS e1 ks W H s)(S₀:aG W₀ H₀ s₀)(hl:ks.length=xs.length)
  (rs:ay W xs vs)(yM:xs.length<64)(h:cR ks xs=some (.lst out))
  (hP:∀W' t,ai W₀ H₀ s₀ aH W' H t→Rel W' (.lst out) (.ref l)→Pq (.done (.ret .none)) t):
  wpAny gM A (do
   let keys←Builtin.List.listItems (.ref kS)
   ksk_end l false vs.toArray e1 (.ref kS) keys) Pq E s:=by
 obtain⟨keys,e,gk,rk⟩:=K.gk;obtain el:=rs.length;obtain ek:=rk.length;simp only[Array.length_toList] at ek;have S:=K.post.sim
 have fin:∀(outs:List Value) (st:SortSt),ay W out outs→out.length<64→(arrOf st).map (·.2)=List.toArray outs→failedOf st=none→wpAny gM A (ksk_tail l false e1 (.ref kS) st) Pq E s:=by
  intro outs st ro ho QK hf;obtain eo:=ro.length;unfold ksk_tail;have LG:=QK
  rw[LG];have QL:(s.heap.update kS (Obj.mapSeq fun c=>(#[]:Array Value))).get? l=some (seqObj "list" #[] e1):=(Heap.get?_update_other _ _ K.ne.symm).trans K.gl
  refine wpAny_bind (listUpdate_at gk rfl ?_ (by rw[sizeLine_eq];exact aQ (nat_lit 0x10000007f10140e2112021103103) ae ek hl yM) (Nat.zero_le _));refine wpAny_bind (wpAny_letGo ?_);refine wpAny_bind (seqEpoch_at QL rfl ?_);refine wpAny_bind (listUpdate_at QL rfl ?_ (Nat.zero_le _) (by show outs.toArray.size≤_;rw[List.size_toArray,sizeLine_eq];exact aA (nat_lit 0x1910000007f810140e011103102) ae eo ho));rw[hf];simp only[bne_self_eq_false,Bool.false_eq_true,if_false];obtain⟨m',hg⟩:∃m',((s.heap.update kS (Obj.mapSeq fun c=>(#[]:Array Value))).update l (Obj.mapSeq fun c=>List.toArray outs)).get? l=some (seqObj "list" (List.toArray outs) m'):=⟨_,get?_update_seq QL _⟩
  obtain P₂:ai W H s (fun a=>a=l∨a=kS) W H {s with heap:=(s.heap.update kS (Obj.mapSeq fun c=>(#[]:Array Value))).update l (Obj.mapSeq fun c=>List.toArray outs)}:=
   ai.free S (fun a ha=>ha.elim (fun q=>q▸K.fl) (fun q=>q▸K.fk)) (fun b o hb ho=>(Heap.get?_update_other _ _ (fun q=>hb (.inl q.symm))).trans ((Heap.get?_update_other _ _ (fun q=>hb (.inr q.symm))).trans ho))
    (by rw[Heap.size_update,Heap.size_update];exact Nat.le_refl _) rfl rfl
  obtain P₃:ai W₀ H₀ s₀ aH W H {s with heap:=(s.heap.update kS (Obj.mapSeq fun c=>(#[]:Array Value))).update l (Obj.mapSeq fun c=>List.toArray outs)}:=((K.post.wk fun c h=>h.elim).trans S₀ P₂).drop fun a ha=>.inr (ha.elim (fun q=>q▸K.ll) (fun q=>q▸K.lk))
  obtain P₄:=P₃.uw K.fl K.ll hg;refine wpAny_pure (hP _ _ P₄ ?_);obtain L:W.Le (W.add l (seqObj "list" (List.toArray outs) m')):=⟨fun b o hb=>by show(if b=l then some _ else W.Z b)=some o;rw[if_neg (fun q=>by rw[q,K.fl.2.1] at hb;exact nE hb)];exact hb,fun c c h=>h⟩;exact⟨l,m',_,rfl,Wd.aZ ..,Nat.lt_trans ho (by decide),by exact ro.mono L⟩
 refine wpAny_bind (listItems_at gk rfl ?_);unfold ksk_end
 try dsimp only
 obtain⟨LF,VN,q1,q2⟩:=e9 h;obtain rfl:=V.lst.inj VN;by_cases h2:vs.toArray.size<2
 ·rw[if_pos h2,if_pos h2];have LH:vs.length<2:=by exact h2
  obtain this:=q1 (aA (nat_lit 0x2911129011012102) ae el LH);subst this;refine wpAny_bind (wpAny_pure ?_);refine wpAny_bind (wpAny_pure ?_);refine fin vs _ rs yM ?_ rfl;show Array.map (fun x=>x.snd) (keys.zip vs.toArray)=vs.toArray;apply Array.ext
  ·simp;omega
  ·intro i h1 h2;simp
 ·rw[if_neg h2,if_neg h2];have LH:¬vs.length<2:=by simpa using h2
  obtain⟨_,hs,p,hp,rfl⟩:=q2 (aA (nat_lit 0x909612911101312905103) ae LH el);obtain XQ:keys.toList.toArray=keys:=by simp
  obtain⟨κ,hk,GW⟩:=v_ hs rk S.z (by simp only[Array.length_toList];exact eO (nat_lit 0x229012121313103312905104) ae LH el hl ek);refine wpAny_bind (hk _ _ ?_);rw[el] at hp;have run:=wc (E:=E) (by rw[Array.length_toList];exact eO (nat_lit 0x312532252025103513) ae ek hl el) (aJ (nat_lit 2817809993985) ae LH) (aA (nat_lit 0x40e11140e011103102) ae el ‹_›) GW hp
  refine wpAny_bind (wpAny_mono run ?_ fun c c e=>e);rintro⟨⟨⟩,GN⟩ s' ⟨rfl,Lz,hf,vU⟩;exact fin _ GN (iV rs p.toList) (by rw[List.length_map,Array.length_toList,vU];exact aA (nat_lit 0x40e11140e011103102) ae el ‹_›) Lz hf
end
end Mine
end
noncomputable section
end
noncomputable section
open PySem PySem.W PySem.Builtin PySem.Builtin.Str PyProof.Rows
namespace Mine
theorem gi{K:Frag}{h:Heap}{N:Addr}{mg:Str→Option Value}{n:Str}{v:Value}(X:K.In h)(G:h.Ns N mg)(e:nsIn K N n=some (some v)):mg n=some v:=by
 obtain⟨o,es,ep,ho,hd,_,hf⟩:=G;have e:(match K.lookup N with |some ⟨_,_,.dict es _,_⟩=>(match es.toList.find? (·.key.isStr n) with |some e=>some (some e.val)|none=>if es.toList.any (·.refKey) then none else some none)|_=>none)=some (some v):=e
 induction q:K.lookup N with
 |none=>rw[q] at e;exact nE e|some z=>
  obtain rfl:=Option.some.inj (ho.symm.trans (X _ _ q));rw[q,show o=⟨o.cls,o.dict,.dict es ep,o.slots⟩ from hd▸rfl] at e;refine(hf n).symm.trans ?_;have e:(match es.toList.find? (·.key.isStr n) with |some e=>some (some e.val)|none=>if es.toList.any (·.refKey) then none else some none)=some (some v):=e
  rw[Array.find?_toList] at e;show(es.find? fun e=>e.key.isStr n).map (·.val)=some v;induction he:es.find? fun e=>e.key.isStr n with |some y=>rw[he] at e;exact congrArg _ (Option.some.inj (Option.some.inj e))|none=>rw[he] at e;induction ha:es.toList.any (·.refKey) with |true=>rw[ha] at e;exact nE e|false=>rw[ha] at e;exact nomatch e
theorem xQ{K:Frag}{C f:Addr}{od:Obj}{es:Array DictEntry}{ep:Nat}{name:Str}(hd:od.data=.dict es ep)(sk:StrKeys es)(hn:nsFind es name=none)(hc:hasDictIn K C=true)
  (hf:findIn K (.ref C) name=some (some (.ref f)))(hg:specialIn K (.ref f) "__get__"=some (some (.builtin "function.__get__")))(ht:takesIn K (.ref f)=some false)(GX:copiedNames.contains name=false):
  findObj K C (some od) name=some (.bind (.builtin "function.__get__") (.ref f)):=by
 refine findObj_fn hc hf hg ht GX ((congrArg (fun d=>lookIn name ⟨od.cls,od.dict,d,od.slots⟩) hd).trans ?_);show(match es.toList.find? (·.key.isStr name) with |some e=>some (some e.val)|none=>if es.toList.any (·.refKey) then none else some none)=some none;rw[(Array.find?_toList ..).trans (Option.map_eq_none_iff.mp hn),List.any_eq_false.mpr fun e he=>?_]
 ·rfl
 ·obtain⟨n,t,hk⟩:=sk e (Array.mem_toList_iff.mp he);show ¬(match e.key with |.ref _=>true|_=>false)=true;rw[hk];exact Bool.false_ne_true
section
variable{A:Around}{E:Value→Shared→Prop}{s:Shared}
theorem Af{K:Frag}{C f x dx:Addr}{o od:Obj}{es:Array DictEntry}{ep:Nat}{name:Str}{Q:Value→Shared→Prop}(X:K.In s.heap)(ho:s.heap.get? x=some o)(GY:o.cls=.ref C)(xw:o.dict=some dx)(QM:∀c,o.data≠.cls c)
  (QN:s.heap.get? dx=some od)(hd:od.data=.dict es ep)(sk:StrKeys es)(hn:nsFind es name=none)(hc:hasDictIn K C=true)
  (hf:findIn K (.ref C) name=some (some (.ref f)))(hg:specialIn K (.ref f) "__get__"=some (some (.builtin "function.__get__")))(ht:takesIn K (.ref f)=some false)(GX:copiedNames.contains name=false)
  (hp:plainGet K C name=true)(VO:typeIn K (.ref f)=some (.type "function"))
  (h:Q (.ref s.heap.objs.size) {s with heap:=s.heap.push {cls:=.type "method",data:=.fields #[.ref f,.ref x]},toks:=s.toks+1}):
  wpAny gM A (getAttr (.ref x) name true) Q E s:=by
 obtain I:InstAt s.heap x o C (some od):=⟨ho,GY,by unfold notCls;induction Gf:o.data with |cls c=>exact absurd Gf (QM c)|_=>rfl,by refine xw▸?_;exact QN⟩;refine get_bind X I (plainGet_of hp).1 (xQ hd sk hn hc hf hg ht GX) (plainGet_of hp).2 ?_;refine wpAny_call (fn_get X VO ?_);exact wpAny_pure h
theorem Ag{a:Addr}{so:Obj}{S:Int→Bool}{n:Nat}{i:Int}{t:Tok}{Q:Value→Shared→Prop}(g:s.heap.get? a=some so)(VP:so.SetObjOf (PySem.intKind G.prog G.w) S n)(hb:n<scanBound)(h:∀k,Q (.bool (S i)) {s with toks:=k}):
  wpAny gM A (compareOp .In (.int i t) (.ref a)) Q E s:=
 wpAny_inSet_of (knd:=PySem.intKind G.prog G.w) (k:=i) (by show(i==i)=true;simp) rfl (VP.setOf g hb) (h _)
end
def AllP{α β:Type}(P:α→β→Prop):List (α×β)→Prop|[]=>True|(a,b)::r=>P a b∧AllP P r
theorem AllP.at{α β:Type}[BEq α][LawfulBEq α]{P:α→β→Prop}{l:List (α×β)}{a:α}{b:β}(h:AllP P l)(e:l.lookup a=some b):P a b:=by
 induction l with
 |nil=>exact nE e|cons p r ih=>
  rw[List.lookup_cons] at e;induction hk:a==p.1 with |true=>rw[hk] at e;exact eq_of_beq hk▸Option.some.inj e▸h.1|false=>rw[hk] at e;exact ih h.2 e
theorem AllP.of{α β:Type}{f:α→β→Bool}:∀{l:List (α×β)},l.all (fun p=>f p.1 p.2)=true→AllP (fun a b=>f a b=true) l|[],aM=>trivial|aM::bL,h=>⟨(bj h).1,AllP.of (bj h).2⟩
theorem AllP.cons{α β:Type}{P:α→β→Prop}{a:α}{b:β}{r:List (α×β)}(h:P a b)(t:AllP P r):AllP P ((a,b)::r):=⟨h,t⟩
noncomputable def QO(o:Obj):FuncData:=match o.data with |.func d=>d|_=>default
noncomputable def QS(o:Obj):Array Value:=match o.data with |.fields v=>v|_=>#[]
def fO(s:Stmt)(c:Nat)(d:FuncData):Obj:={cls:=.type "function",dict:=none,data:=(.func {d with params:=Hd.fP s,body:=.stmts (Hd.fB s),scope:=Hd.fS s,globals:=mainGlobals,closure:=[],defaults:=.none,kwdefaults:=.none,code:=.ref c,builtins:=builtinsNs}),slots:=#[]}
section
variable{h:Heap}(X:(Hd.kF w0.params).In h)
include X
def VQ(o:Obj):Tok:=match (QS o).toList with |_::.str _ t::_=>t|_=>0
theorem cA(i f c:Nat){s:Stmt}(e:((Hd.kF w0.params).lookup f,(Hd.kF w0.params).lookup c,(QS (Hd.oA w0.params c))[1]?,(qU[i]?).map (fun p=>(p.1,p.2.2)),(dc s).ok,(cB (Hd.fP s)).isSome)=(some (fO s c (QO (Hd.oA w0.params f))),some {cls:=.type "code",dict:=none,data:=.fields (QS (Hd.oA w0.params c)),slots:=#[]},some (.str (QO (Hd.oA w0.params f)).qualname (VQ (Hd.oA w0.params c))),some (c,(QO (Hd.oA w0.params f)).qualname++".<locals>."),true,true):=by kernel_rfl):(dc s).ok=true∧FnAt h f (dc s):=by
 obtain⟨e1,e⟩:=Prod.mk.inj e;obtain⟨e2,e⟩:=Prod.mk.inj e;obtain⟨e3,e⟩:=Prod.mk.inj e;obtain⟨m,e⟩:=Prod.mk.inj e;obtain⟨ok,pm⟩:=Prod.mk.inj e;refine(eG m).elim fun p q=>⟨ok,_,_,X f _ e1,rfl,rfl,rfl,rfl,rfl,rfl,rfl,rfl,rfl,?_,⟨c,_,_,_,rfl,X c _ e2,rfl,e3⟩,⟨c,p.2.1,rfl,List.mem_of_getElem? (i:=i) ?_⟩⟩
 ·show _=some ((cB (Hd.fP s)).getD []);induction hh:cB (Hd.fP s) with |none=>rw[hh] at pm;exact bE pm|some v=>rfl
 ·exact q.1.trans (congrArg some (Prod.ext (congrArg Prod.fst q.2:) (Prod.ext rfl (congrArg Prod.snd q.2:))))
theorem LI:AllP (fun f d=>d.ok=true∧FnAt h f d) SN:=
 .cons (cA X 0 32 31)<|
 .cons (cA X 1 78 77)<|
 .cons (cA X 2 92 91)<|
 .cons (cA X 3 99 98)<|
 .cons (cA X 4 106 105)<|
 .cons (cA X 5 113 112)<|
 .cons (cA X 6 134 133)<|
 .cons (cA X 7 141 140)<|
 .cons (cA X 8 155 154)<|
 .cons (cA X 9 162 161)<|
 .cons (cA X 10 169 168)<|
 .cons (cA X 11 176 175)<|
 .cons (cA X 12 181 180)<|
 .cons (cA X 13 188 187)<|
 .cons (cA X 14 195 194)<|
 .cons (cA X 15 200 199)<|
 .cons (cA X 16 207 206)<|
 .cons (cA X 17 212 211)<|
 .cons (cA X 18 217 216)<|
 .cons (cA X 19 222 221)<|
 .cons (cA X 20 229 228)<|
 .cons (cA X 21 234 233)<|trivial
noncomputable def Ah:Option (Option Value)→Bool|some none=>true|_=>false
omit X in
theorem rZ{x:Option (Option Value)}(h:Ah x=true):x=some none:=by
 cases x with |none=>exact nomatch h|some y=>cases y with |none=>rfl|some _=>exact nomatch h
theorem Ai{c N:Nat}{d:Gb}{nm q bs sn sub col dd k0 k1 k2 k3 k5}(e:(Hd.kF w0.params).lookup c=some (excClassObj nm q c N bs [.type "object"] true sn sub false col dd k0 k1 k2 k3 k5 "object.__new__"))(o:nsOkIn (Hd.kF w0.params) N=true)
  (h1:nsIn (Hd.kF w0.params) N (Str.ofString "__getattribute__")=some none)(h2:nsIn (Hd.kF w0.params) N (Str.ofString "__getattr__")=some none)(h3:nsIn (Hd.kF w0.params) N (Str.ofString "__setattr__")=some none)
  (m:AllP (fun m f=>nsIn (Hd.kF w0.params) N m=some (some (.ref f))∧(iO C4 f).isSome=true∧(fastLookup "object" m).isSome=true) d.meths)(fl:d.Ce.all (fun a=>Ah (nsIn (Hd.kF w0.params) N a)&&Ah (fastLookup "object" a))=true):Gj h c d:=by
 have n:h.Ns N (h.nsMap N):=.of_isNs (isNs_of_in X o);refine⟨_,_,N,_,_,_,_,_,_,_,_,_,_,h.nsMap N,X c _ e,n,ns_none_of X n h1,ns_none_of X n h2,ns_none_of X n h3,fun x f hx=>?_,fun x hx=>?_⟩
 ·have q:=m.at hx;refine⟨gi X n q.1,q.2.1,?_⟩;rw[typeLookup_type,builtinLookup_eq_fast,←Option.some_get q.2.2];exact⟨_,rfl⟩
 ·have q:=bj (cO fl x hx);refine⟨ns_none_of X n (rZ q.1),?_⟩;rw[typeLookup_type,builtinLookup_eq_fast,rZ q.2]
theorem GZ:AllP (fun c d=>Gj h c d) Gi:=by refine .cons (Ai X (rfl:_=some (Hd.zd w0.params)) (by kernel_rfl) (by kernel_rfl) (by kernel_rfl) (by kernel_rfl) (by repeat first|exact trivial|refine .cons ⟨by kernel_rfl,by kernel_rfl,by kernel_rfl⟩ ?_) (by kernel_rfl)) ?_;refine .cons (Ai X (rfl:_=some (Hd.ze w0.params)) (by kernel_rfl) (by kernel_rfl) (by kernel_rfl) (by kernel_rfl) (by repeat first|exact trivial|refine .cons ⟨by kernel_rfl,by kernel_rfl,by kernel_rfl⟩ ?_) (by kernel_rfl)) ?_;trivial
noncomputable def LJ(K:Frag)(c:Addr)(m:Str)(f:Addr):Bool:=hasDictIn K c&&(findIn K (.ref c) m==some (some (.ref f))&&(specialIn K (.ref f) "__get__"==some (some (.builtin "function.__get__"))&&
  (takesIn K (.ref f)==some false&&((copiedNames.contains m).not&&(plainGet K c m&&typeIn K (.ref f)==some (.type "function"))))))
omit X in
theorem Aj:AllP (fun c d=>AllP (fun m f=>LJ (Hd.kF w0.params) c m f=true) d.meths) Gi:=.cons (.of (by kernel_rfl)) (.cons (.of (by kernel_rfl)) trivial)
end
end Mine
end
noncomputable section
open PySem PySem.W PySem.Builtin PySem.Builtin.Str PyProof.Rows
noncomputable section
namespace Mine
open Hd (ents E3 ent eI)
theorem jX(st:Nat)(i:Int):∀(T:Nat) (L:List E3),match L.lookup i with |some x=>∃t,((ents st T L).find? fun e=>e.key.isInt i).map (·.val)=some (.str x t)|none=>((ents st T L).find? fun e=>e.key.isInt i)=none
|aM,[]=>rfl|T,(j,x)::r=>by
 have e0:ents st T ((j,x)::r)=ent T (j,x)::ents st (T+st) r:=rfl;rw[List.lookup_cons,e0];induction h:i==j with
 |true=>
  have e:Value.isInt i (ent T (j,x)).key=true:=by have :=eq_of_beq h;subst this;show Value.isInt i (.int i T)=true;simp[Value.isInt]
  dsimp only;exact⟨T+1,by rw[List.find?_cons_of_pos (p:=fun e:DictEntry=>Value.isInt i e.key) e];rfl⟩
 |false=>
  have e:¬Value.isInt i (ent T (j,x)).key=true:=by show ¬Value.isInt i (.int j T)=true;simp only[beq_eq_false_iff_ne,ne_eq] at h;simp[Value.isInt];exact fun q=>h q.symm
  dsimp only;rw[List.find?_cons_of_neg (p:=fun e:DictEntry=>Value.isInt i e.key) e];exact jX st i (T+st) r
theorem mW{i:Int}:∀{L R:List E3},(L++R).lookup i=match L.lookup i with |some x=>some x|none=>R.lookup i
|[],aM=>rfl|(j,x)::L,R=>by
 rw[List.cons_append,List.lookup_cons,List.lookup_cons];induction i==j with |true=>rfl|false=>exact mW
set_option tactic.hygienic true in
theorem setObj_of{prog:Program}{o:Obj}{es:Array (Int×Value)}{ep:Nat}{t:SetTable}(xs:List Int)(hx:o.ExactSet)(hd:o.data=.set es ep t)
  (h1:es.toList.all (fun e=>match e.2 with |.int k _=>k==e.1&&hashInt k==e.1|_=>false)=true)(h2:xs.all (fun x=>es.toList.any (·.1==x))=true)(h3:es.toList.all (fun e=>xs.contains e.1)=true)(hf:t.fits es.size=true):
  o.SetObjOf (PySem.intKind prog w0) (fun i=>xs.contains i) es.size:=by
 have sh:∀e∈es.toList,∃t,e.2=.int e.1 t∧hashInt e.1=e.1:=by
  intro e he;have :=cO h1 e he
  split at this
  ·rename_i k tk hk;simp only[Bool.and_eq_true,beq_iff_eq] at this;obtain⟨rfl,h5⟩:=this;exact⟨tk,hk,h5⟩
  ·exact bE this
 refine⟨hx,es,ep,t,hd,fun e he=>?_,fun k=>⟨fun hk=>?_,?_⟩,rfl,hf⟩
 ·obtain⟨tk,h4,h5⟩:=sh e he;exact⟨⟨e.1,by rw[h4];show Value.isInt e.1 (.int e.1 tk)=true;simp[Value.isInt],h5.symm⟩,by rw[h4];rfl⟩
 ·have :=cO h2 k (by simpa using hk);obtain⟨e,he,gz⟩:=List.any_eq_true.mp this;have :=eq_of_beq gz
  subst this;obtain⟨tk,h4,_⟩:=sh e he;exact⟨e,he,by rw[h4];show Value.isInt e.1 (.int e.1 tk)=true;simp[Value.isInt]⟩
 ·rintro⟨e,he,hk⟩;obtain⟨tk,h4,_⟩:=sh e he;have gz:Value.isInt k e.2=true:=hk
  rw[h4] at gz;have :e.1=k:=by simpa [Value.isInt] using gz
  subst this;exact cO h3 e he
section
variable{h:Heap}(X:(Hd.kF w0.params).In h)
include X
omit X in
theorem G0:(Hd.vF w0.params).SetObjOf (PySem.intKind kg w0) (fun i=>cz.contains i) 27:=by obtain⟨es,ep,t,hd,h1,h2,h3,hf,hz⟩:∃es ep t,(Hd.vF w0.params).data=.set es ep t∧es.toList.all (fun e=>match e.2 with |.int k _=>k==e.1&&hashInt k==e.1|_=>false)=true∧cz.all (fun x=>es.toList.any (·.1==x))=true∧es.toList.all (fun e=>cz.contains e.1)=true∧t.fits es.size=true∧es.size=27:=⟨_,_,_,rfl,by kernel_rfl,by kernel_rfl,by kernel_rfl,by kernel_rfl,by kernel_rfl⟩;rw[←hz];exact setObj_of cz ⟨rfl,rfl,rfl⟩ hd h1 h2 h3 hf
omit X in
theorem o5{st T:Nat}{L:List E3}(hL:∀e∈L,Hd.BW e):∀e∈ents st T L,∃k,(PySem.intKind kg w0).is k e.key=true∧e.hash=(PySem.intKind kg w0).hash k:=by
 induction L generalizing T with
 |nil=>intro e he;cases he
 |cons x r ih=>
  intro e he;have Ak:e∈ent T x::ents st (T+st) r:=he
  rcases bz Ak with rfl|Ak
  ·refine⟨x.1,?_,(hL x (.head _)).1.symm⟩;show Value.isInt x.1 (.int x.1 T)=true;simp[Value.isInt]
  ·exact ih (fun y hy=>hL y (.tail _ hy)) e Ak
theorem r7(i:Int):∃es n,h.get? 33=some (cT es n)∧h.MapOf (PySem.intKind kg w0) 33 (findBy Value.isInt es)∧match eI.lookup i with |some x=>∃t,findBy Value.isInt es i=some (.str x t)|none=>findBy Value.isInt es i=none:=by
 have g:h.get? 33=some (Hd.za w0.params):=X 33 _ (by kernel_rfl);obtain⟨a,b,c,d,k,e0⟩:∃a b c d k,Hd.za w0.params=Hd.bZ (ents a b (eI.take k)++ents c d (eI.drop k)):=⟨_,_,_,_,_,rfl⟩;rw[e0] at g;refine⟨_,_,g,⟨_,_,_,g,⟨rfl,rfl,rfl⟩,rfl,?_,fun k=>rfl⟩,?_⟩
 ·intro e he;have Ak:e∈ents a b (eI.take k)++ents c d (eI.drop k):=by simpa using he
  rcases List.mem_append.mp Ak with Ak|Ak
  ·exact o5 (fun y hy=>Hd.Gh y (List.mem_of_mem_take hy)) e Ak
  ·exact o5 (fun y hy=>Hd.Gh y (List.mem_of_mem_drop hy)) e Ak
 ·have h1:=jX a i b (eI.take k);have h2:=jX c i d (eI.drop k);have e2:findBy Value.isInt (ents a b (eI.take k)++ents c d (eI.drop k)).toArray i=((ents a b (eI.take k)).find? (fun e=>Value.isInt i e.key)|>.or ((ents c d (eI.drop k)).find? fun e=>Value.isInt i e.key)).map (·.val):=by unfold findBy;rw[List.find?_toArray,List.find?_append]
  rw[e2];have e3:eI.lookup i=match (eI.take k).lookup i with |some x=>some x|none=>(eI.drop k).lookup i:=by rw[←mW,List.take_append_drop]
  rw[e3];induction hl:(eI.take k).lookup i with
  |some x=>
   rw[hl] at h1;obtain⟨t,ht⟩:=h1;refine⟨t,?_⟩;induction hf:(ents a b (eI.take k)).find? (fun e=>Value.isInt i e.key) with |none=>rw[hf] at ht;exact nE ht|some e=>rw[hf] at ht;exact ht
  |none=>
   rw[hl] at h1;dsimp only at h1⊢;rw[h1]
   revert h2
   induction (eI.drop k).lookup i with
   |some x=>rintro⟨t,ht⟩;exact⟨t,ht⟩
   |none=>intro h2;rw[h2];rfl
end
end Mine
end
end
noncomputable section
open PySem PySem.W PySem.Builtin PySem.Builtin.Str PyProof.Rows
namespace Mine
def Z0(h₁:Heap)(a:Addr):Option Obj:=if Hd.kT.contains a then none else h₁.get? a
def W0(h₁:Heap):Wd:=⟨fun a=>none,fun a=>none,Z0 h₁⟩
theorem G1{h₁:Heap}{a:Addr}{o:Obj}(e:Z0 h₁ a=some o):h₁.get? a=some o:=by
 unfold Z0 at e;induction h:Hd.kT.contains a with |true=>rw[h] at e;exact nE e|false=>rw[h] at e;exact e
theorem wd{h₁:Heap}{a:Addr}(e:Hd.kT.contains a=false):Z0 h₁ a=h₁.get? a:=by unfold Z0;refine e▸?_;rfl
theorem Al{h h':Heap}{a:Addr}{m:Str→Option Value}(x:h.Ns a m)(e:∀o,h.get? a=some o→h'.get? a=some o):h'.Ns a m:=
 let ⟨o,es,ep,g,r⟩:=x;⟨o,es,ep,e _ g,r⟩
theorem C_:∀a∈qU,∀b∈qU,a.2.1=b.2.1→a.2.2=b.2.2:=by decide+kernel
theorem Dc{i:Int}{x:Str}(h:Hd.eI.lookup i=some x):x.length<ak:=by
 have :Hd.eI.all (fun p=>decide (p.2.length<2^20))=true:=by kernel_rfl
 exact of_decide_eq_true ((AllP.of (f:=fun a x=>decide (x.length<2^20)) this).at h)
theorem LK(P:Params):(Hd.kF P).all (fun p=>!Hd.kT.contains p.1)=true:=by kernel_rfl
theorem lj:∀p∈qU,p.2.1∈Hd.kT∧Hd.kT.contains p.1=false:=by decide+kernel
section
variable{h₁:Heap}(X₀:(Hd.kF w0.params).In h₁)
include X₀
theorem VR{h:Heap}(hz:∀a o,Z0 h₁ a=some o→h.get? a=some o):(Hd.kF w0.params).In h:=by intro a o e;refine hz a o ?_;obtain h:=(AllP.of (f:=fun a b=>!Hd.kT.contains a) (LK w0.params)).at e;rw[wd (Bool.not_eq_true' _▸h),X₀ a o e]
theorem r8:∀p∈qU,CodeHd h₁ p.1 p.2.1:=by
 intro p hp;have :qU.all (fun p=>codeHdIn (Hd.kF w0.params) p.1 p.2.1)=true:=by kernel_rfl
 exact codeHd_of_K X₀ (cO this p hp)
omit X₀ in
theorem Am:AllP (fun x v=>∃y,(∀W,Rel W v y)∧nsIn (Hd.kF w0.params) mainGlobals x=some (some y)) zj:=by
 repeat refine .cons ⟨_,fun W=>by first|exact rfl|exact⟨rfl,rfl⟩,by kernel_rfl⟩ ?_
 trivial
theorem An{mg:Str→Option Value}(g:h₁.Ns mainGlobals mg){x:Str}{v:V}(h:zj.lookup x=some v):∃y,(∀W,Rel W v y)∧mg x=some y:=(Am.at h).imp fun a q=>⟨q.1,gi X₀ g q.2⟩
theorem Dd{mg mb:Str→Option Value}(g:h₁.Ns mainGlobals mg)(hb:∀x:Str,x≠"__name__"→mb x=bootBuiltins x):∀n∈lK,mg (Str.ofString n)=none∧mb (Str.ofString n)=some (.builtin n):=by
 intro n hn;simp only[lK,List.mem_cons,List.not_mem_nil,or_false] at hn;rcases hn with rfl|rfl|rfl|rfl|rfl|rfl|rfl
 all_goals exact⟨ns_none_of X₀ g (by kernel_rfl),(hb _ (by decide+kernel)).trans (by decide+kernel)⟩
theorem De{mg mb:Str→Option Value}(g:h₁.Ns mainGlobals mg)(hb:∀x:Str,x≠"__name__"→mb x=bootBuiltins x):∀n∈lM,mg (Str.ofString n)=none∧mb (Str.ofString n)=some (.type n):=by
 intro n hn;simp only[lM,List.mem_cons,List.not_mem_nil,or_false] at hn;rcases hn with rfl|rfl|rfl|rfl|rfl
 all_goals exact⟨ns_none_of X₀ g (by kernel_rfl),(hb _ (by decide+kernel)).trans (by decide+kernel)⟩
end
set_option tactic.hygienic true in
theorem Df{h₁:Heap}{p:Program}{loose:List Str}{qV:ExcName→Option Value}{mg mb:Str→Option Value}(X₀:(Hd.kF w0.params).In h₁)(T:Top p loose qV mg mb h₁):Base (Z0 h₁):=by
 intro h hz;have X:=VR X₀ hz
 have to:=fun{a} ha o e=>hz a o (by rw[wd ha];exact e)
 have g:=Al T.g (to (by decide+kernel));have b:=Al T.b (to (by decide+kernel))
 refine{noLimit:=?_,mods:=?_,fns:=?_,cls:=?_,bound:=?_,setIn:=?_,zq:=?_,Fb:=?_,zu:=?_,zv:=?_,glob:=?_}
 ·obtain⟨mc,x,y⟩:=T.nolimit;exact⟨mc,Al x (to (by decide+kernel)),y⟩
 ·have :=Heap.lt_size (X 22 (Hd.vF w0.params) (by kernel_rfl));exact Nat.lt_trans (by decide) this
 ·intro f d hf;exact(LI X).at hf
 ·intro c d hc;exact(GZ X).at hc
 ·intro c d a f hc ha A E Q s x dx o od es ep hs ho ku xw QM QN hd sk hn hQ;obtain⟨b1,z⟩:=bj ((Aj.at hc).at ha);obtain⟨b2,z⟩:=bj z;obtain⟨b3,z⟩:=bj z;obtain⟨b4,z⟩:=bj z;obtain⟨b5,z⟩:=bj z;obtain⟨b6,b7⟩:=bj z;subst hs;exact Af X ho ku xw QM QN hd sk hn b1 (eq_of_beq b2) (eq_of_beq b3) (eq_of_beq b4) ((Bool.not_eq_true' _).mp b5) b6 (eq_of_beq b7) hQ
 ·intro A E Q s i t hs hQ;subst hs;exact Ag (X 22 _ (by kernel_rfl)) G0 (by decide+kernel) hQ
 ·intro c P q c' q' h1 h2;exact C_ _ h1 _ h2 rfl
 ·obtain⟨es,n,g,_⟩:=r7 X 0;exact⟨es,n,g⟩
 ·intro A E Q s i t hs h1 h2;subst hs;refine(r7 X i).elim fun es QT=>?_;refine QT.elim fun n G2=>?_;obtain g:=G2.1;obtain hM:=G2.2.1;obtain hf:=G2.2.2
  refine call_meetsIn F.slot_dict_get (⟨_,g,rfl⟩) F.entry_dict_get (F.args_dict_get_2 _ _) (meets_dict_get (PySem.intKind kg w0) 33 (by show Value.isInt i (.int i t)=true;simp[Value.isInt]) (by decide+kernel)) ⟨_,hM,?_⟩
  revert hf h1 h2
  show(∀x,Hd.eI.lookup i=some x→_)→(Hd.eI.lookup i=none→_)→_;induction hl:Hd.eI.lookup i with
  |some x=>rintro h1 _ ⟨tk,ht⟩;rw[ht];exact h1 x rfl tk _
  |none=>intro _ h2 hn;rw[hn];exact h2 rfl _
 ·intro i x hx;exact Dc hx
 ·refine⟨mg,mb,g,b,fun x v hx=>?_,fun c P q hm=>⟨?_,?_⟩⟩
  ·unfold lookGlob at hx;split at hx
   ·rename_i u hu;obtain rfl:=Option.some.inj hx;obtain⟨y,h1,h2⟩:=An X g hu;exact⟨y,h1,.inl h2⟩
   ·split at hx
    ·rename_i n hn;obtain rfl:=Option.some.inj hx;obtain hm:=List.mem_of_find?_eq_some hn;obtain he:=eq_of_beq (List.find?_some (p:=fun n=>Str.ofString n==x) hn);subst he;obtain⟨h1,h2⟩:=Dd X g T.builtins n hm;exact⟨_,fun W=>rfl,.inr ⟨h1,h2⟩⟩
    ·obtain⟨n,hn,rfl⟩:=eG hx;have hm:=List.mem_of_find?_eq_some hn;obtain he:=eq_of_beq (List.find?_some (p:=fun n=>Str.ofString n==x) hn);subst he;obtain⟨h1,h2⟩:=De X g T.builtins n hm;exact⟨_,fun W=>rfl,.inr ⟨h1,h2⟩⟩
  ·have hP:=(lj _ hm).1;refine⟨4,boot_o_4 w0.params,gi X g (by kernel_rfl),by decide+kernel,by decide+kernel,?_,X 4 _ (by kernel_rfl),rfl,rfl,rfl⟩;rintro rfl;exact absurd (show 4∈Hd.kT from hP) (by decide+kernel)
  ·have hP:=(lj _ hm).1;rintro rfl;exact absurd (show mainGlobals∈Hd.kT from hP) (by decide+kernel)
theorem G3{s:Shared}{p:Program}{loose:List Str}{qV:ExcName→Option Value}{mg mb:Str→Option Value}(X₀:(Hd.kF w0.params).In s.heap)(TT:∀P∈Hd.kT,s.heap.get? P=some (tabObj #[]))(T:Top p loose qV mg mb s.heap):aG (W0 s.heap) [] s:=by
 refine⟨fun a o e=>G1 e,fun k a e=>(nE e),fun a k e=>(nE e),fun a k e=>(nE e),fun k o e=>(by simp at e),fun c P q hm=>?_,Df X₀ T⟩;have Tu:=hm
 obtain⟨h1,h2⟩:=lj _ Tu;obtain hc:=r8 X₀ _ Tu;refine⟨hc,?_,?_,rfl,#[],TT P h1,?_,?_⟩
 ·obtain⟨o,_,_,_,_,_,_,_,_,e,_⟩:=hc;exact⟨o,by refine(wd h2).trans ?_;exact e⟩
 ·show Z0 s.heap P=none;exact if_pos (by simpa using h1)
 ·exact trivial
 ·intro pos cv VS;simp[codeAmong] at VS
section
def bN(d:Nat)(sc:Scope)(env:ah)(e:Expr)(H:AH)(v:V)(H':AH):Prop:=∀⦃A:Around⦄⦃E:Value→Shared→Prop⦄⦃W:Wd⦄⦃s:Shared⦄⦃e':Env⦄⦃Q:Value→Shared→Prop⦄,bA A d→aG W H s→ao sc env e' W s→(∀x W' s',ai W H s aH W' H' s'→Rel W' v x→Q x s')→wpAny gM A (eval e e') Q E s
def nN(d:Nat)(sc:Scope)(env:ah)(e:Expr)(H:AH)(b:Bool)(H':AH):Prop:=∀⦃A:Around⦄⦃E:Value→Shared→Prop⦄⦃W:Wd⦄⦃s:Shared⦄⦃e':Env⦄⦃Q:Bool→Shared→Prop⦄,bA A d→aG W H s→ao sc env e' W s→(∀W' s',ai W H s aH W' H' s'→Q b s')→wpAny gM A (isTrue e e' (eval e e')) Q E s
inductive jY(d:Nat)(sc:Scope)(env:ah):List Expr→AH→List V→AH→Prop where
|nil{H:AH}:jY d sc env [] H [] H|cons{e:Expr}{es:List Expr}{H H₁ H':AH}{v:V}{vs:List V}(hs:isStarred e=false)(h:bN d sc env e H v H₁)(k:jY d sc env es H₁ vs H'):jY d sc env (e::es) H (v::vs) H'
def aC(d:Nat)(f:V)(vs:List V)(H:AH)(v:V)(H':AH):Prop:=∀⦃A:Around⦄⦃E:Value→Shared→Prop⦄⦃W:Wd⦄⦃s:Shared⦄⦃f':Value⦄⦃xs:List Value⦄⦃Q:Value→Shared→Prop⦄,bA A d→aG W H s→Rel W f f'→ay W vs xs→(∀x W' s',ai W H s aH W' H' s'→Rel W' v x→Q x s')→codeAny gM A (.call f' ⟨xs,[]⟩) (wants Q E) s
def n6(d:Nat)(sc:Scope)(env:ah)(t:Expr)(v:V)(H:AH)(aj:ah)(H':AH):Prop:=∀⦃A:Around⦄⦃E:Value→Shared→Prop⦄⦃W:Wd⦄⦃s:Shared⦄⦃e':Env⦄⦃x:Value⦄⦃Q:Unit→Shared→Prop⦄,bA A d→aG W H s→ao sc env e' W s→Rel W v x→(∀u W' s',ai W H s (bY sc e') W' H' s'→ao sc aj e' W' s'→Q u s')→wpAny gM A (PySem.assign t e' x) Q E s
def kH(d:Nat)(sc:Scope)(env:ah)(c:Stmt)(H:AH)(fl:Fl)(aj:ah)(H':AH):Prop:=∀⦃A:Around⦄⦃E:Value→Shared→Prop⦄⦃W:Wd⦄⦃s:Shared⦄⦃e':Env⦄⦃Q:Flow→Shared→Prop⦄,bA A d→aG W H s→ao sc env e' W s→(∀f W' s',ai W H s (bY sc e') W' H' s'→ao sc aj e' W' s'→kj W' fl f→Q f s')→wpAny gM A (PySem.exec c e') Q E s
theorem ai.k{α:Type}{t:Sem α}{A:Around}{E:Value→Shared→Prop}{X:Addr→Prop}{W W₁:Wd}{H H₁ H':AH}{s s₁:Shared}{R:α→Wd→Shared→Prop}{Q:α→Shared→Prop}(P:ai W H s X W₁ H₁ s₁)(S:aG W H s)(k:∀x W' s',ai W H s X W' H' s'→R x W' s'→Q x s')(h:wpAny gM A t (fun x=>aU W₁ H₁ s₁ X H' (R x)) E s₁):wpAny gM A t Q E s₁:=wpAny_mono h (fun x s₂ q=>q.elim fun W₂ q=>k x W₂ s₂ (P.trans S q.1) q.2) fun a a h=>h
variable{d:Nat}{sc:Scope}{env:ah}{e l r t o i:Expr}{a b v c:V}{H H₁ H₂ H':AH}{p:Pos}
theorem LL{op:Operator}(h1:bN d sc env l H a H₁)(h2:bN d sc env r H₁ b H')(h3:binop op a b=some v):bN d sc env (.BinOp l op r p) H v H':=fun c c c c c c rm S N k=>wpAny_BinOp (h1 rm S N fun c c c P₁ r₁=>h2 rm P₁.sim (N.expr P₁) fun c c c P₂ r₂=>(P₁.trans S P₂).k S k (zw h3 P₂.sim (r₁.mono P₂.le) r₂))
theorem G4(h1:bN d sc env o H a H₁)(h2:bN d sc env i H₁ b H')(h4:item H' a b=some c):bN d sc env (.Subscript o i p) H c H':=fun e e e e e e rm S N k=>vP (h1 rm S N fun e e e P₁ r₁=>h2 rm P₁.sim (N.expr P₁) fun e e e P₂ r₂=>(vQ h4 P₂.sim (r₁.mono P₂.le) r₂).elim fun g g3=>g.elim fun T g=>g.elim fun x g=>⟨T,x,g.1,g.2,(P₁.trans S P₂).k S k g3⟩)
theorem LM{op:CmpOp}(hm:behindInMarks op r=false)(h1:bN (d+1) sc env l H a H₁)(h2:bN (d+1) sc env r H₁ b H')(h3:bI H' op a b=some v):bN (d+1) sc env (.Compare l [op] [r] p) H v H':=fun c c c c c c rm S N k=>wpAny_Compare1 (h1 rm S N fun c c c P₁ r₁=>h2 rm P₁.sim (N.expr P₁) fun c c c P₂ r₂=>(P₁.trans S P₂).k S k (GA h3 P₂.sim (r₁.mono P₂.le) r₂ (Nat.lt_of_le_of_lt (Nat.add_le_add_left (Nat.le_mul_of_pos_right 12 (Nat.succ_pos _)) _) rm.units))) hm
theorem LN(h1:nN d sc env t H true H₁)(h2:bN d sc env l H₁ v H'):bN d sc env (.IfExp t l r p) H v H':=fun a a a a a a rm S N k=>wpAny_IfExp (h1 rm S N fun a a P₁=>h2 rm P₁.sim (N.expr P₁) fun a a a P₂ r₂=>k _ _ _ (P₁.trans S P₂) r₂)
theorem LO(h1:nN d sc env t H false H₁)(h2:bN d sc env r H₁ v H'):bN d sc env (.IfExp t l r p) H v H':=fun a a a a a a rm S N k=>wpAny_IfExp (h1 rm S N fun a a P₁=>h2 rm P₁.sim (N.expr P₁) fun a a a P₂ r₂=>k _ _ _ (P₁.trans S P₂) r₂)
theorem LP{j:Int}(h1:bN d sc env l H (.int j) H'):bN d sc env (.UnaryOp .USub l p) H (.int (-j)) H':=fun a a a a a a rm S N k=>wpAny_UnaryOp (h1 rm S N fun a a a P₁ r₁=>P₁.k S k (Exists.elim r₁ fun a h=>h▸P.neg_int (bP P₁.sim)))
theorem qm{x:Str}(hx:(x==Str.ofString "__debug__")=false)(h:dD G.C sc env x=some v):bN d sc env (.Name x p) H v H:=fun a a a a a a rm S N k=>wpAny_Name ((ai.refl S).k S k (jK h S N)) hx
theorem LQ{j:Int}{q:Nat}:bN d sc env (.Constant (.int j) q p) H (.int j) H:=fun a a a a a a rm S N k=>wpAny_Constant_int (k _ _ _ (.toks S aH _) ⟨_,rfl⟩)
theorem LR{x:Str}{q:Nat}(hz:x.length<ak):bN d sc env (.Constant (.str x) q p) H (.str x) H:=fun a a a a a a rm S N k=>Calls.Constant_str (k _ _ _ (.toks S aH _) ⟨hz,_,rfl⟩)
theorem G5{x:Bool}{q:Nat}:bN d sc env (.Constant (.bool x) q p) H (.bool x) H:=fun a a a a a a rm S N k=>eval_Constant ..▸wpAny_pure (k _ _ _ (.refl S) rfl)
theorem G6{q:Nat}:bN d sc env (.Constant .none q p) H .none H:=fun a a a a a a rm S N k=>eval_Constant ..▸wpAny_pure (k _ _ _ (.refl S) rfl)
theorem dz{e':Env}{es:List Expr}(hs:isStarred e=false):starEach (e::es) e'=(false,eval e e')::starEach es e':=by induction e using Expr.casesOn<;>first|rfl|exact nomatch hs
theorem jY.run{es:List Expr}{vs:List V}(h:jY d sc env es H vs H'){A:Around}{E:Value→Shared→Prop}{W:Wd}{s:Shared}{e':Env}{q:Pos}(rm:bA A d)(S:aG W H s)(N:ao sc env e' W s):∀{Q:List Value→Shared→Prop},(∀xs W' s',ai W H s aH W' H' s'→ay W' vs xs→Q xs s')→
  wpAny gM A (spliced (backTo q (starEach es e'))) Q E s:=by
 induction h generalizing W s with |nil=>exact fun k=>wpAny_pure (k _ _ _ (.refl S) trivial)|cons hs h _ ih=>exact fun k=>dz hs▸Calls.spliced_cons (rest:=backTo q (starEach _ e')) (h rm S N fun a a a P₁ r₁=>ih P₁.sim (N.expr P₁) fun a a a P₂ r₂=>k _ _ _ (P₁.trans S P₂) ⟨r₁.mono P₂.le,r₂⟩)
theorem G7{es:List Expr}{vs:List V}{v:V}(h:jY d sc env es H vs H₁)(hz:vs.length<ak)(hn:(if G.C.mu p then gC (.lst vs) else pure (.lst vs)) H₁=some (v,H')):bN d sc env (.List es p) H v H':=fun a a a a a a rm S N k=>arm_eval_List ..▸wpAny_bind (wpAny_standAt (wpAny_bind (h.run rm S N fun a a a P₁ r₁=>P₁.k S k (t6 hn P₁.sim r₁ hz))))
theorem LS{es:List Expr}{q:Nat}{vs:List V}(h:jY d sc env es H vs H')(hz:vs.length<ak):bN d sc env (.Tuple es q p) H (.tup vs) H':=fun a a a a a a rm S N k=>arm_eval_Tuple ..▸wpAny_bind (wpAny_standAt (wpAny_bind (h.run rm S N fun a a a P₁ r₁=>P₁.k S k (rB P₁.sim r₁ hz))))
theorem LU{x:Str}(hs:dh o=false)(h1:bN d sc env o H a H₁)(h2:getAttrA G.C a x H₁=some (v,H')):bN d sc env (.Attribute o x p) H v H':=fun b b b b b b rm S N k=>arm_eval_Attribute ..▸fJ hs▸wpAny_bind (h1 rm S N fun b b b P₁ r₁=>wpAny_bind (wpAny_standAt (wpAny_bind (wpAny_holding ((ai.refl P₁.sim).k P₁.sim (fun b b b P₂ r₂=>wpAny_bind (wpAny_letTemporaryGo (wpAny_pure (k _ _ _ (P₁.trans S P₂) r₂)))) (mq h2 P₁.sim r₁))))))
theorem LV{b:Bool}(h:nN d sc env t H b H'):nN d sc env (.UnaryOp .Not t p) H (!b) H':=fun a a a a a a rm S N k=>wpAny_isTrue_Not (h rm S N k)
theorem LW{b:Bool}(h1:nN d sc env t H true H₁)(h2:nN d sc env l H₁ b H'):nN d sc env (.IfExp t l r p) H b H':=fun a a a a a a rm S N k=>isTrue_IfExp (h1 rm S N fun a a P₁=>h2 rm P₁.sim (N.expr P₁) fun a a P₂=>k _ _ (P₁.trans S P₂))
theorem LY{b:Bool}(h1:nN d sc env t H false H₁)(h2:nN d sc env r H₁ b H'):nN d sc env (.IfExp t l r p) H b H':=fun a a a a a a rm S N k=>isTrue_IfExp (h1 rm S N fun a a P₁=>h2 rm P₁.sim (N.expr P₁) fun a a P₂=>k _ _ (P₁.trans S P₂))
theorem LZ{op:CmpOp}{b:Bool}(h:bN d sc env (.Compare l [op] [r] p) H (.bool b) H'):nN d sc env (.Compare l [op] [r] p) H b H':=fun a a a a a a rm S N k=>tZ (h rm S N fun a a a P₁ r₁=>tY rfl P₁.sim r₁ fun a=>k _ _ (P₁.trans S (.toks P₁.sim aH _)))
end
section
variable{d:Nat}{sc:Scope}{env aj aq:ah}{e l r t o i x:Expr}{a b v c:V}{H H₁ H₂ H₃ H':AH}{p q:Pos}{fl:Fl}{st:Stmt}{bd:List Stmt}
noncomputable def Ao(e:Expr):Bool:=Nat.beq e.ctorIdx 25
def n7(d:Nat)(sc:Scope)(env:ah)(b:List Stmt)(H:AH)(fl:Fl)(aj:ah)(H':AH):Prop:=∀⦃A:Around⦄⦃E:Value→Shared→Prop⦄⦃W:Wd⦄⦃s:Shared⦄⦃e':Env⦄⦃Q:Flow→Shared→Prop⦄,bA A d→aG W H s→ao sc env e' W s→(∀f W' s',ai W H s (bY sc e') W' H' s'→ao sc aj e' W' s'→kj W' fl f→Q f s')→wpAny gM A (PySem.execs b e') Q E s
theorem ai.up{W W':Wd}{s s':Shared}{X:Addr→Prop}(P:ai W H s aH W' H' s'):ai W H s X W' H' s':=P.wk fun a h=>h.elim
theorem mX{M:Model}{α β:Type}{m:Sem α}{b:α}{f:α→Sem β}{A:Around}{Q:β→Shared→Prop}{E:Value→Shared→Prop}{s:Shared}(h:m=pure b)(k:wpAny M A (f b) Q E s):wpAny M A (m>>=f) Q E s:=h▸wpAny_bind (wpAny_pure k)
theorem L0:n7 d sc env [] H .next env H:=fun a a a a a a rm S N k=>wpAny_execs_nil (k _ _ _ (.refl S) N rfl)
theorem bq(h1:kH d sc env st H .next aq H₁)(h2:n7 d sc aq bd H₁ fl aj H'):n7 d sc env (st::bd) H fl aj H':=fun a a a a a a rm S N k=>wpAny_execs_cons (h1 rm S N fun f a a P₁ N₁ F₁=>F₁▸h2 rm P₁.sim N₁ fun a a a P₂ N₂ F₂=>k _ _ _ (P₁.trans S P₂) N₂ F₂)
theorem FA(h1:kH d sc env st H (.ret v) aj H'):n7 d sc env (st::bd) H (.ret v) aj H':=fun a a a a a a rm S N k=>wpAny_execs_cons (h1 rm S N fun f a a P₁ N₁ F₁=>F₁.elim fun x hx=>hx.1▸k _ _ _ P₁ N₁ ⟨x,rfl,hx.2⟩)
theorem G8(h1:kH d sc env st H .cont aj H'):n7 d sc env (st::bd) H .cont aj H':=fun a a a a a a rm S N k=>wpAny_execs_cons (h1 rm S N fun f a a P₁ N₁ F₁=>F₁▸k _ _ _ P₁ N₁ rfl)
theorem L1(h:bN d sc env x H v H'):kH d sc env (.Return (some x) p) H (.ret v) env H':=fun a a a a a a rm S N k=>exec_Return_some ..▸wpAny_bind (wpAny_standAt (wpAny_bind (h rm S N fun z a a P r=>wpAny_pure (k _ _ _ P.up (N.expr P) ⟨z,rfl,r⟩))))
theorem L3{N1:List Stmt}(h:nN d sc env t H true H₁)(h2:n7 d sc env bd H₁ fl aj H'):kH d sc env (.If t bd N1 p) H fl aj H':=fun a a a a a a rm S N k=>arm_exec_If ..▸wpAny_bind (wpAny_standAt (wpAny_bind (h rm S N fun a a P=>h2 rm P.sim (N.expr P) fun a a a P₂ N₂ F₂=>k _ _ _ (P.up.trans S P₂) N₂ F₂)))
theorem L4{N1:List Stmt}(h:nN d sc env t H false H₁)(h2:n7 d sc env N1 H₁ fl aj H'):kH d sc env (.If t bd N1 p) H fl aj H':=fun a a a a a a rm S N k=>arm_exec_If ..▸wpAny_bind (wpAny_standAt (wpAny_bind (h rm S N fun a a P=>h2 rm P.sim (N.expr P) fun a a a P₂ N₂ F₂=>k _ _ _ (P.up.trans S P₂) N₂ F₂)))
theorem G9(hc:fZ x=false)(h:bN d sc env x H .none H'):kH d sc env (.Expr x p) H .next env H':=fun b b b b e' b rm S N k=>
 PySem.exec_Expr e' x p (by unfold interactive;rw[N.kind];rfl) (by induction x using Expr.casesOn<;>first|rfl|(exact nomatch hc))▸
  wpAny_bind (wpAny_standAt (wpAny_bind (h rm S N fun z b b P r=>r▸dropValue_plain (v:=.none) (fun a e=>nomatch e)▸wpAny_pure (k _ _ _ P.up (N.expr P) rfl))))
theorem Dg{n:Nat}{e':Env}(hc:fZ x=false):swapsWith x (some t) n e'=pure false:=by induction x using Expr.casesOn<;>first|rfl|cases hc
theorem xR{e':Env}{ts:List Expr}{k:Nat}(hc:Ao x=false):swappedStores [.Tuple ts k p] x e'=pure none:=by induction x using Expr.casesOn<;>first|rfl|cases hc
theorem FD(hc:fZ x=false)(hs:∀e',swappedStores [t] x e'=pure none)(ha:∀e',PySem.assignEach [t] e'=[(false,PySem.assign t e')])(h1:bN d sc env x H a H₁)(h2:n6 d sc env t a H₁ aj H'):kH d sc env (.Assign [t] x p) H .next aj H':=fun b b b b b b rm S N k=>arm_exec_Assign ..▸wpAny_bind (wpAny_standAt (mX (Dg hc) (wpAny_bind (h1 rm S N fun b b b P₁ r₁=>mX (hs _) (ha _▸wpAny_bind (h2 rm P₁.sim (N.expr P₁) r₁ fun b b b P₂ N₂=>wpAny_pure (k _ _ _ (P₁.up.trans S P₂) N₂ rfl)))))))
theorem L5{y:Str}(hk:kindOf sc y=some .local):n6 d sc env (.Name y p) a H (aP env y a) H:=fun b b b b b b b rm S N r k=>wpAny_assign_Name ((ai.refl S).k S (fun x W' s' P (N':ao sc (aP env y a) _ W' s')=>k x W' s' P N') (eX S N hk r))
theorem G_{y:Str}(hk:kindOf sc y=some .cell)(hw:G.C.wo y=true→a_ env y=none):n6 d sc env (.Name y p) a H (aP env y a) H:=fun b b b b b b b rm S N r k=>wpAny_assign_Name ((ai.refl S).k S (fun x W' s' P (N':ao sc (aP env y a) _ W' s')=>k x W' s' P N') (um S N hk hw r))
theorem L6{y:Str}(h1:bN d sc env o H v H₁)(h2:setAttrA G.C v y a H₁=some ((),H')):n6 d sc env (.Attribute o y p) a H env H':=fun b b b b b b b rm S N r k=>arm_assign_Attribute ..▸wpAny_bind (wpAny_holding (h1 rm S N fun b b b P₁ r₁=>wpAny_bind (wpAny_standAt (wpAny_bind (wpAny_holding (mj h2 P₁.sim r₁ (r.mono P₁.le) fun b b P₂=>wpAny_release (k _ _ _ (P₁.trans S P₂).up (N.expr (P₁.trans S P₂)))))))))
theorem L7(h1:bN d sc env o H v H₁)(h2:bN d sc env i H₁ b H₂)(h3:ja v b a H₂=some ((),H')):n6 d sc env (.Subscript o i p) a H env H':=fun c c c c c c c rm S N r k=>arm_assign_Subscript ..▸wpAny_bind (wpAny_holding (h1 rm S N fun c c c P₁ r₁=>wpAny_bind (wpAny_holding (h2 rm P₁.sim (N.expr P₁) fun c c c P₂ r₂=>wpAny_bind (wpAny_standAt (wpAny_bind (wpAny_holding (mC h3 P₂.sim (r₁.mono P₂.le) r₂ (r.mono (P₁.le.trans P₂.le)) fun c c P₃=>wpAny_release (k _ _ _ ((P₁.trans S P₂).trans S P₃).up (N.expr ((P₁.trans S P₂).trans S P₃)))))))))))
end
section
variable{d:Nat}{sc:Scope}{env aj aq:ah}{e l r t o i x:Expr}{es:List Expr}{a b v c fv:V}{vs us:List V}{H H₁ H₂ H₃ H':AH}{p q ap:Pos}{fl:Fl}{st:Stmt}{bd:List Stmt}
def o6(d:Nat)(f:V)(vs:List V)(H:AH)(v:V)(H':AH):Prop:=∀⦃A:Around⦄⦃E:Value→Shared→Prop⦄⦃W:Wd⦄⦃s:Shared⦄⦃f':Value⦄⦃xs:List Value⦄⦃Q:Value→Shared→Prop⦄,bA A d→aG W H s→Rel W f f'→ay W vs xs→(∀x W' s',ai W H s aH W' H' s'→Rel W' v x→Q x s')→wpAny gM A (PySem.call f' xs) Q E s
theorem aC.wp(h:aC d fv vs H v H'):o6 d fv vs H v H':=fun a a a a a a a rm S rf rs k=>wpAny_call (h rm S rf rs k)
theorem jY.star{e':Env}(h:jY d sc env es H vs H'):(backTo p (starEach es e')).any (·.1)=false:=by
 induction h with |nil=>rfl|cons hs _ _ ih=>exact dz hs▸ih
theorem jY.args{A:Around}{E:Value→Shared→Prop}{W:Wd}{s:Shared}{e':Env}{f':Value}{Q:Args→Shared→Prop}(h:jY d sc env es H vs H')(rm:bA A d)(S:aG W H s)(N:ao sc env e' W s)
  (k:∀xs W' s',ai W H s aH W' H' s'→ay W' vs xs→Q ⟨xs,[]⟩ s'):wpAny gM A (evalArgs f' true (backTo p (starEach es e')) []) Q E s:=by
 induction h with |nil=>exact evalArgs_nil3 (k [] W s (.refl S) trivial)|cons hs h1 h2=>obtain m:=(jY.cons hs h1 h2).run rm S N k;rw[dz hs] at m⊢;exact Calls.evalArgs_plain m
theorem cw{A:Around}{E:Value→Shared→Prop}{W:Wd}{s:Shared}{e':Env}{f':Value}{first:List Value}{Q:Value→Shared→Prop}(h:jY d sc env es H vs H₁)(hc:callable fv=true)(ku:∀c,fv=.cls c→(G.C.fW.lookup c).isSome=true)(rm:bA A d)(S:aG W H s)(N:ao sc env e' W s)
  (rf:Rel W fv f')(k:∀xs W' s',ai W H s aH W' H₁ s'→Rel W' fv f'→ay W' vs xs→wpAny gM A (PySem.call f' (first++xs)) Q E s'):
  wpAny gM A (callWith q f' first (backTo p (starEach es e')) []) Q E s:=
 callWith_of ((Bool.or_false _).trans (h.star)) (fun h X=>pU hc h X ku) (h.args rm S N fun xs W₁ s₁ P₁ r₁=>⟨⟨P₁.sim.cj,W₁,rf.mono P₁.le,P₁.sim.z⟩,k _ W₁ s₁ P₁ (rf.mono P₁.le) r₁⟩)
theorem Dh{f:Str}(h1:bN d sc env (.Name f q) H fv H₁)(h2:jY d sc env es H₁ vs H₂)(hc:callable fv=true)(ku:∀c,fv=.cls c→(G.C.fW.lookup c).isSome=true)(h3:o6 d fv vs H₂ v H'):bN d sc env (.Call (.Name f q) es [] p) H v H':=fun a a a a a a rm S N k=>arm_eval_Call_Name' ..▸wpAny_bind (h1 rm S N fun a a a P₁ r₁=>cw h2 hc ku rm P₁.sim (N.expr P₁) r₁ fun a a a P₂ rf rs=>h3 rm P₂.sim rf rs fun a a a P₃ r=>k _ _ _ ((P₁.trans S P₂).trans S P₃) r)
def jq(d:Nat)(sc:Scope)(env:ah)(o:V)(m:Str)(es:List Expr)(H:AH)(v:V)(H':AH):Prop:=∀⦃A:Around⦄⦃E:Value→Shared→Prop⦄⦃W:Wd⦄⦃s:Shared⦄⦃e':Env⦄⦃ov:Value⦄⦃p:Pos⦄⦃Q:Value→Shared→Prop⦄,bA A d→aG W H s→ao sc env e' W s→Rel W o ov→(∀x W' s',ai W H s aH W' H' s'→Rel W' v x→Q x s')→∀{im:Sem Bool},wpAny gM A (getMethod ov m im) (fun r s₂=>wpAny gM A (callWith p r.1 r.2 (backTo p (starEach es e')) []) Q E s₂) E s
end
section
variable{d:Nat}{sc:Scope}{env aj aq:ah}{e l r t o i x:Expr}{es:List Expr}{a b v c ov:V}{vs us:List V}{H H₁ H₂ H₃ H':AH}{p q ap:Pos}{m:Str}
theorem Di(hs:dh o=false)(IZ:es.any isStarred=false)(hl:(ap.endLine==p.line)=true)(hn:es.length<29)(h1:bN d sc env o H ov H₁)(h2:jq d sc env ov m es H₁ v H'):bN d sc env (.Call (.Attribute o m ap) es [] p) H v H':=fun a a a a a a rm S N k=>jQ hs IZ hl hn (h1 rm S N fun a a a P₁ r₁=>h2 rm P₁.sim (N.expr P₁) r₁ fun a a a P₂ r₂=>k _ _ _ (P₁.trans S P₂) r₂)
theorem Hg{k c f:Nat}{fs:List (Str×V)}{cd:Gb}(hk:H[k]?=some (.inst c fs))(hl:fs.lookup m=none)(hd:G.C.fW.lookup c=some cd)(hm:cd.meths.lookup m=some f)(h1:jY d sc env es H vs H₁)(h2:aC d (.fn f) (.ref k::vs) H₁ v H'):jq d sc env (.ref k) m es H v H':=by
 intro A E W s e' ov p Q rm S N r0 kk im;obtain⟨a,rfl,ha⟩:=r0;refine(k9 S hk ha hd).elim fun mA VT=>?_;refine VT.elim fun ob VU=>?_;refine VU.elim fun dx Tv=>?_;obtain I:=Tv.1;obtain F:=Tv.2.1
 obtain⟨nm,qn,N0,bs,sn,sub,col,dd,k0,XR,k2,k3,k5,mN,hC,hN,KR,Tw,ud,KS,B6⟩:=S.cj.cls c cd hd;obtain⟨hf,NT,y,hB⟩:=KS m f hm;obtain⟨VV,VW⟩:=lF NT;obtain⟨_,of,fd,QU,QV,_⟩:=S.cj.fns f VV VW;obtain NN:=F m;rw[hl] at NN;obtain tail:=cw (Q:=Q) (fv:=.fn f) (first:=[.ref a]) h1 rfl (fun c e=>nomatch e) rm S N ⟨rfl,NT⟩ fun xs b b P₁ rf rx=>h2.wp rm P₁.sim rf ⟨⟨a,rfl,P₁.le.φ _ _ ha⟩,rx⟩ fun b b b P₂ r₂=>kk _ _ _ (P₁.trans S P₂) r₂
 exact method_of hC hN KR Tw hf QU QV hB I NN tail
theorem L8{k:Nat}{cl g:V}{fs:List (Str×V)}(hk:H[k]?=some (.oq cl fs))(hl:fs.lookup (Str.ofString "read")=some g)(hg:yX g=true)(h1:jY d sc env es H vs H₁)(h2:aC d g vs H₁ v H'):jq d sc env (.ref k) (Str.ofString "read") es H v H':=by
 intro A E W s e' ov p Q rm S N r0 kk im;obtain⟨a,rfl,ha⟩:=r0;obtain⟨o,fd,K8,QD,I6,Gf⟩:=S.at hk ha;rcases Gf with ⟨rfl,_⟩|⟨dx,cI,xw,XS,La,mF,ud,hF⟩
 ·exact nE hl
 ·obtain Tz:=hF (Str.ofString "read")
  rw[hl] at Tz;obtain⟨y,hy,ry⟩:=Tz;obtain tail:∀k:Nat,wpAny gM A (callWith p y [] (backTo p (starEach es e')) []) Q E {s with toks:=k}:=fun k=>
   have PT:=ai.toks S aH k
   cw h1 (by induction g using V.casesOn<;>first|rfl|cases hg) (fun c e=>by subst e;exact bE hg) rm PT.sim (N.expr PT) ry fun xs b b P₁ rf rx=>h2.wp rm P₁.sim rf rx fun b b b P₂ r₂=>kk _ _ _ ((PT.trans S P₁).trans S P₂) r₂
  exact pT K8 QD I6 xw ud.ns hy iI (handed (by induction g using V.casesOn<;>first|rfl|cases hg) ry) tail
def Dj(T:String)(m:Str)(o:V)(vs:List V)(H:AH)(v:V)(H':AH):Prop:=∃id,Slot T m id∧typeOf (.builtin id)=pure (.type "method_descriptor")∧∀⦃A:Around⦄⦃E:Value→Shared→Prop⦄⦃W:Wd⦄⦃s:Shared⦄⦃x:Value⦄⦃xs:List Value⦄,aG W H s→Rel W o x→ay W vs xs→bA A 1→wpAny gM A (PySem.call (.builtin id) (x::xs)) (fun z=>aU W H s aH H' fun W' a=>Rel W' v z) E s
theorem o7{T:String}(pa:PlainAttrs T)(hT:∀{W s x},aG W H s→Rel W ov x→s.TypeIs x T∧∀a,x=.ref a→∃ob,s.heap.get? a=some ob∧ob.dict=none)(h1:jY (d+1) sc env es H vs H₁)(h2:Dj T m ov vs H₁ v H'):jq (d+1) sc env ov m es H v H':=fun A E W s e' x p Q rm S N r0 kk im=>h2.elim fun id g=>getMethod_builtin (hT S r0).1 pa g.1 g.2.1 (hT S r0).2 (cw h1 (fv:=.blt id) rfl (fun c e=>nomatch e) rm S N rfl fun xs b b P₁ b rx=>P₁.k S kk (g.2.2 P₁.sim (r0.mono P₁.le) rx (rm.le (Nat.succ_le_succ (Nat.zero_le d)))))
end
theorem xS{W:Wd}{vs:List Value}{ns:List Int}(h:IntsAre vs ns):ay W (ns.map .int) vs:=by
 induction h with |nil=>trivial|cons n t _ ih=>exact⟨⟨t,rfl⟩,ih⟩
theorem Dk:∀P∈Hd.kT,∃p∈qU,p.2.1=P:=by decide+kernel
theorem Hh{s s':Shared}{W':Wd}{H':AH}(X₀:(Hd.kF w0.params).In s.heap)(TT:∀P∈Hd.kT,s.heap.get? P=some (tabObj #[]))(P:ai (W0 s.heap) [] s aH W' H' s'):OldK s.heap s'.heap:=by
 obtain grown:∀b o,b∈Hd.kT→s.heap.get? b=some o→isCodeTable s.heap b∧o=tabObj #[]∧∃ps,s'.heap.get? b=some (tabObj ps):=fun b o hb e=>by
  obtain e2:=TT b hb;rw[e] at e2;obtain rfl:=Option.some.inj e2;obtain⟨p,hp,rfl⟩:=Dk b hb;obtain hc:=r8 X₀ p hp;refine⟨(hc.tab e).isCodeTable,rfl,?_⟩;refine(P.cl p.2.1 #[] ⟨p.1,p.2.2,hp⟩ e).elim fun more h=>?_
  exact⟨_,h⟩
 obtain keep:∀b o,¬b∈Hd.kT→s.heap.get? b=some o→s'.heap.get? b=some o:=fun b o hb e=>P.keep b o e (fun⟨c,q,hm⟩=>hb (lj _ hm).1) (fun k hk=>by exact nE hk) (fun h=>h)
 refine⟨fun b o e=>?_,fun b o e=>?_⟩
 ·by_cases hb:b∈Hd.kT
  ·obtain⟨ht,rfl,ps,hP⟩:=grown b o hb e;exact .inr (.inl ⟨ht,rfl,#[],ps,rfl,by exact Array.empty_append▸(hP)⟩)
  ·exact .inl (keep b o hb e)
 ·by_cases hb:b∈Hd.kT
  ·obtain⟨_,_,ps,hP⟩:=grown b o hb e;exact⟨_,hP⟩
  ·exact⟨o,keep b o hb e⟩
theorem Dl{P:Params}{h:Heap}{a:Addr}{vs:List Value}{d:List WData}(w1:Well P h (.ref a) (.list d))(hL:h.IsList a vs.toArray):h.get? a=some (gA vs.toArray 0):=by
 cases w1 with |list g _=>obtain⟨o,ho,_,n,hd⟩:=hL;rw[g] at ho;obtain rfl:=Option.some.inj ho;cases hd;exact g
theorem Dm{s:Shared}{p:Program}{loose:List Str}{qV:ExcName→Option Value}{mg mb:Str→Option Value}{fa a:Addr}{vs:List Value}{ns:List Int}{m:Nat}{E:Value→Shared→Prop}(X₀:(Hd.kF w0.params).In s.heap)(TT:∀P∈Hd.kT,s.heap.get? P=some (tabObj #[]))(T:Top p loose qV mg mb s.heap)
  (hf:mg (Mine.T "law")=some (.ref fa))(g:s.heap.get? a=some (gA vs.toArray m))(hI:IntsAre vs ns)(hl:ns.length<64){H':AH}(run:aC 9 (.fn 234) [.lst (ns.map .int)] [] (.bool true) H'):
  wpAny (model kg w0) callerA (PySem.call (.ref fa) [.ref a]) (fun v s'=>v=.bool true∧OldK s.heap s'.heap∧s'.os=s.os∧s'.gens=s.gens) E s:=by
 obtain S:=G3 X₀ TT T;have QW:fa=234:=by have :=gi X₀ T.g (n:=Mine.T "law") (v:=.ref 234) (by kernel_rfl);rw[hf] at this;cases this;rfl
 subst QW;have ha:Hd.kT.contains a=false:=by
  induction h:Hd.kT.contains a with |false=>rfl|true=>have :=TT a (by simp_all);rw[g] at this;exact nomatch this
 refine wpAny_call (run ⟨rfl,by decide+kernel,by decide+kernel⟩ S ?_ ?_ fun v W' s' P r=>?_)
 ·skip
  exact⟨rfl,rfl⟩
 ·skip
  refine⟨⟨a,m,_,rfl,?_,?_,by exact xS hI⟩,trivial⟩
  ·skip
   refine(wd ha).trans ?_;exact g
  ·rw[List.length_map];exact Nat.lt_trans hl (by decide)
 ·skip
  exact⟨r,Hh X₀ TT P,P.os,P.gens⟩
section
variable{d:Nat}{sc:Scope}{env aj aq:ah}{e l r t o i x:Expr}{es:List Expr}{a b v v' c ov f:V}{vs us:List V}{H H₁ H₂ H₃ H':AH}{p q ap:Pos}{m:Str}{fl:Fl}
theorem Aq{n:Nat}(h:aC d f vs H v H₁)(hz:freeze n v H₁=some (v',H')):aC d f vs H v' H':=fun a a a a a a a rm S rf rs k=>h rm S rf rs fun a a a P r=>(ik n hz P.sim r).elim fun a q=>k _ _ _ (P.trans S q.1) q.2
theorem L_{fk:Nat}{dd:yS}(hd:iO G.C fk=some dd)(hl:dd.params.length=vs.length)(h:n7 d dd.sc (dd.params.zip vs) dd.body H fl aj H'):aC (d+1) (.fn fk) vs H (OG fl) H':=by
 intro A E W s f' xs Q rm S rf rs k;refine rf.elim fun z1 b=>?_;subst z1
 obtain⟨f6,o,fd,ho,GY,fm,Ar,rH,hg,QX,QY,Hi,QZ,Hj,KI,we⟩:=S.cj.fns fk dd hd;have Hl:=f6
 unfold yS.ok at Hl;simp only[Bool.and_eq_true,decide_eq_true_eq,beq_iff_eq,Bool.not_eq_true'] at Hl;obtain⟨⟨⟨⟨⟨⟨Fg,hd2⟩,NO⟩,IY⟩,U_⟩,Kx⟩,U9⟩:=Hl;have KH:dd.params.length=xs.length:=by rw[hl];exact rs.length
 refine codeAny_call_cells rm.lim ho fm S.cj.noLimit KI Ar (kB Hj Hi QZ KH Kx) QY ?_ (fun s₁ I=>?_) (by rw[rH];exact hd2) (by rw[rH];exact NO) (by rw[rH];exact Fg)
 ·intro x hx;obtain VX:=(List.of_mem_zip hx).1;obtain this:=cO IY x.1 VX;unfold zo kindOf at this;rw[rH]
  revert this
  induction hk:dd.sc.names.lookup x.1 with
  |none=>intro h;exact bE h|some k=>
   induction k with |«local»=>intro _;exact .inl rfl|cell=>intro _;exact .inr ⟨rfl,dj _ _ _ _ hk⟩|_=>intro h;exact bE h
 ·obtain⟨P₁,N₁,own⟩:=zE S f6 rfl hl rs rH hg QX we I;exact h (rm.deeper _) P₁.sim N₁ fun g W₂ s₂ P₂ N₂ F₂=>k _ _ _ (ai.trans' S P₁ P₂ fun a ha=>.inr (own a ha)) F₂.val
theorem Q0{k f:Nat}(h:aC d (.fn f) (.ref k::vs) H v H'):aC d (.bm k f) vs H v H':=fun c c c c c c c rm S rf rs k=>by obtain⟨a,b,rfl,h2,h3,h4⟩:=rf;exact ks_codeAny_call_bound (S.z _ _ h3) (h rm S ⟨rfl,h4⟩ ⟨⟨b,rfl,h2⟩,rs⟩ k)
theorem wg{ps:List Str}{body:Expr}{cQ:List (Str×V)}(I1:vz ps sc cQ=true)(hl:ps.length=vs.length)(h:bN d (gE sc) (ps.zip vs++cQ) body H v H'):aC (d+1) (.lG ps body sc cQ) vs H v H':=by
 intro A E W s f' xs Q rm S rf rs k;obtain⟨a,o,fd,rfl,hz,GY,fm,Hj,Ar,rH,hg,QX,Hi,QZ,⟨c,oc,VY,t,KC,NP,NQ,KD⟩,rc⟩:=rf;have Ho:=I1
 unfold vz at Ho;simp only[Bool.and_eq_true,decide_eq_true_eq,beq_iff_eq,Bool.not_eq_true'] at Ho;obtain⟨⟨⟨⟨⟨⟨⟨⟨kW,g1⟩,g2⟩,g3⟩,g4⟩,g5⟩,g6⟩,g7⟩,g8⟩:=Ho;obtain KH:ps.length=xs.length:=by rw[hl];exact rs.length
 refine kla_callFunE rm.lim (S.z _ _ hz) fm (by rw[rH];exact g2) (by rw[rH];exact g3) Ar ⟨c,oc,VY,t,KC,S.z _ _ NP,NQ,KD⟩ ?_;rw[kB Hj Hi QZ KH g7];refine wpAny_pure (wpAny_newFunctionEnv ?_ ?_ (fun h₁ ud yK=>?_) (by rw[rH];exact g1))
 ·intro x hx;rw[rH] at hx;obtain this:=cO g4 x hx;simpa using this
 ·intro x hx;obtain this:=cO g5 x.1 (List.of_mem_zip hx).1;rw[rH];unfold kindOf at this;simpa using this
 ·obtain⟨P₁,N₁,own⟩:=xr (e:=newEnv fd.scope s.heap.objs.size fd.globals fd.closure (fd.qualname++".<locals>.") (some a) fd.code none fd.builtins) S I1 hl rs rc rfl rH rfl hg QX ud _ yK;exact⟨P₁.sim.cj.noLimit,kla_codeExpr (h (rm.deeper _) P₁.sim N₁ fun x W₂ s₂ P₂ r₂=>k _ _ _ (P₁.trans S P₂) r₂)⟩
end
section
variable{d:Nat}{sc:Scope}{env aj aq:ah}{e l r t o i x:Expr}{es:List Expr}{a b c old ov iv y z:V}{vs us:List V}{H H₁ H₂ H₃ H₄ H':AH}{p q ap:Pos}{m n:Str}{fl:Fl}
theorem Hq(h1:dD G.C sc env n=some old)(h2:bN d sc env x H y H')(h3:i8 old y=some z)(hk:kindOf sc n=some .local):kH d sc env (.AugAssign (.Name n q) .Add x p) H .next (aP env n z) H':=by intro A E W s e' Q rm S N k;refine arm_exec_AugAssign ..▸wpAny_bind (wpAny_standAt (wpAny_bind ((ai.refl S).k S (fun a W₁ s₁ P₁ r₁=>?_) (jK h1 S N))));refine wpAny_bind (wpAny_holding (h2 rm P₁.sim (N.expr P₁) fun b W₂ s₂ P₂ r₂=>wpAny_bind (wpAny_standAt (wpAny_bind (wpAny_operating ((P₁.trans S P₂).k S (fun c W₃ s₃ P r₃=>?_) (mD h3 P₂.sim (r₁.mono P₂.le) r₂)))))));exact wpAny_bind (wpAny_standAt (wpAny_bind (wpAny_bindName (P.up.k S (fun e e e P N'=>wpAny_pure (k _ _ _ P N' rfl)) (eX P.sim (N.expr P) hk r₃)))))
theorem eg{α:Type}{t:Sem α}{A:Around}{E:Value→Shared→Prop}{X:Addr→Prop}{W:Wd}{s:Shared}{R:α→Wd→Shared→Prop}{Q:α→Shared→Prop}(h:wpAny gM A t (fun x=>aU W H s X H' (R x)) E s)(k:∀x W' s',ai W H s X W' H' s'→R x W' s'→Q x s'):wpAny gM A t Q E s:=wpAny_mono h (fun x s₂ q=>q.elim fun W₂ q=>k x W₂ s₂ q.1 q.2) fun a a h=>h
theorem Hr(h1:bN d sc env o H ov H₁)(h2:getAttrA G.C ov m H₁=some (old,H₂))(h3:bN d sc env x H₂ y H₃)(h4:i8 old y=some z)(h5:setAttrA G.C ov m z H₃=some ((),H')):kH d sc env (.AugAssign (.Attribute o m q) .Add x p) H .next env H':=by
 intro A E W s e' Q rm S N k;refine arm_exec_AugAssign_2 ..▸wpAny_bind (wpAny_standAt (wpAny_bind (h1 rm S N fun u W₁ s₁ P₁ r₁=>wpAny_bind (wpAny_holding (wpAny_bind (wpAny_standAt (wpAny_bind (eg (mq h2 P₁.sim r₁) fun a W₂ s₂ P₂ r₂=>?_))))))));refine wpAny_bind (wpAny_holding (h3 rm P₂.sim (N.expr (P₁.trans S P₂)) fun b W₃ s₃ P₃ r₃=>wpAny_bind (wpAny_standAt (wpAny_operating (eg (mD h4 P₃.sim (r₂.mono P₃.le) r₃) fun c W₄ s₄ P₄ r₄=>?_)))));have Q4:=(P₂.trans P₁.sim P₃).trans P₁.sim P₄
 exact wpAny_bind (wpAny_standAt (wpAny_bind (wpAny_holding (mj h5 P₄.sim (r₁.mono Q4.le) r₄ fun W₅ s₅ P₅=>wpAny_bind (wpAny_release (wpAny_pure (have P:=(P₁.trans S Q4).trans S P₅;k _ _ _ P.up (N.expr P) rfl)))))))
theorem Hs(hi:isSlice i=false)(h1:bN d sc env o H ov H₁)(h2:bN d sc env i H₁ iv H₂)(h3:item H₂ ov iv=some old)(h4:bN d sc env x H₂ y H₃)(h5:i8 old y=some z)(h6:ja ov iv z H₃=some ((),H')):kH d sc env (.AugAssign (.Subscript o i q) .Add x p) H .next env H':=by
 intro A E W s e' Q rm S N k;refine arm_exec_AugAssign_3 ..▸wpAny_bind (wpAny_standAt (wpAny_bind (h1 rm S N fun u W₁ s₁ P₁ r₁=>wpAny_bind (wpAny_holding (h2 rm P₁.sim (N.expr P₁) fun j W₂ s₂ P₂ r₂=>wpAny_bind (wpAny_holding (wpAny_bind (wpAny_standAt (wpAny_bind (eg (vQ h3 P₂.sim (r₁.mono P₂.le) r₂).2 fun b W₃ s₃ P₃ r₃=>?_))))))))));refine wpAny_bind (wpAny_holding (h4 rm P₃.sim (N.expr ((P₁.trans S P₂).trans S P₃)) fun c W₄ s₄ P₄ r₄=>wpAny_bind (wpAny_standAt (wpAny_operating (eg (mD h5 P₄.sim (r₃.mono P₄.le) r₄) fun dd W₅ s₅ P₅ r₅=>?_)))));have Q5:=(P₃.trans P₂.sim P₄).trans P₂.sim P₅
 refine wpAny_bind (wpAny_standAt ?_);have main:wpAny gM A (do holding [dd,u,j] (setItem u j dd);release [dd,u,j] [];pure Flow.next) Q E s₅:=wpAny_bind (wpAny_holding (mC h6 P₅.sim (r₁.mono (P₂.le.trans Q5.le)) (r₂.mono Q5.le) r₅ fun W₆ s₆ P₆=>wpAny_bind (wpAny_release (wpAny_pure (have P:=((P₁.trans S P₂).trans S Q5).trans S P₆;k _ _ _ P.up (N.expr P) rfl)))))
 induction i using Expr.casesOn<;>first|exact main|cases hi
end
section
variable{d:Nat}{sc:Scope}{env aj aq:ah}{e l r t o i x:Expr}{es ts:List Expr}{a b c v ov iv y z:V}{vs us:List V}{H H₁ H₂ H₃ H₄ H':AH}{p q ap:Pos}{m n:Str}{fl:Fl}
inductive As(d:Nat)(sc:Scope):ah→List Expr→List V→AH→ah→AH→Prop where
|nil{env:ah}{H:AH}:As d sc env [] [] H env H|cons{t:Expr}{ts:List Expr}{v:V}{vs:List V}{env aq aj:ah}{H H₁ H':AH}(hs:isStarred t=false)(h:n6 d sc env t v H aq H₁)(k:As d sc aq ts vs H₁ aj H'):As d sc env (t::ts) (v::vs) H aj H'
theorem gu{e':Env}(hs:isStarred t=false):PySem.assignEach (t::ts) e'=(false,PySem.assign t e')::PySem.assignEach ts e':=by induction t using Expr.casesOn<;>first|rfl|exact nomatch hs
theorem As.len{e':Env}(h:As d sc env ts vs H aj H'):(PySem.assignEach ts e').length=vs.length∧(PySem.assignEach ts e').findIdx? (·.1)=none:=by
 induction h with |nil=>exact⟨rfl,rfl⟩|cons hs _ _ ih=>refine(gu hs)▸?_;exact⟨congrArg (·+1) ih.1,by rw[List.findIdx?_cons,ih.2];rfl⟩
theorem As.run{A:Around}{E:Value→Shared→Prop}{W:Wd}{s:Shared}{e':Env}{xs:List Value}(h:As d sc env ts vs H aj H')(rm:bA A d)(S:aG W H s)(N:ao sc env e' W s)(r:ay W vs xs):
  ∀{Q:Unit→Shared→Prop},(∀u W' s',ai W H s (bY sc e') W' H' s'→ao sc aj e' W' s'→Q u s')→wpAny gM A (assignInOrder ((PySem.assignEach ts e').map (·.2)) xs) Q E s:=by
 induction h generalizing W s xs with |nil=>exact fun k=>(match xs,r with |[],_=>wpAny_pure (k _ _ _ (.refl S) N))|cons hs h _ ih=>exact fun k=>gu hs▸(match xs,r with |x::xs,r=>wpAny_bind (wpAny_holding (h rm S N r.1 fun a a a P₁ N₁=>ih P₁.sim N₁ (r.2.mono P₁.le) fun a a a P₂ N₂=>k _ _ _ (P₁.trans S P₂) N₂)))
theorem FE{k:Nat}(h:As d sc env ts vs H aj H'):n6 d sc env (.Tuple ts k p) (.tup vs) H aj H':=by
 intro A E W s e' x Q rm S N r kk;obtain⟨a,m,xs,rfl,hz,hl,r⟩:=r;obtain g:=S.z _ _ hz;obtain el:=r.length;refine arm_assign_Tuple ..▸wpAny_bind (wpAny_standAt ?_);unfold unpack;simp only[h.len.1,el,h.len.2];refine wpAny_bind (wpAny_holding (bD (wpAny_unpackItems_tuple rm.handled (B4 g) fun h' he hsz=>?_)));have P₁:=ai.grow S aH (fun b o e=>he b o (Nat.ne_of_lt (Heap.lt_size e)) e) hsz rfl rfl (fun c c h=>h) (fun c c h=>.inl h) rfl rfl
 exact h.run rm P₁.sim (N.expr P₁) r fun c c c P N=>kk _ _ _ (P₁.up.trans S P) N
end
section
variable{d:Nat}{sc:Scope}{env aj aq:ah}{e e2 l r t o i x:Expr}{es ts:List Expr}{a b c v ov iv y z:V}{vs us:List V}{H H₁ H₂ H₃ H₄ H':AH}{p q ap:Pos}{m n:Str}{fl:Fl}{op:BoolOp}{u w:Bool}
def Ma(d:Nat)(sc:Scope)(env:ah)(op:BoolOp)(es:List Expr)(H:AH)(v:V)(H':AH):Prop:=∀⦃A:Around⦄⦃E:Value→Shared→Prop⦄⦃W:Wd⦄⦃s:Shared⦄⦃e':Env⦄⦃p:Pos⦄⦃Q:Value→Shared→Prop⦄,bA A d→aG W H s→ao sc env e' W s→(∀x W' s',ai W H s aH W' H' s'→Rel W' v x→Q x s')→wpAny gM A (boolOp p op (evalEach es e')) Q E s
noncomputable def FF:BoolOp→Bool→Bool|.And,b=>!b|.Or,b=>b
theorem Mb(h:bN d sc env e H v H'):Ma d sc env op [e] H v H':=fun a a a a a a a rm S N k=>h rm S N k
theorem FG(h:bN d sc env e H a H₁)(ht:NJ a H₁=some (u,H₁))(hk:if FF op u then a=v∧H₁=H' else Ma d sc env op (e2::es) H₁ v H'):Ma d sc env op (e::e2::es) H v H':=fun A E W s e' p Q rm S N k=>
 wpAny_bind (h rm S N fun x W₁ s₁ P₁ r₁=>wpAny_bind (wpAny_standAt (wpAny_bind (wpAny_holding (tY ht P₁.sim r₁ fun tk=>by
  have P:=P₁.trans S (ai.toks P₁.sim aH tk);induction op<;>induction u
  ·obtain⟨rfl,rfl⟩:=hk;exact wpAny_pure (k _ _ _ P r₁)
  ·exact hk rm P.sim (N.expr P) fun b b b P₂ r₂=>k _ _ _ (P.trans S P₂) r₂
  ·exact hk rm P.sim (N.expr P) fun b b b P₂ r₂=>k _ _ _ (P.trans S P₂) r₂
  ·obtain⟨rfl,rfl⟩:=hk;exact wpAny_pure (k _ _ _ P r₁))))))
theorem Au(h:Ma d sc env op es H v H'):bN d sc env (.BoolOp op es p) H v H':=fun a a a a a a rm S N k=>h rm S N k
def n8(d:Nat)(sc:Scope)(env:ah)(op:BoolOp)(es:List Expr)(H:AH)(u:Bool)(H':AH):Prop:=∀⦃A:Around⦄⦃E:Value→Shared→Prop⦄⦃W:Wd⦄⦃s:Shared⦄⦃e':Env⦄⦃Q:Bool→Shared→Prop⦄,bA A d→aG W H s→ao sc env e' W s→(∀W' s',ai W H s aH W' H' s'→Q u s')→wpAny gM A (allTrue op es e') Q E s
theorem Ht:n8 d sc env .And [] H true H:=fun a a a a a a rm S N k=>wpAny_pure (k _ _ (.refl S))
theorem Mc:n8 d sc env .Or [] H false H:=fun a a a a a a rm S N k=>wpAny_pure (k _ _ (.refl S))
theorem Hu(h:nN d sc env e H false H'):n8 d sc env .And (e::es) H false H':=fun a a a a a a rm S N k=>wpAny_allTrue_And_cons (h rm S N fun a a P=>k _ _ P)
theorem Hv(h:nN d sc env e H true H₁)(h2:n8 d sc env .And es H₁ u H'):n8 d sc env .And (e::es) H u H':=fun a a a a a a rm S N k=>wpAny_allTrue_And_cons (h rm S N fun a a P=>h2 rm P.sim (N.expr P) fun a a P₂=>k _ _ (P.trans S P₂))
theorem Me(h:nN d sc env e H true H'):n8 d sc env .Or (e::es) H true H':=fun a a a a a a rm S N k=>wpAny_allTrue_Or_cons (h rm S N fun a a P=>k _ _ P)
theorem Mf(h:nN d sc env e H false H₁)(h2:n8 d sc env .Or es H₁ u H'):n8 d sc env .Or (e::es) H u H':=fun a a a a a a rm S N k=>wpAny_allTrue_Or_cons (h rm S N fun a a P=>h2 rm P.sim (N.expr P) fun a a P₂=>k _ _ (P.trans S P₂))
theorem Av(h:n8 d sc env op es H u H'):nN d sc env (.BoolOp op es p) H u H':=fun a a a a a a rm S N k=>wpAny_isTrue_BoolOp (h rm S N k)
theorem Mg(he:∀e' w,isTrue e e' w=(do let v←w;standAt e.pos;holding [v] (truthy v)))(h:bN d sc env e H v H')(ht:NJ v H'=some (u,H')):nN d sc env e H u H':=fun a a a a a a rm S N k=>wpAny_isTrue_value (h rm S N fun a a a P r=>tY ht P.sim r fun a=>k _ _ (P.trans S (.toks P.sim aH _))) (he _ _)
theorem Hw:kH d sc env (.Continue p) H .cont env H:=fun a a a a a a rm S N k=>show wpAny _ _ (do standAt _;pure Flow.cont) _ _ _ from wpAny_bind (wpAny_standAt (wpAny_pure (k _ _ _ (.refl S) N rfl)))
end
section
variable{d:Nat}{sc:Scope}{env aj aq:ah}{e e2 l r t o i x:Expr}{es ts:List Expr}{a b c v ov iv y z:V}{vs us:List V}{H H₁ H₂ H₃ H₄ H':AH}{p q ap:Pos}{m n:Str}{fl:Fl}{op:BoolOp}{u w:Bool}
def Mh(d:Nat)(sc:Scope)(env:ah)(e:Option Expr)(H:AH)(j:Option Int)(H':AH):Prop:=∀⦃A:Around⦄⦃E:Value→Shared→Prop⦄⦃W:Wd⦄⦃s:Shared⦄⦃e':Env⦄⦃Q:Value→Shared→Prop⦄,bA A d→aG W H s→ao sc env e' W s→(∀x W' s',ai W H s aH W' H' s'→jN x j→Q x s')→wpAny gM A (evalPart e e') Q E s
theorem Hx:Mh d sc env none H none H:=fun a a a a a a rm S N k=>evalPart_none _▸wpAny_pure (k _ _ _ (.refl S) (.inl ⟨rfl,rfl⟩))
theorem Hy{j:Int}(h:bN d sc env e H (.int j) H'):Mh d sc env (some e) H (some j) H':=fun a a a a a a rm S N k=>evalPart_some ..▸h rm S N fun a a a P r=>r.elim fun t hr=>k _ _ _ P (.inr ⟨j,t,rfl,hr⟩)
theorem Dp{lo hi:Option Expr}{jl jh:Option Int}(h1:bN d sc env e H a H₁)(h2:Mh d sc env lo H₁ jl H₂)(h3:Mh d sc env hi H₂ jh H')(h4:slice H' a jl jh=some c):bN d sc env (.Subscript e (.Slice lo hi none p) q) H c H':=fun b b b b b b rm S N k=>
 vP (h1 rm S N fun x W₁ s₁ P₁ r₁=>wpAny_Slice (h2 rm P₁.sim (N.expr P₁) fun lv W₂ s₂ P₂ r₂=>h3 rm P₂.sim (N.expr (P₁.trans S P₂)) fun hv W₃ s₃ P₃ r₃=>evalPart_none _▸wpAny_pure (
  have P₄:=ai.fF P₃.sim aH {cls:=.type "slice",data:=.fields #[lv,hv,.none]}
  (zD h4 P₄.sim (r₁.mono ((P₂.trans P₁.sim P₃).trans P₁.sim P₄).le) (Heap.IsSliceOf.new _ lv hv .none) r₂ r₃).elim fun g g3=>g.elim fun T g=>g.elim fun id g=>⟨T,id,g.1,g.2,eg g3 fun z W₅ s₅ P₅ r₅=>k _ _ _ ((((P₁.trans S P₂).trans S P₃).trans S P₄).trans S P₅) r₅⟩)))
theorem Dq(hn:(if G.C.mu p then gC (.bf []) else pure (.bf [])) H=some (v,H')):bN d sc env (.Dict [] [] p) H v H':=fun a a a s a a rm S N k=>
 have P₀:=ai.fF S aH {cls:=.type "dict",data:=.dict #[]};have fr:=⟨S.cH (Nat.le_refl _),S.gJ (Nat.le_refl _),S.fj (Nat.le_refl _)⟩
 arm_eval_Dict ..▸wpAny_bind (wpAny_standAt (wpAny_newObj_type (
  (jW hn P₀ fr (Nat.le_refl _) (Heap.get?_push_size _ rfl) (S.mods (Nat.le_refl _)) .nil (by show 0<ak;decide) trivial).elim fun W' g=>g.elim fun P' g=>k _ _ _ P' g.2.1)))
end
section
variable{d:Nat}{vs:List V}{H H':AH}
theorem FH{c fk:Nat}{cd:Gb}(hd:G.C.fW.lookup c=some cd)(hm:cd.meths.lookup (Str.ofString "__init__")=some fk)(h:aC d (.fn fk) (.ref H.length::vs) (H++[.inst c []]) .none H'):aC (d+1) (.cls c) vs H (.ref H.length) H':=by
 intro A E W s f' xs Q rm S rf rs kk;subst rf;obtain⟨nm,q,N,bs,sn,sub,col,dd,k0,k1,k2,k3,k5,mN,hC,hN,KR,Tw,ud,KS,B6⟩:=S.cj.cls c cd hd;obtain⟨hi,hs,_⟩:=KS _ fk hm;obtain⟨df,VZ⟩:=lF hs;obtain⟨_,oI,fd,V0,KU,_⟩:=S.cj.fns fk df VZ;have hk:∀b ob,s.heap.get? b=some ob→(cW s.heap (G.ca c)).get? b=some ob:=fun b ob e=>Heap.get?_push_of_some _ (Heap.get?_push_of_some _ e)
 have vX:(cW s.heap (G.ca c)).objs.size=s.heap.objs.size+2:=by simp only[Heap.size_push]
 have V1:(cW s.heap (G.ca c)).get? (s.heap.objs.size+1)=some {cls:=.ref (G.ca c),dict:=some s.heap.objs.size,data:=.plain}:=by obtain this:=Heap.get?_push_size (s.heap.push {cls:=.type "dict",data:=.dict #[]}) (o:={cls:=.ref (G.ca c),dict:=some s.heap.objs.size,data:=.plain}) rfl;rw[Heap.size_push] at this;exact this
 obtain PU:(cW s.heap (G.ca c)).get? s.heap.objs.size=some {cls:=.type "dict",data:=.dict #[]}:=Heap.get?_push_of_some _ (Heap.get?_push_size _ rfl);let W₁:Wd:=⟨fun j=>if j=H.length then some (s.heap.objs.size+1) else W.φ j,fun b=>if b=s.heap.objs.size∨b=s.heap.objs.size+1 then some H.length else W.own b,W.Z⟩
 have w1:W₁.φ H.length=some (s.heap.objs.size+1):=if_pos rfl;obtain P₁:ai W H s aH W₁ (H++[.inst c []]) {s with heap:=cW s.heap (G.ca c)}:=by
  refine ai.KW S aH _ rfl rfl (if_pos (.inr rfl)) (fun b j h=>?_) (fun b j h=>?_) (vX▸Nat.le_add_right _ 2) hk ?_ rfl rfl
  ·have lt:=(S.b_ b j h).2;exact(if_neg fun q=>q.elim (fun e=>Nat.lt_irrefl _ (e▸lt)) fun e=>absurd (e▸lt) (Nat.not_lt_of_le (Nat.le_succ _))).trans h
  ·by_cases hb:b=s.heap.objs.size∨b=s.heap.objs.size+1
   ·exact .inr ⟨(Option.some.inj ((if_pos hb).symm.trans h)).symm,hb.elim (fun e=>e▸Nat.le_refl _) (fun e=>e▸Nat.le_succ _),vX▸hb.elim (fun e=>e▸Nat.lt_succ_of_lt (Nat.lt_succ_self _)) fun e=>e▸Nat.lt_succ_self _⟩
   ·exact .inl ((if_neg hb).symm.trans h)
  ·refine⟨_,s.heap.objs.size,V1,rfl,rfl,fun c e=>(by cases e),Nat.ne_of_lt (Nat.lt_succ_self _),if_pos (.inl rfl),(by show 0<ak;decide),fun a=>none,?_,fun x=>rfl⟩;exact Heap.Ns1.of_empty ⟨_,#[],_,PU,rfl,fun e he=>absurd he (by simp),fun a=>rfl⟩
 obtain⟨hp,gg,dr,tt,os⟩:=s;refine xy hC hN hi V0 KU ?_;exact h.wp (rm.create _ _) P₁.sim ⟨rfl,hs⟩ ⟨⟨_,rfl,w1⟩,rs.mono P₁.le⟩ fun x W₂ s₂ P₂ r₂=>⟨r₂,kk _ _ _ (P₁.trans S P₂) ⟨_,rfl,P₂.le.φ _ _ w1⟩⟩
end
section
variable{d:Nat}{sc:Scope}{env aj:ah}{vs:List V}{H H₁ H':AH}{ts es:List Expr}{p p1 p2:Pos}{k1 k2:Nat}{e':Env}
noncomputable def Mi:Expr→Option Str|.Name x _=>some x|_=>none
theorem Aw{line:Nat}{ts:List Expr}{ns:List Str}(h:ts.map Mi=ns.map some)(hl:(ts.filterMap (dm e' line)).length=ts.length):ts.filterMap (dm e' line)=ns∧∀x∈ns,e'.kindOf x=some .local:=by
 induction ts generalizing ns with
 |nil=>induction ns with |nil=>exact⟨rfl,fun a h=>nomatch h⟩|cons _ _=>exact nomatch h
 |cons t ts ih=>induction ns with
  |nil=>exact nomatch h|cons n ns=>
   obtain⟨h1,h2⟩:=List.cons.inj h;induction ht:dm e' line t with |none=>rw[List.filterMap_cons_none ht] at hl;exact absurd (List.length_filterMap_le (dm e' line) ts) (hl▸(Nat.not_succ_le_self _))|some y=>rw[List.filterMap_cons_some ht] at hl⊢;obtain⟨⟨q,rfl⟩,hy⟩:=pX ht;obtain rfl:=Option.some.inj h1;obtain⟨g1,g2⟩:=ih h2 (Nat.succ.inj hl);exact⟨by rw[g1],fun x hx=>(bz hx).elim (fun e=>e▸hy) (g2 x)⟩
theorem Hz{ns:List Str}(V2:lO (.Tuple ts k1 p1) (.Tuple es k2 p2)=false)(hn:ts.map Mi=ns.map some)(hk:∀x∈ns,kindOf sc x=some .local∨kindOf sc x=some .cell)(hl:ns.length=vs.length)(h1:bN d sc env (.Tuple es k2 p2) H (.tup vs) H₁)
  (h2:As d sc env ts vs H₁ ((ns.zip vs).foldl (fun env p=>aP env p.1 p.2) env) H₁):kH d sc env (.Assign [.Tuple ts k1 p1] (.Tuple es k2 p2) p) H .next ((ns.zip vs).foldl (fun env p=>aP env p.1 p.2) env) H₁:=by
 intro A E W s e' Q rm S N k;refine arm_exec_Assign ..▸wpAny_bind (wpAny_standAt (mX rfl (wpAny_bind (h1 rm S N fun z W₁ s₁ P₁ r₁=>?_))));rcases pW V2 with hs|⟨XT,k',q',line,ht,hs,hlen,hd⟩
 ·exact mX hs (wpAny_bind (FE (k:=k1) h2 rm P₁.sim (N.expr P₁) r₁ fun c c c P₂ N₂=>wpAny_pure (k _ _ _ (P₁.up.trans S P₂) N₂ rfl)))
 ·cases ht;obtain⟨g1,g2⟩:=Aw hn hlen;have nd:=g1▸iR hd
  have I7:=List.map_fst_zip (Nat.le_of_eq hl);have V3:=List.map_snd_zip (Nat.le_of_eq hl.symm)
  obtain⟨a,m,xs,rfl,hz,XU,rx⟩:=r₁;have el:=rx.length
  refine mX hs ?_;refine g1▸?_;refine wpAny_bind (wpAny_rule (wpAny_bind ?_));rw[hl,el];refine bD (wpAny_unpackItems_tuple rm.handled (B4 (P₁.sim.z _ _ hz)) fun h' he hsz=>?_);have P₂:=ai.grow P₁.sim aH (fun b o e=>he b o (Nat.ne_of_lt (Heap.lt_size e)) e) hsz rfl rfl (fun c c h=>h) (fun c c h=>.inl h) rfl rfl
  obtain bW:=P₁.trans S P₂;obtain N₂:=N.expr bW;obtain er:ns.reverse.map (fun n=>bindName e' n)=(ns.zip vs).reverse.map (fun p=>bindName e' p.1):=by rw[←I7,←List.map_reverse,List.map_map,I7];rfl
  refine er▸?_;obtain Q2:=I7.symm▸nd
  refine wpAny_bind (eg (xC P₂.sim N₂ (by simp only[List.map_reverse,V3];exact rx.reverse) fun p hp=>have hm:=(List.of_mem_zip (List.mem_reverse.mp hp:(p.1,p.2)∈_)).1
   oS N (g2 _ hm) (hk _ hm)) fun c c c P₃ N₃=>wpAny_pure (k _ _ _ (bW.up.trans S P₃) (N₃.congr fun z=>?_) rfl))
  rw[foldl_look z Q2,foldl_look z (by rw[List.map_reverse];exact List.pairwise_reverse.mpr (List.Pairwise.imp (fun h=>Ne.symm h) Q2)),mG Q2]
end
section
variable{d:Nat}{sc:Scope}{env aj:ah}{H H':AH}{fl:Fl}{t:Expr}{body:List Stmt}
inductive bX(d:Nat)(sc:Scope)(t:Expr)(body:List Stmt):List V→ah→AH→Fl→ah→AH→Prop where
|nil{env:ah}{H:AH}:bX d sc t body [] env H .next env H|cons{x:V}{xs:List V}{env aq bu aj:ah}{H H₁ H₂ H':AH}{f fl:Fl}(h1:n6 d sc env t x H aq H₁)(h2:n7 d sc aq body H₁ f bu H₂)(hf:f=.next∨f=.cont)(k:bX d sc t body xs bu H₂ fl aj H'):bX d sc t body (x::xs) env H fl aj H'|ret{x v:V}{xs:List V}{env aq bu:ah}{H H₁ H₂:AH}(h1:n6 d sc env t x H aq H₁)(h2:n7 d sc aq body H₁ (.ret v) bu H₂):bX d sc t body (x::xs) env H (.ret v) bu H₂
theorem r9{A:Around}{it:Value}{e:Env}{s:Shared}{R:Result→Shared→Prop}(I:Nat→Shared→Prop)(turn:∀n s,I n s→∀(E:Value→Shared→Prop) (Q:Option Value→Shared→Prop) (K:Flow→Shared→Prop),(∀s',R (.ok .next) s'→Q none s')→
  (∀v s',wpAny gM A (letOwnedTupleGo t it v) (fun a s=>wpAny gM A (PySem.assign t e v) (fun a s=>wpAny gM A (PySem.execs body e) K E s) E s) E s'→Q (some v) s')→
  (∀f m s',f=.next∨f=.cont→m<n→I m s'→K f s')→(∀v s',R (.ok (.ret v)) s'→K (.ret v) s')→wpAny gM A (pyNext it) Q E s)(n:Nat)(h:I n s):codeAny gM A (.forLoop t it body [] e) R s:=
 codeAny_forLoop_any I (fun n s h=>turn n s h _ _ (fun f s₃=>match f with
  |.next|.cont=>∃m,m<n∧I m s₃
  |.brk=>R (.ok .next) s₃|.ret v=>R (.ok (.ret v)) s₃) (fun a q=>wpAny_execs_nil q) (fun a a q=>q) (fun a a a hf hm q=>by rcases hf with rfl|rfl<;>exact⟨_,hm,q⟩) fun a a q=>q) n h
inductive LoopAt(d:Nat)(sc:Scope)(t:Expr)(body:List Stmt)(e':Env)(it:Value)(IA D:Addr→Prop)(W:Wd)(H:AH)(s:Shared)(fl:Fl)(aj:ah)(H':AH):Nat→Shared→Prop
|mk{xs:List V}{env:ah}{H₁:AH}{W₁:Wd}{P:Heap→Prop}{s₁:Shared}(h:bX d sc t body xs env H₁ fl aj H')(P₁:ai W H s (fun a=>bY sc e' a∨IA a) W₁ H₁ s₁)(N:ao sc env e' W₁ s₁)(I:gR t it IA D W xs P)
 (hP:dw (fun a=>IA a∨D a) P) (p:P s₁.heap) (hI:∀a,IA a→bG W₁ s₁ a) (hD:∀a,D a→Still W₁ H₁ s₁ (fun a=>bY sc e' a∨IA a) a):LoopAt d sc t body e' it IA D W H s fl aj H' xs.length s₁
theorem LoopAt.turn{A:Around}{E:Value→Shared→Prop}{W W₁:Wd}{s s₁:Shared}{e':Env}{it:Value}{IA D:Addr→Prop}{P:Heap→Prop}{x:V}{xs:List V}{env aq bu:ah}{H₁ Ha Hb:AH}{f:Fl}{Q:Option Value→Shared→Prop}{K:Flow→Shared→Prop}(rm:bA A d)(S:aG W H s)
  (P₁:ai W H s (fun a=>bY sc e' a∨IA a) W₁ H₁ s₁)(N:ao sc env e' W₁ s₁)(I:gR t it IA D W (x::xs) P)(p:P s₁.heap)(hI:∀a,IA a→bG W₁ s₁ a)(hD:∀a,D a→Still W₁ H₁ s₁ (fun a=>bY sc e' a∨IA a) a)
  (h1:n6 d sc env t x H₁ aq Ha)(h2:n7 d sc aq body Ha f bu Hb)(k:∀g W₅ s₅ P',ai W H s (fun a=>bY sc e' a∨IA a) W₅ Hb s₅→ao sc bu e' W₅ s₅→kj W₅ f g→dw (fun a=>IA a∨D a) P'→gR t it IA D W xs P'→P' s₅.heap→(∀a,IA a→bG W₅ s₅ a)→(∀a,D a→Still W₅ Hb s₅ (fun a=>bY sc e' a∨IA a) a)→K g s₅)
  (item:∀v s',wpAny gM A (letOwnedTupleGo t it v) (fun b s=>wpAny gM A (PySem.assign t e' v) (fun b s=>wpAny gM A (PySem.execs body e') K E s) E s) E s'→Q (some v) s'):
  wpAny gM A (pyNext it) Q E s₁:=by
 refine I.elim fun P' z=>z.elim fun ux z=>z.elim fun I' step=>?_
 obtain ap:=fun a ha=>(hI a ha).apart N
 refine wpAny_mono (step P₁.le P₁.sim hI rm.handled p) (fun r s₂ q=>q.elim fun y q=>q.1▸item _ _ (wpAny_mono q.2 (fun b s₃ q=>q.elim fun W₃ q=>?_) fun b b e=>e)) fun b b e=>e
 refine h1 rm q.1.sim (N.old q.1 ap) q.2.2.1 fun b W₄ s₄ P₄ N₄=>h2 rm P₄.sim N₄ fun g W₅ s₅ P₅ N₅ F₅=>?_
 have hO:=fun a ha=>(hI a ha).fq N
 have ir:=P₄.trans q.1.sim P₅;obtain wh:=ir.wk (X':=fun a=>bY sc e' a∨IA a) fun a ha=>.inl ha
 obtain Q₃:=q.1.wk (X':=fun a=>bY sc e' a∨IA a) fun a ha=>.inr ha
 have st:=fun a ha=>(((hD a ha).post P₁.sim Q₃).1.post q.1.sim wh)
 have hA:=q.2.1;exact k g W₅ s₅ P' ((P₁.trans S Q₃).trans S wh) N₅ F₅ ux I' (ux _ _ q.2.2.2 fun a o ha ho=>ha.elim (fun ha=>(hA a ha).keep ir (hO a ha) ho) fun ha=>(st a ha).2 o ho) (fun a ha=>(hA a ha).post ir (hO a ha)) fun a ha=>(st a ha).1
theorem bX.run{A:Around}{E:Value→Shared→Prop}{W:Wd}{s:Shared}{e':Env}{xs:List V}{it:Value}{IA D:Addr→Prop}{P:Heap→Prop}(h:bX d sc t body xs env H fl aj H')(rm:bA A d)(S:aG W H s)(N:ao sc env e' W s)
  (I:gR t it IA D W xs P)(hP:dw (fun a=>IA a∨D a) P)(p:P s.heap)(hI:∀a,IA a→bG W s a)(hD:∀a,D a→Still W H s (fun a=>bY sc e' a∨IA a) a):
  codeAny gM A (.forLoop t it body [] e') (fun r s'=>∃f,r=.ok f∧aU W H s (fun a=>bY sc e' a∨IA a) H' (fun W' s'=>ao sc aj e' W' s'∧kj W' fl f) s') s:=by
 refine r9 (LoopAt d sc t body e' it IA D W H s fl aj H') (fun k s₁ h E Q K stop item again ret=>?_) _ (.mk h (.refl S) N I hP p hI hD);cases h with
 |mk h P₁ N I hP p Ax hD=>
  cases h with
  |nil=>
   refine I rm.handled p fun h' tk hsz hk=>stop _ ?_
   obtain P₂:ai _ H' s₁ IA _ H' {s₁ with heap:=h',toks:=tk}:=ai.free P₁.sim (fun a ha=>(Ax a ha).1) hk hsz rfl rfl;exact⟨_,rfl,_,P₁.trans S (P₂.wk fun a ha=>.inr ha),N.old P₂ fun a ha=>(Ax a ha).apart N,rfl⟩
  |cons h1 h2 hf hk=>
   refine LoopAt.turn rm S P₁ N I p Ax hD h1 h2 (fun g W₅ s₅ P' Q₅ N₅ F₅ ux I' p' a' d'=>again g _ s₅ ?_ (Nat.lt_succ_self _) (.mk hk Q₅ N₅ I' ux p' a' d')) item;rcases hf with rfl|rfl
   ·exact .inl F₅
   ·exact .inr F₅
  |ret h1 h2=>refine LoopAt.turn rm S P₁ N I p Ax hD h1 h2 (fun g W₅ s₅ P' Q₅ N₅ F₅ b b b b b=>F₅.elim fun z hz=>hz.1▸ret _ _ ⟨_,rfl,W₅,Q₅,N₅,z,rfl,hz.2⟩) item
end
section
variable{d:Nat}{sc:Scope}{env aj:ah}{H H₁ H₂ H':AH}{fl:Fl}{t e o x:Expr}{body:List Stmt}{v:V}{xs ys:List V}{back:Option (Nat×aE)}{p q ap:Pos}
def r_(d:Nat)(sc:Scope)(env:ah)(t e:Expr)(H:AH)(xs:List V)(back:Option (Nat×aE))(H':AH):Prop:=∀⦃A:Around⦄⦃E:Value→Shared→Prop⦄⦃W:Wd⦄⦃s:Shared⦄⦃e':Env⦄⦃Q:Value→Shared→Prop⦄,bA A d→aG W H s→ao sc env e' W s→(∀x s₁,Lf A W H s t xs back H' x s₁→Q x s₁)→wpAny gM A (eval e e') Q E s
theorem lq(h1:bN d sc env e H v H₁)(h2:srcOf v H₁=some ((xs,back),H')):r_ d sc env t e H xs back H':=fun a a a a a a rm S N k=>h1 rm S N fun x W₁ s₁ P₁ r₁=>k _ _ fun{_}=>(rN h2 P₁.sim r₁).elim fun L V=>wpAny_mono (CN V (L.post P₁.sim aH).sim) (fun i s₂ g=>⟨W₁,uo.mk' S P₁ L g.1,g.2.le P₁.size⟩) fun a a e=>e
theorem wj(hf:∀e' x,foldedSetIterable e e' x=pure x)(h1:r_ d sc env t e H xs back H₁)(h2:bX d sc t body xs env H₁ fl aj H₂)(h3:ie back H₂=some ((),H')):kH d sc env (.For t e body [] p) H fl aj H':=by
 intro A E W s e' Q rm S N k;refine wpAny_For (h1 rm S N fun x s₁ hx=>wpAny_mono hx (fun i s₂ z=>z.elim fun W₂ z=>?_) fun c c e=>e) (hf e');obtain⟨hh,IA,D,P,I,p0,sd,hD⟩:=z;have N₂:=N.expr hh.1
 refine codeAny_mono (h2.run (E:=E) rm hh.1.sim N₂ I.zH I.nW p0 (fun a ha=>(sd a ha).1) fun a ha=>(hD a ha).zJ hh.1.sim ?_) ?_
 ·rintro(ho|hi)
  ·exact(hD a ha).fq N₂ ho
  ·obtain⟨f,o,vs,ho,hd⟩:=(sd a hi).1;exact(hD a ha).2.elim (fun q=>q.elim fun k q=>nE (f.1.symm.trans q.1)) fun q=>q.elim fun o q=>nE (f.2.1.symm.trans q)
 ·rintro r s₃ ⟨f,rfl,W₃,P₃,N₃,F₃⟩;obtain P':=hh.2 P₃ (fun b k hb hx=>hx.elim (fun hx=>nE ((bY.free N₂ hx).symm.trans hb)) fun hx=>nE ((sd b hx).1.1.1.symm.trans hb)) h3;exact k _ _ _ (P'.drop fun a ha=>ha.imp id fun hi=>(sd a hi).2) N₃ F₃
end
section
variable{d:Nat}{sc:Scope}{env aj:ah}{H H₁ H₂ H':AH}{fl:Fl}{t e o x:Expr}{v:V}{xs ys:List V}{back:Option (Nat×aE)}{p q ap tp:Pos}{ts:List Expr}{tk:Nat}{kvs:List (Str×V)}
theorem HA(h0:bN d sc env (.Name "enumerate" q) H (.typ "enumerate") H₁)(h1:jY d sc env [x] H₁ [v] H₂)(h2:srcOf v H₂=some ((ys,back),H'))(hc:enumSrc v back=true):r_ d sc env (.Tuple ts tk tp) (.Call (.Name "enumerate" q) [x] [] p) H (aR 0 ys) back H':=by intro A E W s e' Q rm S N k;refine arm_eval_Call_Name' ..▸wpAny_bind (h0 rm S N fun f' W₁ s₁ P₁ r₁=>cw (fv:=.typ "enumerate") h1 rfl (fun c e=>nomatch e) rm P₁.sim (N.expr P₁) r₁ fun zs W₂ s₂ P₂ rf V4=>?_);subst rf;obtain⟨z,rfl,rz⟩:=cD V4;obtain⟨L,V⟩:=rN h2 P₂.sim rz;obtain ek:=pZ h2 hc P₂.sim rz;exact CO V (L.post P₂.sim aH).sim ek.1 ek.2 fun y s₃ P₃ g self=>k _ _ fun{_}=>self ⟨W₂,uo.mk' S (P₁.trans S P₂) L P₃,g.le (P₁.trans S P₂).size⟩
theorem Dr(HB:dh o=false)(hl:(ap.endLine==p.line)=true)(h1:bN d sc env o H v H₁)(h2:Ci v H₁=some ((kvs,back),H')):r_ d sc env (.Tuple ts tk tp) (.Call (.Attribute o "items" ap) [] [] p) H (kvs.map fun kv=>.tup [.str kv.1,kv.2]) back H':=by
 intro A E W s e' Q rm S N k;refine jQ HB rfl hl (Nat.succ_pos _) (h1 rm S N fun x W₁ s₁ P₁ r₁=>?_);refine(k_ h2 P₁.sim r₁).elim fun L Qz=>?_;refine Qz.elim fun d QA=>?_;refine QA.elim fun es V5=>?_;refine V5.elim fun m I8=>?_;obtain V6:=I8.1;obtain g:=I8.2.1;subst V6
 refine getMethod_builtin (⟨_,g,rfl⟩) F.plainAttrs_dict F.slot_dict_items F.type_dict_items (fM g) (cw .nil (fv:=.blt "dict.items") rfl (fun c e=>nomatch e) rm P₁.sim (N.expr P₁) rfl fun zs W₂ s₂ P₂ a rz=>?_);cases mJ rz;obtain⟨L₂,d₂,Mj,m₂,hd,g₂,h0,nd,hlen,rs,sa⟩:=k_ h2 P₂.sim (r₁.mono P₂.le);obtain rfl:=PySem.Value.ref.inj hd;exact wpAny_mono (zQ (L₂.post P₂.sim aH).sim g₂ h0 nd rs sa) (fun x s₃ h₃=>k _ _ fun{_}=>wpAny_mono h₃ (fun i s₄ g=>⟨W₂,uo.mk' S (P₁.trans S P₂) L₂ g.1,g.2.le (P₁.trans S P₂).size⟩) fun a a e=>e) fun a a e=>e
theorem Ay(HB:dh o=false)(hl:(ap.endLine==p.line)=true)(h1:bN d sc env o H v H₁)(h2:Ci v H₁=some ((kvs,back),H')):r_ d sc env t (.Call (.Attribute o "values" ap) [] [] p) H (kvs.map (·.2)) back H':=by
 intro A E W s e' Q rm S N k;refine jQ HB rfl hl (Nat.succ_pos _) (h1 rm S N fun x W₁ s₁ P₁ r₁=>?_);refine(k_ h2 P₁.sim r₁).elim fun L z3=>?_;refine z3.elim fun d Q6=>?_;refine Q6.elim fun es Q7=>?_;refine Q7.elim fun m Mk=>?_;obtain Q_:=Mk.1;obtain g:=Mk.2.1;subst Q_
 refine getMethod_builtin (⟨_,g,rfl⟩) F.plainAttrs_dict F.slot_dict_values F.type_dict_values (fM g) (cw .nil (fv:=.blt "dict.values") rfl (fun c e=>nomatch e) rm P₁.sim (N.expr P₁) rfl fun zs W₂ s₂ P₂ a rz=>?_);cases mJ rz;obtain⟨L₂,d₂,Mj,m₂,hd,g₂,h0,nd,hlen,rs,sa⟩:=k_ h2 P₂.sim (r₁.mono P₂.le);obtain rfl:=PySem.Value.ref.inj hd;exact wpAny_mono (xD (L₂.post P₂.sim aH).sim g₂ h0 nd rs sa) (fun x s₃ h₃=>k _ _ fun{_}=>wpAny_mono h₃ (fun i s₄ g=>⟨W₂,uo.mk' S (P₁.trans S P₂) L₂ g.1,g.2.le (P₁.trans S P₂).size⟩) fun a a e=>e) fun a a e=>e
end
section
variable{n:Nat}{A:Around}{E:Value→Shared→Prop}{W W':Wd}{H H':AH}{s s':Shared}{sc:Scope}{env aj:ah}{e':Env}
theorem o8(rm:bA A (n+1)){k j g:Nat}{a:Addr}{stop Az f1:V}{r:V}{H₁:AH}{b:Bool}(hk:H[k]?=some (.kP (.bm j g) stop true))(ha:W.φ k=some a)(hr:aC n (.bm j g) [] H r H₁)
  (nO:H₁[k]?=some (.kP f1 Az true))(V7:yU f1=true)(hv:jC bB H₁ Az r=some b)(S:aG W H s){Q:Option Value→Shared→Prop}
  (q0:b=false→∀y W₁ s₁,ai W H s aH W₁ H₁ s₁→Rel W₁ r y→Q (some y) s₁)
  (q1:b=true→∀W₁ s₁,ai W H s aH W₁ (H₁.set k (.kP f1 Az false)) s₁→Q none s₁):
  wpAny gM A (pyNext (.ref a)) Q E s:=by
 have O:=S.at hk ha;obtain⟨o,x,y,ho,hc,hd,hl⟩:=O;obtain⟨rx,ry⟩:=hl rfl;have hT:s.TypeIs (.ref a) "callable_iterator":=⟨o,ho,hc⟩
 have V8:=rx;obtain⟨m,c,rfl,hj,zm,hg⟩:=rx;obtain⟨d,Ra⟩:=lF hg;obtain⟨_,of,fd,QU,_,Rb,_⟩:=S.cj.fns g d Ra;refine wpAny_bind (wpAny_attempt (wpAny_callSpecial?_slot hT cX (wpAny_call_entry cX hT iJ ?_ (jn _))));show wpAny _ _ (field (.ref a) 2>>=_) _ _ s;refine wpAny_bind (wpAny_field ho hd rfl ?_);refine wpAny_bind (wpAny_field ho hd (x:=.ref m) rfl ?_);refine wpAny_bind (wpAny_attempt ?_);refine wpAny_bind (mK (S.z _ _ zm) QU Rb ?_);refine iS (hr.wp rm.in1 S V8 trivial fun z W₁ s₁ P₁ r₁=>?_);have Rc:=P₁.le.φ _ _ ha
 obtain⟨o1,x1,y1,B7,KC,Fg,Rd⟩:=P₁.sim.at nO Rc;obtain⟨V9,V_⟩:=Rd rfl;refine wpAny_bind (wpAny_field B7 Fg rfl ?_);refine wpAny_bind (wpAny_field B7 Fg rfl ?_);refine wpAny_bind (wpAny_holding ((l0 bB hv P₁.sim V_ r₁ (by have :=rm.units;simp only[Around.in1_units,bB];exact aQ (nat_lit 0x2a9190881121918ca081101) ae this)).eq _ _ _ _ ?_));induction b with
 |false=>exact wpAny_bind (wpAny_pure (wpAny_pure ⟨_,rfl,wpAny_pure (q0 rfl z W₁ s₁ P₁ r₁)⟩))|true=>
  obtain⟨j1,g1,rfl⟩:∃j1 g1,f1=.bm j1 g1:=by induction f1 using V.casesOn<;>first|exact⟨_,_,rfl⟩|(exact bE V7)
  obtain⟨m1,c1,rfl,XW,Wa,Wb⟩:=V9;obtain⟨d1,Rf⟩:=lF Wb;obtain⟨_,XX,XY,Rg,_,Ml,_⟩:=P₁.sim.cj.fns g1 d1 Rf;have own:=P₁.sim.i5 k a Rc
  have Rd:nU H₁ k:=⟨_,nO,trivial⟩;refine wpAny_bind (wpAny_rule (wpAny_bind ?_));refine wpAny_bind (wpAny_field B7 Fg rfl ?_);refine wpAny_bind ?_;refine wpAny_bind (mK (P₁.sim.z _ _ Wa) Rg Ml ?_);refine wpAny_pure ?_;refine wpAny_bind (cY B7 Fg (by simp) fun h2 o2 Wc NP hd2 TA=>?_);refine wpAny_bind (cY Wc hd2 (by simp) fun h3 o3 We NQ NO TF=>?_);refine cY We NO (by simp) fun h4 o4 Wf KD IY TG=>?_
  refine wpAny_bind ?_;simp only[newExc,newTuple];refine wpAny_bind (wpAny_newObj_type ?_ (Ln.go (nat_lit 72057596169224448) [] ae));refine wpAny_bind (wpAny_of_eq (a:=Value.none) (by first|rfl|(rfl)) ?_);refine wpAny_newObj_type ?_ (by size_fits);refine wpAny_bind (wpAny_handled ?_);rw[show A.in1.handled=none from rm.handled];refine wpAny_bind (wpAny_pure (wpAny_throw ?_));refine wpAny_bind (wpAny_isInstance ⟨_,Heap.get?_push_size _ rfl,rfl⟩ isSubtype_stop ?_);refine wpAny_pure (q1 rfl W₁ _ (P₁.trans S (ai.GI P₁.sim aH Rd Rc ?_ (fun b ob hb hn=>?_) ?_ rfl rfl)))
  ·skip
   rw[Heap.size_push,Heap.size_push,TG.1,TF.1,TA.1];exact aJ (nat_lit 27595307483392) ae
  ·have cI:b≠a:=fun e=>hn (by rw[e];exact own)
   exact Heap.get?_push_of_some _ (Heap.get?_push_of_some _ (TG.extBut _ _ cI (TF.extBut _ _ cI (TA.extBut _ _ cI hb))))
  ·refine⟨o4,.none,.none,Heap.get?_push_of_some _ (Heap.get?_push_of_some _ Wf),by rw[KD,NQ,NP];exact KC,?_,fun h=>bE h⟩;rw[IY];rfl
inductive iC(d:Nat)(sc:Scope)(t:Expr)(body:List Stmt)(k:Nat):Nat→ah→AH→Fl→ah→AH→Prop where
|dead{m:Nat}{env:ah}{H:AH}{f st:V}(hk:H[k]?=some (.kP f st false)):iC d sc t body k m env H .next env H|stop{m:Nat}{env:ah}{H H₁:AH}{j g:Nat}{st f1 yN r:V}(hk:H[k]?=some (.kP (.bm j g) st true))(hc:aC d (.bm j g) [] H r H₁)(nO:H₁[k]?=some (.kP f1 yN true))(hb:yU f1=true)(hv:jC bB H₁ yN r=some true):iC d sc t body k m env H .next env (H₁.set k (.kP f1 yN false))|cons{m:Nat}{env aq bu aj:ah}{H H₁ H₂ H₃ H':AH}{j g:Nat}{st f1 yN r:V}{f fl:Fl}(hk:H[k]?=some (.kP (.bm j g) st true))(hc:aC d (.bm j g) [] H r H₁)(nO:H₁[k]?=some (.kP f1 yN true))(hb:yU f1=true)(hv:jC bB H₁ yN r=some false)
 (h1:n6 d sc env t r H₁ aq H₂) (h2:n7 d sc aq body H₂ f bu H₃) (hf:f=.next∨f=.cont) (h:iC d sc t body k m bu H₃ fl aj H'):iC d sc t body k (m+1) env H fl aj H'
|ret{m:Nat}{env aq bu:ah}{H H₁ H₂ H₃:AH}{j g:Nat}{st f1 yN r v:V}(hk:H[k]?=some (.kP (.bm j g) st true))(hc:aC d (.bm j g) [] H r H₁)(nO:H₁[k]?=some (.kP f1 yN true))(hb:yU f1=true)(hv:jC bB H₁ yN r=some false)
 (h1:n6 d sc env t r H₁ aq H₂) (h2:n7 d sc aq body H₂ (.ret v) bu H₃):iC d sc t body k m env H (.ret v) bu H₃
inductive FI(d:Nat)(sc:Scope)(t:Expr)(body:List Stmt)(k:Nat)(e':Env)(a:Addr)(W:Wd)(H:AH)(s:Shared)(fl:Fl)(aj:ah)(H':AH):Nat→Shared→Prop|mk{m:Nat}{env:ah}{H₁:AH}{W₁:Wd}{s₁:Shared}(h:iC d sc t body k m env H₁ fl aj H')(P₁:ai W H s (bY sc e') W₁ H₁ s₁)(N:ao sc env e' W₁ s₁)(ha:W₁.φ k=some a):FI d sc t body k e' a W H s fl aj H' m s₁
theorem iC.turn{t:Expr}{body:List Stmt}{k:Nat}{a:Addr}{f:Fl}{W₁:Wd}{s₁:Shared}{H₀ H₁ H₂ H₃:AH}{aq bu:ah}{j g:Nat}{st f1 yN r:V}{Q:Option Value→Shared→Prop}{K:Flow→Shared→Prop}(rm:bA A (n+1))(Ds:bA A n)
  (hk:H₀[k]?=some (.kP (.bm j g) st true))(ha:W₁.φ k=some a)(hc:aC n (.bm j g) [] H₀ r H₁)(nO:H₁[k]?=some (.kP f1 yN true))(hb:yU f1=true)(hv:jC bB H₁ yN r=some false)(S:aG W H s)(P₁:ai W H s (bY sc e') W₁ H₀ s₁)(N:ao sc env e' W₁ s₁)
  (h1:n6 n sc env t r H₁ aq H₂)(h2:n7 n sc aq body H₂ f bu H₃)
  (item:∀v s',wpAny gM A (letOwnedTupleGo t (.ref a) v) (fun b s=>wpAny gM A (PySem.assign t e' v) (fun b s=>wpAny gM A (PySem.execs body e') K E s) E s) E s'→Q (some v) s')
  (q:∀g W₅ s₅,ai W H s (bY sc e') W₅ H₃ s₅→ao sc bu e' W₅ s₅→W₅.φ k=some a→kj W₅ f g→K g s₅):wpAny gM A (pyNext (.ref a)) Q E s₁:=by
 refine o8 rm hk ha hc nO hb hv P₁.sim (fun b y W₃ s₃ P₃ ry=>item _ _ ?_) fun hb=>nomatch hb
 obtain⟨oo,_,_,go,gc,_,_⟩:=P₃.sim.at nO (P₃.le.φ _ _ ha);refine kD go gc rfl (h1 Ds P₃.sim (N.expr P₃) ry fun b W₄ s₄ P₄ N₄=>h2 Ds P₄.sim N₄ fun f W₅ s₅ P₅ N₅ F₅=>?_);obtain ir:=P₃.up.trans P₁.sim (P₄.trans P₃.sim P₅);exact q _ _ _ (P₁.trans S ir) N₅ (ir.le.φ _ _ ha) F₅
theorem iC.run{t:Expr}{body:List Stmt}{k m:Nat}{a:Addr}{fl:Fl}(h:iC n sc t body k m env H fl aj H')(rm:bA A (n+1))(S:aG W H s)(N:ao sc env e' W s)(ha:W.φ k=some a):
  codeAny gM A (.forLoop t (.ref a) body [] e') (fun r s'=>∃f,r=.ok f∧aU W H s (bY sc e') H' (fun W' s'=>ao sc aj e' W' s'∧kj W' fl f) s') s:=by
 refine r9 (FI n sc t body k e' a W H s fl aj H') (fun k' s₁ h E Q K stop item again ret=>?_) m (.mk h (.refl S) N ha);obtain Ds:=rm.le (Nat.le_succ n);cases h with
 |mk h P₁ N ha=>
  cases h with
  |dead hk=>
   obtain⟨o,x,y,go,gc,gd,_⟩:=P₁.sim.at hk ha;refine zR rm.handled go gc gd fun h' hsz hk=>stop _ ?_
   obtain P₂:ai _ H' s₁ aH _ H' {s₁ with heap:=h'}:=ai.grow P₁.sim aH hk hsz rfl rfl (fun b b h=>h) (fun b b h=>.inl h) rfl rfl;exact⟨_,rfl,_,P₁.trans S P₂.up,N.expr P₂,rfl⟩
  |stop hk hc nO hb hv=>exact o8 rm hk ha hc nO hb hv P₁.sim (fun hb=>nomatch hb) fun b W₃ s₃ P₃=>stop _ ⟨_,rfl,W₃,P₁.trans S P₃.up,N.expr P₃,rfl⟩|cons hk hc nO hb hv h1 h2 hf h=>
   refine iC.turn rm Ds hk ha hc nO hb hv S P₁ N h1 h2 item fun f W₅ s₅ P₅ N₅ ha F₅=>?_
   refine again f _ s₅ ?_ (Nat.lt_succ_self _) (.mk h P₅ N₅ ha);rcases hf with rfl|rfl
   ·exact .inl F₅
   ·exact .inr F₅
  |ret hk hc nO hb hv h1 h2=>exact iC.turn rm Ds hk ha hc nO hb hv S P₁ N h1 h2 item fun f W₅ s₅ P₅ N₅ b F₅=>F₅.elim fun z hz=>hz.1▸ret _ _ ⟨_,rfl,W₅,P₅,N₅,z,rfl,hz.2⟩
theorem HC{t:Expr}{x:Str}{q p:Pos}{body:List Stmt}{k m:Nat}{fl:Fl}{f st:V}{b:Bool}(hn:dD G.C sc env x=some (.ref k))(hd:(x==Str.ofString "__debug__")=false)(hk:H[k]?=some (.kP f st b))(h:iC n sc t body k m env H fl aj H'):kH (n+1) sc env (.For t (.Name x q) body [] p) H fl aj H':=by
 intro A E W s e' Q rm S N kk;refine wpAny_For (wpAny_Name (eg (jK hn S N) fun y W₁ s₁ P₁ r₁=>?_) hd) fun c=>rfl
 obtain⟨a,rfl,ha⟩:=r₁;obtain⟨o,_,_,ho,hc,_⟩:=P₁.sim.at hk ha;refine zS ho hc (codeAny_mono (h.run rm P₁.sim (N.expr P₁) ha) ?_);rintro r s₂ ⟨f,rfl,W₂,P₂,q⟩;exact kk _ _ _ (P₁.up.trans S P₂) q.1 q.2
end
noncomputable def dH(ks:List Str)(env:ah):ah:=env.filter fun p=>ks.contains p.1
def bw(C:Cx)(sc:Scope)(ks:List Str)(env:ah):Bool:=env.all fun p=>ks.contains p.1||(kindOf sc p.1==some .local||!C.wo p.1)
theorem jZ{ks:List Str}{x:Str}(h:ks.contains x=true):∀env:ah,a_ (dH ks env) x=a_ env x
|[]=>rfl|(y,v)::r=>by
 obtain ih:=jZ h r;unfold dH a_ at ih⊢;induction hy:ks.contains y with
 |true=>rw[List.filter_cons_of_pos (by exact hy),List.lookup_cons,List.lookup_cons,ih]|false=>
  obtain hn:(x==y)=false:=nR fun e=>nomatch (e▸hy).symm.trans h
  rw[List.filter_cons_of_neg (by exact fun q=>nomatch hy.symm.trans q),List.lookup_cons,hn,ih]
theorem j0{ks:List Str}{x:Str}(h:ks.contains x=false):∀env:ah,a_ (dH ks env) x=none
|[]=>rfl|(y,v)::r=>by
 obtain ih:=j0 h r;unfold dH a_ at ih⊢;induction hy:ks.contains y with
 |true=>
  obtain hn:(x==y)=false:=nR fun e=>nomatch (e▸h).symm.trans hy
  rw[List.filter_cons_of_pos (by exact hy),List.lookup_cons,hn,ih]
 |false=>rw[List.filter_cons_of_neg (by exact fun q=>nomatch hy.symm.trans q),ih]
theorem gX{C:Cx}{sc:Scope}{ks:List Str}{x:Str}(h:ks.contains x=false)(hk:kindOf sc x≠some .local):∀env:ah,bw C sc ks env=true→a_ env x=none∨C.wo x=false
|[],aM=>.inl rfl|(y,v)::r,ho=>by
 obtain q:=bj ho;induction e:x==y with
 |true=>induction eq_of_beq e;exact(Bool.or_eq_true_iff.mp q.1).elim (fun q=>bE (h.symm.trans q)) fun q=>(Bool.or_eq_true_iff.mp q).elim (fun q=>absurd (eq_of_beq q) hk) fun q=>.inr ((Bool.not_eq_true' _).mp q)
 |false=>unfold a_;simp only[List.lookup_cons,e];exact gX h hk r q.2
section
variable{d:Nat}{sc:Scope}{env aj aq bu:ah}{H H' H₁ H₂:AH}{fl f:Fl}{t:Expr}{body:List Stmt}{x:V}{xs:List V}{ks:List Str}
theorem ao.keep{e':Env}{W:Wd}{s:Shared}(N:ao sc env e' W s)(h:bw G.C sc ks env=true):ao sc (dH ks env) e' W s:=by
 obtain up:∀x v,a_ (dH ks env) x=some v→a_ env x=some v:=fun x v hx=>by
  induction hc:ks.contains x with |true=>simp only[←hx,jZ hc]|false=>exact nE ((j0 hc env).symm.trans hx)
 refine⟨N.kind,N.globals,N.builtins,N.code,N.kinds,?_,fun x hx=>?_,fun x v hx hv=>N.frees x v hx (up x v hv),N.inj⟩
 ·refine N.locals.elim fun o Gk=>?_;refine Gk.elim fun es Pj=>?_;refine Pj.elim fun ep BY=>?_;refine BY.elim fun m tV=>?_;obtain h1:=tV.1;obtain h2:=tV.2.1;obtain h3:=tV.2.2.1;obtain h4:=tV.2.2.2.1;obtain h5:=tV.2.2.2.2.1;obtain h6:=tV.2.2.2.2.2.1;obtain h7:=tV.2.2.2.2.2.2
  exact⟨o,es,ep,m,h1,h2,h3,h4,h5,h6,fun x v hk hv=>h7 x v hk (up x v hv)⟩
 ·have c:=N.cells x hx;induction hc:ks.contains x with
  |true=>rw[jZ hc];exact c|false=>
   rw[j0 hc];rcases gX hc (hx▸(fun e=>nomatch e)) env h with h0|h0
   ·rw[h0] at c;exact c
   ·refine c.elim fun c Rh=>?_;refine Rh.elim fun o Ri=>?_;refine Ri.elim fun u xT=>?_;obtain h1:=xT.1;obtain h2:=xT.2.1;obtain h3:=xT.2.2.1;obtain h4:=xT.2.2.2.1;obtain h5:=xT.2.2.2.2.1;obtain h6:=xT.2.2.2.2.2
    refine⟨c,o,u,h1,h2,h3,h4,h5,?_⟩
    revert h6
    induction a_ env x with |none=>exact id|some v=>exact fun h6=>by have h6:=h6.2;rw[h0] at h6;exact h6
theorem n7.keep(h:n7 d sc env body H fl aj H')(ho:bw G.C sc ks aj=true):n7 d sc env body H fl (dH ks aj) H':=fun a a a a a a rm S N k=>h rm S N fun a a a P N' F=>k _ _ _ P (N'.keep ho) F
theorem kH.keep{st:Stmt}(h:kH d sc env st H fl aj H')(ho:bw G.C sc ks aj=true):kH d sc env st H fl (dH ks aj) H':=fun a a a a a a rm S N k=>h rm S N fun a a a P N' F=>k _ _ _ P (N'.keep ho) F
theorem kH.low{st:Stmt}(h:kH d sc (dH ks env) st H fl aj H')(ho:bw G.C sc ks env=true):kH d sc env st H fl aj H':=fun a a a a a a rm S N k=>h rm S (N.keep ho) k
end
section
variable{d:Nat}{au:Scope}{H H':AH}{out:Out}
inductive I9(d:Nat)(au:Scope):Out→ah→Acc→AH→Acc→AH→Prop where
|e{x:Expr}{env:ah}{vs:List V}{v:V}{H H':AH}(h:bN d au env x H v H')(hz:vs.length+1<ak):I9 d au (.e x) env (.l vs) H (.l (vs++[v])) H'|kv{x k:Expr}{env:ah}{kvs:List (Str×V)}{t:Str}{v:V}{H H₁ H':AH}(h1:bN d au env k H (.str t) H₁)(h:bN d au env x H₁ v H')(hz:kvs.length+1<ak):I9 d au (.kv k x) env (.d kvs) H (.d (aP kvs t v)) H'
inductive AA(d:Nat)(au:Scope)(env:ah):List Expr→AH→Bool→AH→Prop where
|nil{H:AH}:AA d au env [] H true H|t{c:Expr}{cs:List Expr}{H H₁ H':AH}{b:Bool}(h:nN d au env c H true H₁)(k:AA d au env cs H₁ b H'):AA d au env (c::cs) H b H'|f{c:Expr}{cs:List Expr}{H H':AH}(h:nN d au env c H false H'):AA d au env (c::cs) H false H'
abbrev iW:=ah→Acc→AH→ah→Acc→AH→Prop
inductive aB(d:Nat)(au:Scope)(g:Comprehension)(T:iW):List V→iW where
|nil{env:ah}{ac:Acc}{H:AH}:aB d au g T [] env ac H env ac H|yes{x:V}{xs:List V}{env aq bu aj:ah}{ac kI fu:Acc}{H H₁ H₂ H₃ H':AH}{ks:List Str}(h1:n6 d au env g.target x H aq H₁)(h2:AA d au aq g.ifs H₁ true H₂)(h3:T aq ac H₂ bu kI H₃)(ho:bw G.C au ks bu=true)(k:aB d au g T xs (dH ks bu) kI H₃ aj fu H'):aB d au g T (x::xs) env ac H aj fu H'|no{x:V}{xs:List V}{env aq aj:ah}{ac fu:Acc}{H H₁ H₂ H':AH}{ks:List Str}(h1:n6 d au env g.target x H aq H₁)(h2:AA d au aq g.ifs H₁ false H₂)(ho:bw G.C au ks aq=true)(k:aB d au g T xs (dH ks aq) ac H₂ aj fu H'):aB d au g T (x::xs) env ac H aj fu H'
theorem AA.run{A:Around}{E:Value→Shared→Prop}{W:Wd}{s:Shared}{e':Env}{env:ah}{cs:List Expr}{b:Bool}(h:AA d au env cs H b H')(rm:bA A d)(S:aG W H s)(N:ao au env e' W s):∀{Q:Bool→Shared→Prop},(∀W' s',ai W H s aH W' H' s'→Q b s')→
  wpAny gM A (forIn cs true fun c r=>if r=true then do let ok←PySem.isTrue c e' (PySem.eval c e');pure (ForInStep.yield ok) else pure (ForInStep.yield r)) Q E s:=by
 induction h generalizing W s with |nil=>intro Q k;exact wpAny_pure (k _ _ (.refl S))|t h _ ih=>intro Q k;rw[List.forIn_cons];exact wpAny_bind (wpAny_bind (h rm S N fun a a P=>wpAny_pure (ih P.sim (N.expr P) fun a a P₂=>k _ _ (P.trans S P₂))))|f h=>intro Q k;rw[List.forIn_cons];exact wpAny_bind (wpAny_bind (h rm S N fun a a P=>wpAny_pure (wpAny_of_eq (oY _) (k _ _ P))))
structure AB(au:Scope)(e':Env)(a:Addr)(IA:Addr→Prop)(W:Wd)(H:AH)(s:Shared)(aj:ah)(ac:Acc)(W':Wd)(H':AH)(s':Shared):Prop where
 post:ai W H s (fun b=>bY au e' b∨b=a∨IA b) W' H' s'
 env:ao au aj e' W' s'
 acc:iB W' s' a ac
 free:cC W' a
theorem I9.run{A:Around}{E:Value→Shared→Prop}{W:Wd}{s:Shared}{e':Env}{env:ah}{ac fu:Acc}{a:Addr}{Q:Unit→Shared→Prop}(h:I9 d au out env ac H fu H')(rm:bA A d)(S:aG W H s)(N:ao au env e' W s)(hA:iB W s a ac)(f:cC W a)(ap:Apart au e' a)
  (k:∀u W' s',AB au e' a (fun c=>False) W H s env fu W' H' s'→Q u s'):wpAny gM A (emitC out (.ref a) e') Q E s:=by
 induction h with
 |@e _ _ _ v _ _ h hz=>refine wpAny_bind (h rm S N fun y W₁ s₁ P₁ r₁=>?_);obtain f₁:=(iB.keep hA f P₁ (fun h=>h)).2;obtain⟨ys,m,g,hl,ry⟩:=(iB.keep hA f P₁ (fun h=>h)).1;obtain⟨m',hm⟩:=iQ ys m (·.push y);obtain PX:=dG P₁.sim f₁ (Heap.SameBut.update s₁.heap a (Obj.mapSeq (·.push y)));refine wpAny_bind (call_meets F.slot_list_append (⟨_,g,rfl⟩) F.entry_list_append (F.args_list_append_2 _ _) (PySem.list_append a ys m y (br ((ry.length.trans Array.length_toList)▸hl))) ⟨g,wpAny_pure (k _ W₁ _ ?_)⟩);exact⟨P₁.up.trans S (PX.wk fun b hb=>.inr (.inl hb)),(N.expr P₁).old PX fun b hb=>⟨hb▸ap.1,fun y hy=>hb▸ap.2 y (hy.imp id (·.1))⟩,⟨ys.push y,m',hm▸Heap.get?_update_self _ g (hm▸rfl),List.length_append ..▸hz,(show(ys.push y).toList=ys.toList++[y] from Array.toList_push ..)▸ry.append (⟨r₁,trivial⟩)⟩,f₁⟩
 |@kv _ _ _ kvs _ _ _ _ _ h1 h hz=>
  refine wpAny_bind (h1 rm S N fun y W₁ s₁ P₁ r₁=>wpAny_bind (wpAny_holding (h rm P₁.sim (N.expr P₁) fun z W₂ s₂ P₂ r₂=>wpAny_bind (wpAny_standAt (wpAny_holding ?_)))));obtain bW:=P₁.trans S P₂;obtain f₁:=(iB.keep hA f bW (fun h=>h)).2;obtain⟨es,m,g,h0,nd,hl,rd⟩:=(iB.keep hA f bW (fun h=>h)).1;obtain⟨ps,hD,rp⟩:=dg g nd rd;obtain⟨NU,tk,rfl⟩:=r₁;refine wpAny_dictSet_pairs (hsz:=br (rp.length▸hl)) (strKind_is _ _ _ tk) hD fun h' Wg yK=>?_
  obtain PX:=dG P₂.sim f₁ yK;obtain⟨Gm,m',g',K9,Wh⟩:=jM Wg (dS.Cz NU r₂ (rp.keys▸nd) rp);exact k _ W₂ _ ⟨bW.up.trans S (PX.wk fun b hb=>.inr (.inl hb)),(N.expr bW).old PX fun b hb=>⟨hb▸ap.1,fun y hy=>hb▸ap.2 y (hy.imp id (·.1))⟩,⟨Gm,m',g',h0,K9,Nat.lt_of_le_of_lt (cG kvs _ _) hz,Wh⟩,f₁⟩
end
section
variable{d:Nat}{au:Scope}{H H':AH}{out:Out}{g:Comprehension}{T:iW}{A:Around}{e':Env}{a:Addr}{pos:Pos}{gens gs:List Comprehension}{env aj:ah}{ac fu:Acc}{E:Value→Shared→Prop}{W:Wd}{s:Shared}
abbrev CX(au:Scope)(e':Env)(a:Addr)(IA:Addr→Prop):Addr→Prop:=fun b=>bY au e' b∨b=a∨IA b
def FJ(A:Around)(au:Scope)(e':Env)(out:Out)(gens:List Comprehension)(pos:Pos)(a:Addr)(d:Nat)(T:iW):Prop:=∀⦃E:Value→Shared→Prop⦄⦃W:Wd⦄⦃s:Shared⦄⦃env aj:ah⦄⦃ac fu:Acc⦄⦃H H':AH⦄⦃K:Sem PySem.Fin⦄⦃Q:PySem.Fin→Shared→Prop⦄,T env ac H aj fu H'→aG W H s→ao au env e' W s→iB W s a ac→cC W a→(∀W' s',AB au e' a (fun b=>False) W H s aj fu W' H' s'→wpAny gM A K Q E s')→wpAny gM A (oX out gens au pos d (.ref a) e' K) Q E s
inductive AD(d:Nat)(au:Scope)(g:Comprehension)(T:iW)(e':Env)(a:Addr)(it:Value)(IA D:Addr→Prop)(W:Wd)(H:AH)(s:Shared)(aj:ah)(fu:Acc)(H':AH):Nat→Shared→Prop
|mk{xs:List V}{env:ah}{ac:Acc}{H₁:AH}{W₁:Wd}{P:Heap→Prop}{s₁:Shared}(h:aB d au g T xs env ac H₁ aj fu H')(c:AB au e' a IA W H s env ac W₁ H₁ s₁)(I:gR g.target it IA D W xs P)
 (hP:dw (fun a=>IA a∨D a) P) (p:P s₁.heap) (hI:∀b,IA b→bG W₁ s₁ b) (hD:∀b,D b→Still W₁ H₁ s₁ (CX au e' a IA) b):AD d au g T e' a it IA D W H s aj fu H' xs.length s₁
theorem aB.run{xs:List V}{it:Value}{k:Nat}{IA D:Addr→Prop}{P:Heap→Prop}(h:aB d au g T xs env ac H aj fu H')(rm:bA A d)(hg:gens[k]?=some g)(ha:g.is_async=0)(ap:Apart au e' a)(tail:FJ A au e' out gens pos a k T)
  (S:aG W H s)(N:ao au env e' W s)(hA:iB W s a ac)(f:cC W a)(I:gR g.target it IA D W xs P)(hP:dw (fun a=>IA a∨D a) P)(p:P s.heap)(hI:∀b,IA b→bG W s b)(N2:∀b,IA b→b≠a)(hD:∀b,D b→Still W H s (CX au e' a IA) b):
  codeAny gM A (.compLoop (out.expr gens au pos) k it (.ref a) e') (fun r s'=>r=.ok .next∧∃W',AB au e' a IA W H s aj fu W' H' s') s:=by
 refine p_ hg ha (AD d au g T e' a it IA D W H s aj fu H') (fun k s₁ h E Q B K T stop item yes again no=>?_) _ (.mk h ⟨.refl S,N,hA,f⟩ I hP p hI hD);cases h with
 |mk h c I hP p Ax hD=>
  have P₁:=c.post;cases h with
  |nil=>
   refine I rm.handled p fun h' tk hsz hk=>stop _ ?_
   obtain P₂:ai _ H' s₁ IA _ H' {s₁ with heap:=h',toks:=tk}:=ai.free P₁.sim (fun a ha=>(Ax a ha).1) hk hsz rfl rfl;obtain q:=c.acc.keep c.free P₂ (fun hx=>N2 a hx rfl);exact⟨rfl,_,P₁.trans S (P₂.wk fun b hb=>.inr (.inr hb)),c.env.old P₂ fun b hb=>(Ax b hb).apart c.env,q.1,q.2⟩
  |yes h1 h2 h3 ho hk=>
   refine I.elim fun P' z1=>?_;obtain ux:=z1.1;obtain I':=z1.2.1;obtain step:=z1.2.2
   refine wpAny_mono (step P₁.le P₁.sim Ax rm.handled p) (fun r s₂ q=>q.elim fun y q=>q.1▸item _ _ (wpAny_mono q.2 (fun i s₃ q=>q.elim fun W₃ q=>?_) fun i i e=>e)) fun i i e=>e
   obtain N₃:=c.env.old q.1 fun b hb=>(Ax b hb).apart c.env
   obtain c₃:=c.acc.keep c.free q.1 (fun hx=>N2 a hx rfl);refine h1 rm q.1.sim N₃ q.2.2.1 fun i W₄ s₄ P₄ N₄=>h2.run rm P₄.sim N₄ fun W₅ s₅ P₅=>yes _ ?_
   obtain c₄:=c₃.1.keep c₃.2 P₄ ap.fq;obtain c₅:=c₄.1.keep c₄.2 P₅ (fun h=>h);refine tail h3 P₅.sim (N₄.expr P₅) c₅.1 c₅.2 fun W₆ s₆ c₆=>?_
   have Q₆:=((P₄.wk fun b hb=>.inl hb).trans q.1.sim P₅.up).trans q.1.sim (c₆.post.wk fun b hb=>hb.imp id fun hb=>hb.resolve_right fun h=>h);have Q₃:=q.1.wk (X':=CX au e' a IA) fun b hb=>.inr (.inr hb)
   have sf:=Q₆.wk (X':=CX au e' a IA) fun b hb=>hb.imp id .inl
   have mY:=q.2.1;have hx:∀b,IA b→¬(bY au e' b∨b=a):=fun b hb hq=>hq.elim ((mY b hb).fq N₃) (N2 b hb)
   have st:=fun b hb=>((hD b hb).post P₁.sim Q₃).1.post q.1.sim sf
   exact again _ _ (Nat.lt_succ_self _) (.mk hk ⟨(P₁.trans S Q₃).trans S sf,c₆.env.keep ho,c₆.acc,c₆.free⟩ I' ux (ux _ _ q.2.2.2 fun b o hb ho=>hb.elim (fun hb=>(mY b hb).keep Q₆ (hx b hb) ho) fun hb=>(st b hb).2 o ho) (fun b hb=>(mY b hb).post Q₆ (hx b hb)) fun b hb=>(st b hb).1)
  |no h1 h2 ho hk=>
   refine I.elim fun P' Li=>?_;obtain ux:=Li.1;obtain I':=Li.2.1;obtain step:=Li.2.2
   refine wpAny_mono (step P₁.le P₁.sim Ax rm.handled p) (fun r s₂ q=>q.elim fun y q=>q.1▸item _ _ (wpAny_mono q.2 (fun i s₃ q=>q.elim fun W₃ q=>?_) fun i i e=>e)) fun i i e=>e
   obtain N₃:=c.env.old q.1 fun b hb=>(Ax b hb).apart c.env
   have c₃:=c.acc.keep c.free q.1 (fun hx=>N2 a hx rfl);refine h1 rm q.1.sim N₃ q.2.2.1 fun i W₄ s₄ P₄ N₄=>h2.run rm P₄.sim N₄ fun W₅ s₅ P₅=>?_
   obtain c₄:=c₃.1.keep c₃.2 P₄ ap.fq;obtain c₅:=c₄.1.keep c₄.2 P₅ (fun h=>h);have Q₆:=P₄.trans q.1.sim P₅.up
   have Q₃:=q.1.wk (X':=CX au e' a IA) fun b hb=>.inr (.inr hb)
   have sf:=Q₆.wk (X':=CX au e' a IA) fun b hb=>.inl hb
   have mY:=q.2.1;have hx:=fun b hb hq=>(mY b hb).fq N₃ hq
   have st:=fun b hb=>((hD b hb).post P₁.sim Q₃).1.post q.1.sim sf
   exact no _ _ (Nat.lt_succ_self _) (.mk hk ⟨(P₁.trans S Q₃).trans S sf,(N₄.expr P₅).keep ho,c₅.1,c₅.2⟩ I' ux (ux _ _ q.2.2.2 fun b o hb ho=>hb.elim (fun hb=>(mY b hb).keep Q₆ (hx b hb) ho) fun hb=>(st b hb).2 o ho) (fun b hb=>(mY b hb).post Q₆ (hx b hb)) fun b hb=>(st b hb).1)
end
section
variable{d:Nat}{sc au:Scope}{H H':AH}{out:Out}{T:iW}{A:Around}{e':Env}{a:Addr}{pos:Pos}{gens:List Comprehension}{env aj:ah}{ac fu:Acc}{E:Value→Shared→Prop}{W:Wd}{s:Shared}
inductive Mm(d:Nat)(au:Scope)(g:Comprehension)(T:iW):iW|mk{env aj:ah}{ac fu:Acc}{H H₁ H₂ H':AH}{xs:List V}{back:Option (Nat×aE)}(ha:g.is_async=0)(hf:∀e' x,foldedSetIterable g.iter e' x=pure x)(h1:r_ d au env g.target g.iter H xs back H₁)(h2:aB d au g T xs env ac H₁ aj fu H₂)(h3:ie back H₂=some ((),H')):Mm d au g T env ac H aj fu H'
def dI(d:Nat)(au:Scope)(out:Out):List Comprehension→iW|[]=>fun env ac H aj fu H'=>aj=env∧I9 d au out env ac H fu H'|g::gs=>Mm d au g (dI d au out gs)
theorem dI.run(rm:bA A d)(ap:Apart au e' a):∀(gs:List Comprehension) (k:Nat),gens.drop (k+1)=gs→FJ A au e' out gens pos a k (dI d au out gs)
|[],k,hd=>fun E W s env aj ac fu H H' K Q h S N hA f kk=>by obtain hn:=List.getElem?_eq_none (List.drop_eq_nil_iff.mp hd);unfold oX;refine hn▸?_;exact wpAny_bind (h.2.run rm S N hA f ap fun u W' s' c=>kk W' s' (h.1▸c))
|g::gs,k,hd=>fun E W s env aj ac fu H H' K Q h S N hA f kk=>by
 obtain⟨ha,hf,h1,h2,h3⟩:=h;obtain⟨hg,Ra⟩:=qa hd;obtain hb:(g.is_async !=0)=false:=by rw[ha];rfl
 unfold oX;refine hg▸?_;dsimp only;refine hb▸?_;refine wpAny_bind (h1 rm S N fun x s₁ hx=>wpAny_bind (wpAny_standAt (wpAny_bind (wpAny_of_eq (hf e' x) (wpAny_bind (wpAny_holding (wpAny_mono hx (fun i s₂ z=>z.elim fun W₂ z=>?_) fun l l e=>e)))))));obtain⟨hh,IA,D,P,I,p0,sd,hD⟩:=z;have N₂:=N.expr hh.1
 have c₂:=hA.keep f hh.1 (fun h=>h)
 obtain loop:=h2.run rm hg ha ap (dI.run rm ap gs (k+1) Ra) hh.1.sim N₂ c₂.1 c₂.2 I.zH I.nW p0 (fun b hb=>(sd b hb).1) (fun b hb e=>Nat.lt_irrefl _ (Nat.lt_of_lt_of_le hA.lt (e▸(sd b hb).2)))
  (fun b hb=>(hD b hb).zJ hh.1.sim fun q=>q.elim ((hD b hb).fq N₂) fun q=>q.elim (fun q=>(hD b hb).lg (q▸c₂.2)) fun q=>(hD b hb).lg (sd b q).1.1)
 have fin:∀{R:Result→Shared→Prop},(∀s',(∃W',AB au e' a (fun l=>False) W H s aj fu W' H' s')→R (.ok .next) s')→codeAny gM A (.compLoop (out.expr gens au pos) (k+1) i (.ref a) e') R s₂:=fun hQ=>codeAny_mono loop fun r s' q=>q.1▸q.2.elim fun W₃ c=>hQ s' ⟨W₃,(hh.2 c.post (fun b j hb hx=>hx.elim (fun hx=>nE ((bY.free N₂ hx).symm.trans hb)) fun hx=>hx.elim (fun hx=>nE ((hx▸c₂.2.1:W₂.own b=none).symm.trans hb)) fun hx=>nE ((sd b hx).1.1.1.symm.trans hb)) h3).drop fun b hb=>hb.elim (fun h=>.inl (.inl h)) fun h=>h.elim (fun h=>.inl (.inr (.inl h))) fun h=>.inr (sd b h).2,c.env,c.acc,c.free⟩
 exact wpAny_bind (wpAny_runOwn (iK hg ha (fin fun s' q=>q.elim fun W' c=>kk W' s' c) (I.self rm.handled p0 (fin fun s' q=>q.elim fun W' c=>kk W' s' c))))
end
section
variable{d:Nat}{sc au:Scope}{H H' H₁ H₂:AH}{out:Out}{A:Around}{e':Env}{pos p q:Pos}{g:Comprehension}{gs:List Comprehension}{env aj cQ:ah}{ac:Acc}{E:Value→Shared→Prop}{W:Wd}{s:Shared}{xs:List V}{back:Option (Nat×aE)}{v:V}{y:Str}
inductive n9(d:Nat)(sc:Scope)(env:ah)(au:Scope)(out:Out):List Comprehension→AH→Acc→AH→Prop
|mk{g:Comprehension}{gs:List Comprehension}{H H₁ H₂ H':AH}{cQ aj:ah}{ac:Acc}{xs:List V}{back:Option (Nat×aE)}(I4:gr sc=false)(f6:fY sc au=true)(ha:g.is_async=0)(hf:∀e' x,foldedSetIterable g.iter e' x=pure x)(kW:eS au env=some cQ)
 (h1:r_ d sc env g.target g.iter H xs back H₁) (h2:aB d au g (dI d au out gs) xs cQ out.start H₁ aj ac H₂) (h3:ie back H₂=some ((),H')):n9 d sc env au out (g::gs) H ac H'
set_option tactic.hygienic true in
theorem n9.made{gens:List Comprehension}{use:Option (Value→Sem Unit)}{Q:Value→Shared→Prop}(h:n9 d sc env au out gens H ac H')(rm:bA A d)(S:aG W H s)(N:ao sc env e' W s)
  (k:∀(a L:Addr) W₄ s₄ m,ai W H s aH W₄ H' s₄→cC W₄ a→s.heap.objs.size≤a→iB W₄ s₄ a ac→cC W₄ L→s.heap.objs.size≤L→L≠a→s₄.heap.Ns L m→compPost gM A E use Q (.ref a) L (.ok .next) s₄):
  wpAny gM A (comprehension (out.expr gens au pos) au e' p (qb out) (firstAsync gens) (firstIter gens e') use) Q E s:=by
 obtain⟨I4,f6,ha,hf,kW,h1,h2,h3⟩:=h;rename_i g gs H₁ H₂ cQ aj xs back;obtain I8:=eZ f6;obtain z8:=I8.1;obtain nd:=I8.2.1;obtain mS:=I8.2.2.2;refine(mR kW f6 N).elim fun cl Mn=>?_;obtain wm:=Mn.1;obtain ku:=Mn.2.1
 have QW:firstAsync (g::gs)=false:=by cases g;subst ha;rfl
 simp only[QW,show firstIter (g::gs) e'=PySem.eval g.iter e' from by cases g;rfl];refine wpAny_comprehension_free (by induction out<;>rfl) (hf e') wm z8 (fun x hx hl=>cU nd (hl▸hx:(x.1,NameKind.local)∈au.names)) (h1 rm S N fun x s₁ hx=>wpAny_mono hx (fun i s₂ z=>z.elim fun W₂ z=>xM (xK fun r h' hk hsz gL c1 c2 c3=>?_)) fun f f e=>e);obtain⟨hh,IA,D,P,I,p0,sd,hD⟩:=z;have S₂:=hh.1.sim
 have AE:=hh.1.size;obtain Dt:=Heap.size_push ..;have kp:=fun b o e=>hk b o (Heap.get?_push_of_some _ e)
 have P₃:ai W₂ H₁ s₂ aH W₂ H₁ {s₂ with heap:=h'}:=ai.grow S₂ aH kp (Nat.le_of_succ_le (Nat.le_of_lt (Dt▸hsz:s₂.heap.objs.size+1<h'.objs.size))) rfl rfl (fun f f h=>h) (fun f f h=>.inl h) rfl rfl;have fr:∀b,s₂.heap.objs.size≤b→cC W₂ b:=fun b hb=>⟨S₂.cH hb,S₂.gJ hb,S₂.fj hb⟩
 have Rj:=Dt▸c1;obtain Wi:=Dt▸gL;refine(uy (s':={s₂ with heap:=h'}) (o:=I2 none) I4 f6 kW (N.expr hh.1) rfl kp fr ku Wi (Nat.le_succ _) Rj c2 c3 N.globals).elim fun N₃ PV=>?_
 obtain Wj:=hk _ _ (Heap.get?_push_size _ (by induction out<;>rfl))
 obtain ap:Apart au {scope:=relabel au e',locals:=s₂.heap.objs.size+1,globals:=e'.globals,cells:=r,qual:=e'.qual,func:=none,code:=e'.code,frame:=e'.frame,builtins:=e'.builtins} s₂.heap.objs.size:=
  ⟨Nat.ne_of_lt (Nat.lt_succ_self _),fun y hy he=>hy.elim
   (fun hy=>(Rj y (mem_of_lookup hy)).elim fun c q=>absurd (Option.some.inj (q.1.symm.trans he)▸q.2.1) (Nat.not_lt_of_le (Nat.le_succ _)))
   fun hy=>(PV y hy).elim fun c q=>absurd (Option.some.inj (q.1.symm.trans he)▸q.2) (Nat.lt_irrefl _)⟩
 have fa:=fr _ (Nat.le_refl _);have hA:=Ab (W:=W₂) (s:={s₂ with heap:=h'}) Wj (S₂.mods (Nat.le_refl _))
 have Du:∀b,D b→SrcAt W₂ H₁ {s₂ with heap:=h'} b:=fun b hb=>⟨(hD b hb).1.imp fun o q=>⟨kp _ _ q.1,q.2⟩,(hD b hb).2⟩
 have ps:=I.nW _ _ p0 fun b o f e=>kp _ _ e
 obtain loop:=h2.run (gens:=g::gs) rm rfl ha ap (dI.run rm ap gs 0 rfl) P₃.sim N₃ hA fa I.zH I.nW ps (fun b hb=>⟨(sd b hb).1.1,(sd b hb).1.2.imp fun o q=>q.imp fun vs q=>⟨kp _ _ q.1,q.2⟩⟩)
  (fun b hb e=>(sd b hb).1.2.elim fun o q=>q.elim fun vs q=>Nat.lt_irrefl _ (e▸Heap.lt_size q.1))
  (fun b hb=>(Du b hb).zJ P₃.sim fun q=>q.elim ((Du b hb).fq N₃) fun q=>q.elim (fun q=>(Du b hb).lg (q▸fa)) fun q=>(Du b hb).lg (sd b q).1.1)
 obtain fin:codeAny gM A (.compLoop (out.expr (g::gs) au pos) 0 i (.ref s₂.heap.objs.size) {scope:=relabel au e',locals:=s₂.heap.objs.size+1,globals:=e'.globals,cells:=r,qual:=e'.qual,func:=none,code:=e'.code,frame:=e'.frame,builtins:=e'.builtins})
   (compPost gM A E use Q (.ref s₂.heap.objs.size) (s₂.heap.objs.size+1)) {s₂ with heap:=h'}:=codeAny_mono loop fun rr s' q=>q.1▸q.2.elim fun W₄ c=>by
  obtain P':=hh.2 (P₃.up.trans S₂ c.post) (fun b j hb hx=>hx.elim (fun hx=>nE ((bY.free N₃ hx).symm.trans hb)) fun hx=>hx.elim (fun hx=>nE ((hx▸fa.1:W₂.own b=none).symm.trans hb)) fun hx=>nE ((sd b hx).1.1.1.symm.trans hb)) h3;have Wl:ai W H s aH W₄ _ s':=P'.drop fun b hb=>.inr (hb.elim (fun hb=>hb.elim (fun hb=>hb▸Nat.le_trans AE (Nat.le_succ _)) fun hb=>hb.elim fun y hy=>(Rj y (mem_of_lookup hy.1)).elim fun c q=>Option.some.inj (q.1.symm.trans hy.2)▸Nat.le_trans AE (Nat.le_of_lt (Nat.lt_of_succ_lt q.2.1))) fun hb=>hb.elim (fun hb=>hb▸AE) fun hb=>(sd b hb).2)
  refine c.env.locals.elim fun o Rl=>?_;refine Rl.elim fun es Rm=>?_;refine Rm.elim fun ep Rn=>?_;refine Rn.elim fun m xU=>?_;obtain q1:=xU.1;obtain q2:=xU.2.1;obtain q3:=xU.2.2.1;obtain q4:=xU.2.2.2.1;obtain q5:=xU.2.2.2.2.1;obtain q6:=xU.2.2.2.2.2.1
  exact k _ _ W₄ s' m Wl c.free AE c.acc ⟨q5,q6,q2⟩ (Nat.le_trans AE (Nat.le_succ _)) (Nat.ne_of_gt (Nat.lt_succ_self _)) q4
 show codeAny _ _ (.compStart (out.expr (g::gs) au pos) 0 i (.ref s₂.heap.objs.size) {scope:=relabel au e',locals:=(s₂.heap.push (qj out)).objs.size,globals:=e'.globals,cells:=r,qual:=e'.qual,func:=none,code:=e'.code,frame:=e'.frame,builtins:=e'.builtins})
  (compPost gM A E use Q (.ref s₂.heap.objs.size) (s₂.heap.push (qj out)).objs.size) {s₂ with heap:=h'}
 refine Dt▸?_;exact iK rfl ha fin (I.self rm.handled ps fin)
end
section
variable{d:Nat}{sc au:Scope}{H H' H₁ H₂:AH}{out:Out}{A:Around}{e':Env}{pos p q:Pos}{gens:List Comprehension}{env aj cQ:ah}{ac:Acc}{E:Value→Shared→Prop}{W:Wd}{s:Shared}{v:V}{y:Str}{c:Bool}
theorem n9.val{Q:Value→Shared→Prop}(h:n9 d sc env au out gens H ac H₁)(hv:xN c ac H₁=some (v,H'))(rm:bA A d)(S:aG W H s)(N:ao sc env e' W s)(k:∀x W' s',ai W H s aH W' H' s'→Rel W' v x→Q x s'):
  wpAny gM A (comprehension (out.expr gens au pos) au e' p (qb out) (firstAsync gens) (firstIter gens e')) Q E s:=
 h.made rm S N fun a L W₄ s₄ m P f ha hA fL hL Ro ud=>⟨m,ud,fun h' hs=>
  have P₅:=dG P.sim fL hs;have c₅:=hA.keep f P₅ (fun e=>Ro e.symm)
  (rW hv (P.trans' S P₅ fun b hb=>.inr (hb▸hL)) c₅.2 ha c₅.1).elim fun W₅ q=>k _ W₅ _ q.1 q.2.2.1⟩
theorem n9.use{Q:Value→Shared→Prop}(h:n9 d sc env au out gens H ac H₁)(hv:xN c ac H₁=some (v,H'))(hy:kindOf sc y=some .local)(rm:bA A d)(S:aG W H s)(N:ao sc env e' W s)(k:∀x W' s',ai W H s (bY sc e') W' H' s'→ao sc (aP env y v) e' W' s'→Q x s'):
  wpAny gM A (comprehension (out.expr gens au pos) au e' p (qb out) (firstAsync gens) (firstIter gens e') (some fun v=>assignAll v [PySem.assign (.Name y q) e'])) Q E s:=by
 refine h.made rm S N fun a L W₄ s₄ m P f ha hA fL hL Ro ud=>(rW hv P f ha hA).elim fun W₅ g=>?_
 refine wpAny_assign_Name (eg (eX g.1.sim (N.expr g.1) hy g.2.2.1) fun i W₆ s₆ P₆ N₆=>?_);obtain N3:=fun hq=>Nat.lt_irrefl _ (Nat.lt_of_lt_of_le (Ly N hq) hL)
 obtain Rp:=g.2.2.2 L Ro fL;obtain⟨oL,es,ep,gL,r1⟩:=id ud;obtain Wm:=Rp.post P₆ (Heap.lt_size gL) N3;refine⟨m,⟨oL,es,ep,P₆.keep L oL gL Rp.2.2 (fun k hk=>nE (Rp.1.symm.trans hk)) N3,r1⟩,fun h' hs=>?_⟩;obtain P₇:=dG P₆.sim Wm hs;refine k _ W₆ _ ((g.1.up.trans S P₆).trans' S P₇ fun b hb=>.inr (hb▸hL)) (N₆.old P₇ fun b hb=>hb▸⟨fun e=>N3 (.inl e),fun z hz he=>hz.elim (fun hz=>N3 (.inr ⟨z,hz,he⟩)) fun hz=>?_⟩);obtain cI:z≠y:=fun e=>nomatch (hy.symm.trans (e▸hz.1:kindOf sc y=some .free):some NameKind.local=some NameKind.free)
 obtain TH:=hz.2;rw[bM,if_neg cI] at TH;obtain⟨u,hu⟩:=lF TH;refine(N.frees z u hz.1 hu).elim fun c' Wn=>?_;refine Wn.elim fun o' Wo=>?_;refine Wo.elim fun w' Fq=>?_;obtain g1:=Fq.1;obtain g2:=Fq.2.1
 exact Nat.lt_irrefl _ (Nat.lt_of_lt_of_le (Option.some.inj (g1.symm.trans he)▸Heap.lt_size g2) hL)
theorem uA(h:n9 d sc env au out gens H ac H₁)(hv:xN (G.C.mu p) ac H₁=some (v,H')):bN d sc env (out.expr gens au p) H v H':=fun a a a a a a rm S N k=>by induction out<;>exact h.val hv rm S N k
theorem AF(h:n9 d sc env au out gens H ac H₁)(hv:xN (G.C.mu pos) ac H₁=some (v,H'))(hk:kindOf sc y=some .local∨kindOf sc y=some .cell)(h2:n6 d sc env (.Name y q) v H' (aP env y v) H'):kH d sc env (.Assign [.Name y q] (out.expr gens au pos) p) H .next (aP env y v) H':=by
 intro A E W s e' Q rm S N k;refine arm_exec_Assign ..▸wpAny_bind (wpAny_standAt ?_);obtain⟨b,hb,C5⟩:=rK (t:=.Name y q) (l:=p.line);refine mX hb ?_;induction b with
 |true=>obtain⟨_,y',q',e,hy⟩:=C5 rfl;cases e;obtain hl:=oS N hy hk;induction out<;>exact wpAny_bind (wpAny_bind (h.use hv hl rm S N fun a a a P N'=>wpAny_pure (wpAny_pure (k _ _ _ P N' rfl))))
 |false=>exact wpAny_bind (uA h hv rm S N fun a a a P₁ r₁=>mX rfl (wpAny_bind (h2 rm P₁.sim (N.expr P₁) r₁ fun a a a P₂ N₂=>wpAny_pure (k _ _ _ (P₁.up.trans S P₂) N₂ rfl))))
end
section
variable{d:Nat}{sc:Scope}{env:ah}{es:List Expr}{m x:Str}{vs us:List V}{v:V}{H H₁ H':AH}{k:Nat}{kvs HD:List (Str×V)}{p:Pos}{i:String}
theorem Mp(h:i_ i vs H=some (v,H')):o6 d (.blt i) vs H v H':=fun a a a a a a a rm S rf rs k=>rf▸eg (zY h S rs rm.handled) k
theorem Mq{c:Bool}(h:gF c i vs H=some (v,H')):o6 d (.typ i) vs H v H':=fun a a a a a a a rm S rf rs k=>rf▸eg (zZ h S rs rm.handled) k
theorem AG(h:pJ vs H=some (v,H')):o6 d (.blt "sorted") vs H v H':=fun a a a a a a a rm S rf rs k=>rf▸eg (xP h S rs rm.handled) k
theorem qo{m:Str}{vs:List V}{v:V}{H':AH}(h1:jY (d+1) sc env es H vs H₁)(h:Dj "str" m (.str x) vs H₁ v H'):jq (d+1) sc env (.str x) m es H v H':=o7 F.plainAttrs_str (fun S r=>by obtain⟨_,t,rfl⟩:=r;exact⟨typeIs_str _ _ t,fun a e=>nomatch e⟩) h1 h
theorem Mr(h1:jY (d+1) sc env es H vs H₁)(h2:iF x m vs H₁=some (v,H')):jq (d+1) sc env (.str x) m es H v H':=by
 refine gy h2 (fun h=>?_) fun h=>?_
 ·induction vs with
  |cons _ _=>exact nE h|nil=>
   refine jL h fun hc e=>?_
   obtain q:=bj hc;obtain⟨rfl,rfl⟩:=Prod.mk.inj e;refine eq_of_beq q.1▸qo h1 ⟨_,F.slot_str_lower,F.type_str_lower,fun A E W s y ys S r rs rm=>?_⟩;obtain⟨_,t,rfl⟩:=r;induction ys with |nil=>exact zV (eq_of_beq q.2) S|cons _ _=>exact rs.elim
 ·refine jD.inv h fun u e h=>?_
  subst e;refine jT h (fun hc h=>?_) fun h=>jT h (fun hc h=>?_) fun h=>yY h fun hc h=>?_
  ·have q:=bj hc;refine eq_of_beq q.1▸qo h1 ⟨_,F.slot_str_join,F.type_str_join,fun A E W s y ys S r rs rm=>?_⟩;obtain⟨_,t,rfl⟩:=r;obtain⟨z,rfl,rz⟩:=cD rs;exact zU h (eq_of_beq q.2) S rz
  ·refine eq_of_beq hc▸qo h1 ⟨_,F.slot_str_count,F.type_str_count,fun A E W s y ys S r rs rm=>?_⟩;obtain⟨_,t,rfl⟩:=r;obtain⟨z,rfl,rz⟩:=cD rs;exact CP h S rz
  ·refine eq_of_beq hc▸qo h1 ⟨_,F.slot_str_index,F.type_str_index,fun A E W s y ys S r rs rm=>?_⟩;obtain⟨_,t,rfl⟩:=r;obtain⟨z,rfl,rz⟩:=cD rs;exact CQ h S rz
theorem HE{N4:List V}(hk:H[k]?=some (.lst us))(h1:jY (d+1) sc env es H vs H₁)(gz:H₁[k]?=some (.lst N4))(h2:tO k m vs (.lst N4) H₁=some (v,H')):jq (d+1) sc env (.ref k) m es H v H':=by
 have bl:∀{m:Str},Dj "list" m (.ref k) vs H₁ v H'→jq (d+1) sc env (.ref k) m es H v H':=fun h=>o7 F.plainAttrs_list (fun S r=>by obtain⟨a,rfl,ha⟩:=r;obtain⟨_,_,g,_⟩:=S.at hk ha;exact⟨⟨_,g,rfl⟩,fun b e=>by obtain rfl:=PySem.Value.ref.inj e;exact⟨_,g,rfl⟩⟩) h1 h
 refine gy h2 (fun h=>jD.inv h fun u e h=>?_) fun h=>tN.inv h fun i u e h=>?_
 ·subst e;refine jT h (fun hc h=>?_) fun h=>yY h fun hc h=>?_
  ·refine eq_of_beq hc▸bl ⟨_,F.slot_list_append,F.type_list_append,fun A E W s y ys S r rs rm=>?_⟩;obtain⟨l,rfl,ha⟩:=r;obtain⟨z,rfl,rz⟩:=cD rs;exact CR h S gz ha rz
  ·refine eq_of_beq hc▸bl ⟨_,F.slot_list_pop,F.type_list_pop,fun A E W s y ys S r rs rm=>?_⟩;obtain⟨l,rfl,ha⟩:=r;obtain⟨z,rfl,rz⟩:=cD rs;exact CU h S gz ha rz
 ·subst e;refine yY h fun hc h=>?_
  refine eq_of_beq hc▸bl ⟨_,F.slot_list_insert,F.type_list_insert,fun A E W s y ys S r rs rm=>?_⟩;obtain⟨l,rfl,ha⟩:=r;obtain⟨z,z',rfl,rz,Wq⟩:=zO rs;exact CV h S gz ha rz Wq
theorem HF(h1:jY (d+1) sc env es H vs H₁)(h2:vy us m vs H₁=some (v,H')):jq (d+1) sc env (.lst us) m es H v H':=by
 have bl:∀{m:Str} {v:V} {H':AH},Dj "list" m (.lst us) vs H₁ v H'→jq (d+1) sc env (.lst us) m es H v H':=fun h=>o7 F.plainAttrs_list (fun S r=>by obtain⟨l,_,_,rfl,z,_⟩:=r;exact⟨⟨_,S.z _ _ z,rfl⟩,fun b e=>by obtain rfl:=PySem.Value.ref.inj e;exact⟨_,S.z _ _ z,rfl⟩⟩) h1 h
 refine jD.inv h2 fun u e h=>?_
 subst e;induction hc:m=="count" with
 |true=>
  rw[hc] at h;refine(eG h).elim fun n z=>z.elim fun hn e=>?_
  cases e;refine eq_of_beq hc▸bl ⟨_,F.slot_list_count,F.type_list_count,fun A E W s y ys S r rs rm=>?_⟩;obtain⟨l,m,ys,rfl,z,hl,ry⟩:=r;obtain⟨q,rfl,rq⟩:=cD rs;exact xE hn S z ry rq
 |false=>
  rw[hc] at h;induction hd:m=="index" with |false=>rw[hd] at h;exact nE h|true=>rw[hd] at h;obtain⟨n,hn,e⟩:=eG h;cases e;refine eq_of_beq hd▸bl ⟨_,F.slot_list_index,F.type_list_index,fun A E W s y ys S r rs rm=>?_⟩;obtain⟨l,m,ys,rfl,z,hl,ry⟩:=r;obtain⟨q,rfl,rq⟩:=cD rs;exact xF hn S z hl ry rq
theorem Ms{tb:List (Int×Str)}(h1:jY (d+1) sc env es H vs H₁)(h2:qQ tb "get" vs H₁=some (v,H')):jq (d+1) sc env (.tabI tb) (Str.ofString "get") es H v H':=o7 F.plainAttrs_dict (fun S r=>by obtain⟨rfl,_⟩:=r;obtain⟨XZ,m0,g⟩:=S.cj.Fb;exact⟨⟨_,g,rfl⟩,fM g⟩) h1 ⟨_,F.slot_dict_get,F.type_dict_get,fun a a a a a a S r rs rm=>by obtain⟨rfl,rfl⟩:=r;exact zW h2 S rs⟩
theorem HG(h1:jY (d+1) sc env es H vs H₁)(h2:lN kvs "get" vs H₁=some (v,H')):jq (d+1) sc env (.bf kvs) (Str.ofString "get") es H v H':=o7 F.plainAttrs_dict (fun S r=>by obtain⟨l,_,_,rfl,z,_⟩:=r;exact⟨⟨_,S.z _ _ z,rfl⟩,fM (S.z _ _ z)⟩) h1 ⟨_,F.slot_dict_get,F.type_dict_get,fun a a a a a a S r rs rm=>by obtain⟨l,_,_,rfl,z,h0,nd,hl,rd⟩:=r;exact rR h2 S (S.z _ _ z) h0 nd rd rs⟩
theorem HH(hk:H[k]?=some (.bf HD))(h1:jY (d+1) sc env es H vs H₁)(nO:H₁[k]?=some (.bf kvs))(h2:lN kvs "get" vs H₁=some (v,H')):jq (d+1) sc env (.ref k) (Str.ofString "get") es H v H':=o7 F.plainAttrs_dict (fun S r=>by obtain⟨a,rfl,ha⟩:=r;obtain⟨_,_,g,_⟩:=S.at hk ha;exact⟨⟨_,g,rfl⟩,fM g⟩) h1 ⟨_,F.slot_dict_get,F.type_dict_get,fun b b b b b b S r rs rm=>by obtain⟨a,rfl,ha⟩:=r;obtain⟨_,_,g,h0,nd,hl,rd⟩:=S.at nO ha;exact rR h2 S g h0 nd rd rs⟩
end
section
variable{d:Nat}{sc iL:Scope}{env cQ:ah}{body:Expr}{args:Arguments}{ps:List Str}{v:V}{H H':AH}{p:Pos}
theorem Mt(I4:gr sc=false)(vU:cB args=some ps)(kW:eS iL env=some cQ)(hw:(cQ.all fun kv=>G.C.wo kv.1)=true)(f6:fY sc iL=true)(hv:(if G.C.mu p then gC (.oq (.lG ps body iL cQ) []) else pure (.lG ps body iL cQ):M V) H=some (v,H')):bN d sc env (.Lambda args body iL p) H v H':=by
 intro A E W s e' Q rm S N k;obtain⟨c,P,we,hm⟩:=N.code I4;obtain⟨cl,wm,ku,_⟩:=mR kW f6 N;have rc:=C8 kW f6 hw N ku
 obtain⟨TJ,_,zP,oP,Wr,gP,tP,cP⟩:=S.tab c P e'.qual hm;obtain⟨mg,mb,g1,g2,g3,g4⟩:=S.cj.glob;obtain⟨TL,Ws⟩:=g4 c P e'.qual hm;obtain⟨as,rfl,_⟩:=iG vU
 have fin:∀{W₁:Wd} {s₁:Shared} {cv I_:Value} {tk:Nat},ai W H s aH W₁ H s₁→oG W₁.Z cv (e'.qual++"<lambda>")→
   Q (.ref s₁.heap.objs.size) {s₁ with heap:=s₁.heap.push {cls:=.type "function",data:=.func (kla_fn "<lambda>" (e'.qual++"<lambda>") ⟨[],as,none,[],[],none,[]⟩ body iL cl ((mg "__name__").getD .none) cv I_)},toks:=tk}:=by
  intro W₁ s₁ cv I_ tk P₁ Wt;induction TM:G.C.mu p with
  |false=>rw[TM] at hv;cases hv;obtain P₂:=ai.push P₁.sim aH {cls:=.type "function",data:=.func (kla_fn "<lambda>" (e'.qual++"<lambda>") ⟨[],as,none,[],[],none,[]⟩ body iL cl ((mg "__name__").getD .none) cv I_)} rfl tk;exact k _ _ _ (P₁.trans S P₂) ⟨_,_,_,rfl,Wd.aZ ..,rfl,rfl,vU,rfl,rfl,rfl,rfl,rfl,rfl,Wt.mono P₂.le.z,rc.mono (P₁.le.trans P₂.le)⟩
  |true=>
   rw[TM] at hv;cases hv
   exact k _ _ _ (P₁.trans S (ai.new P₁.sim aH (.oq (.lG ps body iL cQ) []) {cls:=.type "function",data:=.func (kla_fn "<lambda>" (e'.qual++"<lambda>") ⟨[],as,none,[],[],none,[]⟩ body iL cl ((mg "__name__").getD .none) cv I_)} rfl tk
    ⟨_,_,Heap.get?_push_size _ rfl,rfl,rfl,.inl ⟨rfl,rfl⟩⟩)) ⟨_,rfl,Wd.d8 ..⟩
 show wpAny _ _ (do
   let dv←evalAll [];let Wu←holding dv (evalAllOpt [])
   makeFunction "<lambda>" (e'.qual++"<lambda>") ⟨[],as,none,[],[],none,[]⟩ (.expr body) iL e' dv Wu [] p p.line) _ _ _
 refine wpAny_bind (wpAny_pure (wpAny_bind (wpAny_holding (wpAny_pure ?_))));induction Rq:codeAmong p Wr.toList with
 |some cv=>exact kla_makeFunctionHit wm N.globals g1 we TJ gP tP Rq TL fun I_ h' tk hk hsz=>fin (s₁:={s with heap:=h'}) (ai.grow S aH hk hsz rfl rfl (fun a a h=>h) (fun a a h=>.inl h) rfl rfl) (cP p cv Rq)|none=>
  refine kla_makeFunction wm N.globals g1 we TJ gP tP Rq Ws TL fun c' I_ h' tk hx v9 bT Rr ux=>?_
  obtain⟨c2,oc,vs,t,e1,e2,e3,e4⟩:=Rr;obtain rfl:=PySem.Value.ref.inj e1;exact fin (s₁:={s with heap:=h',toks:=s.toks}) (ai.table S aH hm gP hx (Nat.le_trans v9 (Nat.le_of_lt bT)) v9 e2 e3 e4 ux) ⟨c',oc,vs,t,rfl,Wd.aZ ..,e3,e4⟩
end
section
variable{d:Nat}{sc:Scope}{env:ah}{ke ve:Expr}{x:Str}{u v:V}{H H₁ H₂ H':AH}{p:Pos}
theorem Dv(h1:bN d sc env ke H (.str x) H₁)(h2:bN d sc env ve H₁ u H₂)(hv:(if G.C.mu p then gC (.bf [(x,u)]) else pure (.bf [(x,u)]):M V) H₂=some (v,H')):bN d sc env (.Dict [some ke] [ve] p) H v H':=by
 intro A E W s e' Q rm S N k;obtain P₀:=ai.fF S aH {cls:=.type "dict",data:=.dict #[]};obtain fr:cC W s.heap.objs.size:=⟨S.cH (Nat.le_refl _),S.gJ (Nat.le_refl _),S.fj (Nat.le_refl _)⟩;obtain g0:({s with heap:=s.heap.push {cls:=.type "dict",data:=.dict #[]}}:Shared).heap.get? s.heap.objs.size=some (cT #[] 0):=Heap.get?_push_size _ rfl;refine wpAny_Dict_pairs (knd:=sk) (pairs:=[(eval ke e',do let x←eval ve e';standAt p;pure x)]) rfl (List.cons_ne_nil _ _) (Nat.succ_le_succ (Nat.zero_le _)) (evalPairs_cons (h1 rm P₀.sim (N.expr P₀) fun z W₁ s₁ P₁ r₁=>wpAny_bind (h2 rm P₁.sim (N.expr (P₀.trans S P₁)) fun y W₂ s₂ P₂ r₂=>wpAny_bind (wpAny_standAt (wpAny_pure (evalPairs_nil ?_))))));obtain⟨hl,t,rfl⟩:=r₁;obtain bW:=P₁.trans P₀.sim P₂;obtain P':=P₀.trans S bW;obtain TN:=fr.post bW (by rw[Heap.size_push];exact Nat.lt_succ_self _) (fun h=>h);obtain g1:=bW.keep _ _ g0 fr.2.2 (fun k hk=>nE (fr.1.symm.trans hk)) (fun h=>h);obtain⟨NY,Wv,Ww⟩:=dg (W:=W₂) (kvs:=[]) g1 .nil trivial;induction NY with
 |cons _ _=>exact Ww.elim|nil=>
  refine⟨[(x,y)],⟨strKind_is ..,rfl,trivial⟩,Wv,fun h' hd yK=>?_⟩;refine(jM hd (show dS W₂ [(x,u)] _ from⟨rfl,hl,r₂,trivial⟩)).elim fun es S_=>?_;refine S_.elim fun m Lh=>?_;obtain g2:=Lh.1;obtain Wx:=Lh.2.1;obtain Wy:=Lh.2.2
  obtain P₂:=dG bW.sim TN yK;exact(jW hv (P'.trans' S P₂ fun b hb=>.inr (hb▸Nat.le_refl _)) TN (Nat.le_refl _) g2 (S.mods (Nat.le_refl _)) Wx (by show 1<ak;decide) Wy).elim fun W₃ q=>k _ W₃ _ q.1 q.2.2.1
end
section
variable{d:Nat}{g:V}
inductive iD(d:Nat)(g:V):List V→AH→List V→AH→Prop|nil{H:AH}:iD d g [] H [] H|cons{x k:V}{xs ks:List V}{H H₁ H':AH}(h:aC d g [x] H k H₁)(t:iD d g xs H₁ ks H'):iD d g (x::xs) H (k::ks) H'
theorem iD.len{xs ks:List V}{H H':AH}(h:iD d g xs H ks H'):ks.length=xs.length:=by
 induction h with |nil=>rfl|cons _ _ ih=>exact congrArg (·+1) ih
variable{A:Around}{E:Value→Shared→Prop}{W W₀:Wd}{H H₀ H':AH}{s s₀ t:Shared}{l kS:Addr}{e1:Nat}{f':Value}{xs ks kr:List V}{ys:List Value}
theorem iD.run{body:Value→PUnit→Sem (ForInStep PUnit)}(h:iD d g xs H kr H')(rm:bA A d)(S₀:aG W₀ H₀ s₀)
  (hb:∀x (t:Shared) (Q:Shared→Prop),wpAny gM A (PySem.call f' [x]) (fun k t'=>∃keys e,t'.heap.get? kS=some (seqObj "list" keys e)∧keys.size<64∧Q {t' with heap:=t'.heap.update kS (Obj.mapSeq (·.push k))}) (fun a a=>False) t→wpAny gM A (body x ⟨⟩) (fun r t'=>r=.yield ⟨⟩∧Q t') E t)
  (K:gW W₀ H₀ s₀ l kS e1 ks W H t)(rf:Rel W g f')(rs:ay W xs ys)(hl:ks.length+xs.length<64):
  wpAny gM A (forIn ys PUnit.unit body) (fun a t'=>∃W',W.Le W'∧gW W₀ H₀ s₀ l kS e1 (ks++kr) W' H' t') E t:=by
 induction h generalizing W t ks ys with
 |nil=>cases mJ rs;exact wpAny_pure ⟨W,.refl W,by rw[List.append_nil];exact K⟩
 |@cons x k xs X0 Ha H₁ Hb h _ ih=>
  obtain⟨y,yr,rfl,r1,r2⟩:=xG rs;rw[List.forIn_cons];refine wpAny_bind (wpAny_mono (hb y t (fun t'=>∃W',W.Le W'∧gW W₀ H₀ s₀ l kS e1 (ks++[k]) W' H₁ t') (h.wp rm K.post.sim rf ⟨r1,trivial⟩ fun z W₁ t₁ P₁ rz=>?_)) (fun q t₁ hq=>?_) fun a a e=>e)
  ·refine(K.step S₀ P₁ rz).elim fun keys Fq=>?_;refine Fq.elim fun e Rt=>?_;obtain g1:=Rt.1;obtain g2:=Rt.2.1;obtain K':=Rt.2.2
   exact⟨keys,e,g1,g2▸Nat.lt_of_le_of_lt (Nat.le_add_right ks.length _) hl,W₁,P₁.le,K'⟩
  ·obtain⟨rfl,W₁,q⟩:=hq;refine wpAny_mono (ih q.2 (rf.mono q.1) (r2.mono q.1) (by rw[List.length_append];simp only[List.length_cons,List.length_nil] at hl⊢;exact aA (nat_lit 0x40e1190980881140e1918081101) ae hl)) (fun a t' q'=>?_) fun a a e=>e
   refine q'.elim fun W' Mu=>?_;obtain r1:=Mu.1;obtain r2:=Mu.2
   rw[List.append_assoc] at r2;exact⟨W',q.1.trans r1,r2⟩
end
section
variable{d:Nat}{g v u:V}{A:Around}{E:Value→Shared→Prop}{W W₀:Wd}{H H₀ H₁ H₂ H₃ H₄ H':AH}{s s₀ t:Shared}{l:Addr}{m:Nat}{f':Value}{xs ks out:List V}{vs:List Value}{sc:Scope}{env:ah}{x kf:Expr}{q kp p:Pos}
theorem iD.tree{Pq:PySem.Fin→Shared→Prop}(hc:iD d g xs H₀ ks H')(rm:bA A d)(S₀:aG W₀ H₀ s₀)(P₀:ai W₀ H₀ s₀ aH W₀ H₀ s)(ll:s₀.heap.objs.size≤l)(gl:s.heap.get? l=some (seqObj "list" vs.toArray m))(rf:Rel W₀ g f')(rs:ay W₀ xs vs)(yM:xs.length<64)
  (h:cR ks xs=some (.lst out))(hP:∀W' t,ai W₀ H₀ s₀ aH W' H' t→Rel W' (.lst out) (.ref l)→Pq (.done (.ret .none)) t):wpAny gM A (ksk_tree l f' false) Pq E s:=by
 obtain el:=rs.length;obtain Dw:vs.length≤sizeLine:=by rw[sizeLine_eq];exact aA (nat_lit 0x10000007f10140e011103102) ae el yM
 obtain hl:=Heap.lt_size gl;obtain⟨e1,B7⟩:∃e1,(s.heap.update l (Obj.mapSeq fun c=>(#[]:Array Value))).get? l=some (seqObj "list" #[] e1):=⟨_,get?_update_seq gl fun c=>#[]⟩;refine wpAny_bind (listItems_at gl rfl (wpAny_bind (listUpdate_at gl rfl ?_ Dw (Nat.zero_le _))));refine wpAny_bind (seqEpoch_at B7 rfl (wpAny_bind (wpAny_newTuple (wpAny_bind (wpAny_newList (wpAny_holding ?_) (Nat.zero_le _))) Dw)));obtain Ru:((s.heap.update l (Obj.mapSeq fun c=>(#[]:Array Value))).push (seqObj "tuple" vs.toArray 0)).objs.size=s.heap.objs.size+1:=by rw[size_push',Heap.size_update]
 obtain fl:cC W₀ l:=⟨S₀.cH ll,S₀.gJ ll,S₀.fj ll⟩;obtain lk:s₀.heap.objs.size≤((s.heap.update l (Obj.mapSeq fun c=>(#[]:Array Value))).push (seqObj "tuple" vs.toArray 0)).objs.size:=Ru▸Nat.le_succ_of_le P₀.size;obtain P₁:ai W₀ H₀ s (fun a=>a=l) W₀ H₀ {s with heap:=((s.heap.update l (Obj.mapSeq fun c=>(#[]:Array Value))).push (seqObj "tuple" vs.toArray 0)).push (seqObj "list" #[] 0)}:=ai.free P₀.sim (fun a ha=>ha▸fl) (fun b o hb ho=>Heap.get?_push_of_some _ (Heap.get?_push_of_some _ ((Heap.get?_update_other _ _ (Ne.symm hb)).trans ho))) (by rw[size_push',Ru];exact Nat.le_add_right _ 2) rfl rfl;obtain K:gW W₀ H₀ s₀ l ((s.heap.update l (Obj.mapSeq fun c=>(#[]:Array Value))).push (seqObj "tuple" vs.toArray 0)).objs.size e1 [] W₀ H₀ {s with heap:=((s.heap.update l (Obj.mapSeq fun c=>(#[]:Array Value))).push (seqObj "tuple" vs.toArray 0)).push (seqObj "list" #[] 0)}:=⟨(P₀.up.trans S₀ P₁).drop fun a ha=>.inr (ha▸ll),Heap.get?_push_of_some _ (Heap.get?_push_of_some _ B7),⟨#[],0,Heap.get?_push_size _ rfl,trivial⟩,fl,⟨S₀.cH lk,S₀.gJ lk,S₀.fj lk⟩,ll,lk,Ru▸Nat.ne_of_lt (Nat.lt_succ_of_lt hl)⟩;refine wpAny_bind (wpAny_rule ?_);rw[List.forIn_toArray];refine wpAny_bind (wpAny_mono (hc.run rm S₀ (fun x t Q hx=>?_) K rf rs (by simp only[List.length_nil,Nat.zero_add];exact yM)) (fun c t q=>q.elim fun W₁ q=>C9 q.2 S₀ hc.len (rs.mono q.1) yM h hP) fun c c x=>x);refine wpAny_bind (wpAny_attempt (wpAny_mono hx (fun k t' q=>q.elim fun keys q=>q.elim fun e q=>?_) fun c c hF=>hF.elim));obtain Mv:keys.size+1≤sizeLine:=by rw[sizeLine_eq];exact aJ (nat_lit 0x10000007f19080140e01101) ae q.2.1
 exact wpAny_bind (listUpdate_at q.1 rfl (wpAny_pure ⟨rfl,q.2.2⟩) (Nat.le_trans (Nat.le_succ _) Mv) (Nat.le_trans (Nat.le_of_eq (Array.size_push ..)) (Nat.le_succ_of_le Mv)))
theorem iD.call{a:Addr}{z:Value}{Q:Value→Shared→Prop}(hc:iD d g xs H ks H')(h1:jb v H=some (xs,H₁))(h:cR ks xs=some (.lst out))(rm:bA A (d+1))(S:aG W H s)(rz:Rel W v z)(rg:Rel W g (.ref a))(k:∀x W' s',ai W H s aH W' H' s'→Rel W' (.lst out) x→Q x s'):
  wpAny gM A (PySem.call (.builtin "sorted") [z] [(Str.ofString "key",.ref a)]) Q E s:=by
 refine(e9 h).elim fun LF z2=>?_;obtain eo:=z2.1;obtain q1:=z2.2.1;obtain q2:=z2.2.2
 have hl:=if hs:xs.length<2 then Nat.lt_trans hs (by simp_all) else(q2 hs).1
 refine call_function_entry_kw kind_sorted plain_sorted entry_sorted (ksk_s1 _ _) ?_;refine wpAny_bind (wpAny_pure (wpAny_bind (bD (mV h1 S rz (by exact rm.handled) hl fun h' tk vs hk rs v9=>?_))));have Dw:vs.length≤sizeLine:=by simp only[sizeLine_eq,←rs.length];exact aJ (nat_lit 0x10000007f00140e01101) ae hl
 refine wpAny_bind (wpAny_newList (wpAny_bind (wpAny_holding (wpAny_call_entry_kw slot_list_sort ⟨_,Heap.get?_push_size _ rfl,rfl⟩ entry_list_sort ?_ (ksk_l1 _ _)))) Dw);obtain P₀:ai W H s aH W H {s with heap:=h'.push (seqObj "list" vs.toArray 0),toks:=tk}:=ai.grow S aH (fun b o e=>Heap.get?_push_of_some _ (hk b o e)) (by rw[size_push'];exact Nat.le_succ_of_le v9) rfl rfl (fun c c h=>h) (fun c c h=>.inl h) rfl rfl;exact hc.tree rm.VK S P₀ v9 (Heap.get?_push_size _ rfl) rg rs hl h fun W' t P r=>⟨_,rfl,wpAny_pure ⟨_,rfl,k _ W' _ P r⟩⟩
theorem qp{f:Str}(IZ:isStarred x=false)(h1:bN d sc env (.Name f q) H (.blt "sorted") H₁)(h2:bN d sc env x H₁ u H₂)(h3:bN d sc env kf H₂ g H₃)(hg:yX g=true)(h4:jb u H₃=some (xs,H₄))(h5:iD d g xs H₃ ks H')(h6:cR ks xs=some (.lst out)):
  bN (d+1) sc env (.Call (.Name f q) [x] [⟨some (Str.ofString "key"),kf,kp⟩] p) H (.lst out) H':=by
 intro A E W s e' Q rm S N k;have Ds:=rm.le (Nat.le_succ d)
 refine wpAny_Call_Name_kw (h1 Ds S N fun f' W₁ s₁ P₁ r₁=>?_);have hf:=r₁
 subst hf;obtain vY:=dz IZ;obtain Wz:jY d sc env [x] H₁ [u] H₂:=.cons IZ h2 .nil;refine callWith_kw ?_ (by rw[vY];rfl) (by rw[vY];rfl);refine Wz.run Ds P₁.sim (N.expr P₁) fun zs W₂ s₂ P₂ r₂=>?_
 obtain⟨z,rfl,rz⟩:=cD r₂;have bW:=P₁.trans S P₂
 refine kws_cons (h3 Ds P₂.sim (N.expr bW) fun y W₃ s₃ P₃ r₃=>kws_nil ?_);obtain⟨a,rfl⟩:∃a,y=.ref a:=by induction g using V.casesOn<;>first|(obtain⟨a,_,_,rfl,_⟩:=r₃;exact⟨a,rfl⟩)|exact bE hg
 exact h5.call h4 h6 rm P₃.sim (rz.mono P₃.le) r₃ fun b b b P r=>k _ _ _ ((bW.trans S P₃).trans S P) r
end
inductive uC where
|obj(o:aE)|call(v:V)(H:AH)|ev(v:V)(H:AH)|ex(fl:Fl)(env:ah)(H:AH)|cmp(env:ah)(ac:Acc)(H:AH)|ks(l:List Str)|no(i:Nat)(b:Bool)|val(i:Nat)(v:V)|upd(i:Nat)(v:V)(H:AH)
structure Cr(α:Type)(J:α→Prop) where
 a:α
 i:Nat
 O:List uC
 c:Prop→Prop
 pf:∀{P:Prop},c P→J a∧P
abbrev CM(α:Type)(J:α→Prop):=Nat→List uC→Option (Cr α J)
section
variable{α β:Type}{J:α→Prop}{L:β→Prop}
noncomputable def CM.ret(a:α)(h:J a):CM α J:=fun i O=>some ⟨a,i,O,fun P=>P,fun k=>⟨h,k⟩⟩
noncomputable def CM.nil:CM α J:=fun a a=>none
noncomputable def CM.aK(m:CM α J)(k:∀a,CM β (fun b=>J a→L b)):CM β L:=fun i O=>match m i O with |none=>none|some r=>match k r.a r.i r.O with |none=>none|some s=>some ⟨s.a,s.i,s.O,fun P=>r.c (s.c P),fun h=>(r.pf h).elim fun h1 h=>(s.pf h).imp (fun h2=>h2 h1) id⟩
noncomputable def CM.map(m:CM α J)(f:α→β)(h:∀a,J a→L (f a)):CM β L:=fun i O=>match m i O with |none=>none|some r=>some ⟨f r.a,r.i,r.O,r.c,fun q=>(r.pf q).imp (h _) id⟩
noncomputable def cL(b:Bool):CM Unit (fun a=>b=true):=fun i O=>match b with |true=>some ⟨(),i,O,fun P=>P,fun h=>⟨rfl,h⟩⟩|false=>none
noncomputable def Rv(i:Nat):List uC→Option (Bool×List uC)|.no j b::O=>bif Nat.beq j i then some (b,O) else none|_=>none
noncomputable def Mw(i:Nat):List uC→Option (V×List uC)|.val j b::O=>bif Nat.beq j i then some (b,O) else none|_=>none
noncomputable def FL(i:Nat):List uC→Option (V×AH×List uC)|.upd j b H::O=>bif Nat.beq j i then some (b,H,O) else none|_=>none
noncomputable def ask(b:Bool):CM Bool (fun x=>b=x):=fun i O=>match Rv i O with |some (x,O)=>some ⟨x,i+1,O,fun P=>b=x∧P,fun h=>h⟩|none=>match b with |true=>some ⟨true,i+1,O,fun P=>P,fun h=>⟨rfl,h⟩⟩|false=>some ⟨false,i+1,O,fun P=>P,fun h=>⟨rfl,h⟩⟩
noncomputable def mZ(o:Option V):CM V (fun v=>o=some v):=fun i O=>match Mw i O with |some (x,O)=>some ⟨x,i+1,O,fun P=>o=some x∧P,fun h=>h⟩|none=>match o with |some x=>some ⟨x,i+1,O,fun P=>P,fun h=>⟨rfl,h⟩⟩|none=>none
noncomputable def n_(m:M V)(H:AH):CM (V×AH) (fun r=>m H=some r):=fun i O=>match FL i O with |some (x,H',O)=>some ⟨(x,H'),i+1,O,fun P=>m H=some (x,H')∧P,fun h=>h⟩|none=>match m H with |some x=>some ⟨x,i+1,O,fun P=>P,fun h=>⟨rfl,h⟩⟩|none=>none
noncomputable def Rw(m:M Unit)(H:AH):CM AH (fun H'=>m H=some ((),H')):=fun i O=>match FL i O with |some (aM,H',O)=>some ⟨H',i+1,O,fun P=>m H=some ((),H')∧P,fun h=>h⟩|none=>match m H with |some x=>some ⟨x.2,i+1,O,fun P=>P,fun h=>⟨rfl,h⟩⟩|none=>none
noncomputable def CM.obj(H:AH)(k:Nat):CM aE (fun o=>H[k]?=some o):=fun i O=>match O with |.obj o::O=>some ⟨o,i,O,fun P=>H[k]?=some o∧P,fun h=>h⟩|_=>none
noncomputable def CM.call(Z:V→AH→Prop):CM (V×AH) (fun r=>Z r.1 r.2):=fun i O=>match O with |.call v H::O=>some ⟨(v,H),i,O,fun P=>Z v H∧P,fun h=>h⟩|_=>none
noncomputable def CM.ev(Z:V→AH→Prop):CM (V×AH) (fun r=>Z r.1 r.2):=fun i O=>match O with |.ev v H::O=>some ⟨(v,H),i,O,fun P=>Z v H∧P,fun h=>h⟩|_=>none
noncomputable def CM.ex(Z:Fl→ah→AH→Prop):CM (Fl×ah×AH) (fun r=>Z r.1 r.2.1 r.2.2):=fun i O=>match O with |.ex f e H::O=>some ⟨(f,e,H),i,O,fun P=>Z f e H∧P,fun h=>h⟩|_=>none
noncomputable def CM.cmp(Z:ah→Acc→AH→Prop):CM (ah×Acc×AH) (fun r=>Z r.1 r.2.1 r.2.2):=fun i O=>match O with |.cmp e a H::O=>some ⟨(e,a,H),i,O,fun P=>Z e a H∧P,fun h=>h⟩|_=>none
noncomputable def CM.ks:CM (Option (List Str)) (fun a=>True):=fun i O=>match O with |.ks l::O=>some ⟨some l,i,O,fun P=>P,fun h=>⟨trivial,h⟩⟩|O=>some ⟨none,i,O,fun P=>P,fun h=>⟨trivial,h⟩⟩
theorem CM.ok{m:CM α J}{O:List uC}{c:Prop}{a:α}(F:c)(h:(m 0 O).map (fun r=>(r.a,r.c True))=some (a,c)):J a:=by
 induction e:m 0 O with
 |none=>obtain h:=e▸h;exact nE h
 |some r=>rw[e] at h;obtain⟨rfl,rfl⟩:=Prod.mk.inj (Option.some.inj h);exact(r.pf F).1
structure Fz(O:List uC)(c:Prop):Prop where
 h:c
theorem Fz.nil:Fz [] True:=⟨trivial⟩
section
variable{O:List uC}{c:Prop}{H H':AH}{v:V}
theorem Fz.obj{k:Nat}{o:aE}(h:H[k]?=some o)(r:Fz O c):Fz (.obj o::O) (H[k]?=some o∧c):=⟨h,r.h⟩
theorem Fz.no(i:Nat){b x:Bool}(h:b=x)(r:Fz O c):Fz (.no i x::O) (b=x∧c):=⟨h,r.h⟩
theorem Fz.val(i:Nat){o:Option V}(h:o=some v)(r:Fz O c):Fz (.val i v::O) (o=some v∧c):=⟨h,r.h⟩
theorem Fz.upd(i:Nat){m:M V}(h:m H=some (v,H'))(r:Fz O c):Fz (.upd i v H'::O) (m H=some (v,H')∧c):=⟨h,r.h⟩
theorem Fz.xV(i:Nat){m:M Unit}(h:m H=some ((),H'))(r:Fz O c):Fz (.upd i .none H'::O) (m H=some ((),H')∧c):=⟨h,r.h⟩
theorem Fz.ks(l:List Str)(r:Fz O c):Fz (.ks l::O) c:=⟨r.h⟩
theorem Fz.call{d:Nat}{f:V}{vs:List V}(h:aC d f vs H v H')(r:Fz O c):Fz (.call v H'::O) (aC d f vs H v H'∧c):=⟨h,r.h⟩
theorem Fz.ev{d:Nat}{sc:Scope}{env:ah}{e:Expr}(h:bN d sc env e H v H')(r:Fz O c):Fz (.ev v H'::O) (bN d sc env e H v H'∧c):=⟨h,r.h⟩
theorem Fz.loop{d:Nat}{sc:Scope}{env aj:ah}{t:Expr}{b:List Stmt}{xs:List V}{fl:Fl}(h:bX d sc t b xs env H fl aj H')(r:Fz O c):Fz (.ex fl aj H'::O) (bX d sc t b xs env H fl aj H'∧c):=⟨h,r.h⟩
theorem Fz.kP{d:Nat}{sc:Scope}{env aj:ah}{t:Expr}{b:List Stmt}{k m:Nat}{fl:Fl}(h:iC d sc t b k m env H fl aj H')(r:Fz O c):Fz (.ex fl aj H'::O) ((∃m,iC d sc t b k m env H fl aj H')∧c):=⟨⟨m,h⟩,r.h⟩
theorem Fz.cmp{d:Nat}{au:Scope}{env aj:ah}{g:Comprehension}{T:iW}{xs:List V}{ac fu:Acc}(h:aB d au g T xs env ac H aj fu H')(r:Fz O c):Fz (.cmp aj fu H'::O) (aB d au g T xs env ac H aj fu H'∧c):=⟨h,r.h⟩
end
end
section
variable(d:Nat)
abbrev CE(sc:Scope)(env:ah)(e:Expr)(H:AH):=CM (V×AH) fun r=>bN (d+1) sc env e H r.1 r.2
abbrev CT(sc:Scope)(env:ah)(e:Expr)(H:AH):=CM (Bool×AH) fun r=>nN (d+1) sc env e H r.1 r.2
abbrev CA(sc:Scope)(env:ah)(t:Expr)(v:V)(H:AH):=CM (ah×AH) fun r=>n6 (d+1) sc env t v H r.1 r.2
abbrev CS(sc:Scope)(env:ah)(st:Stmt)(H:AH):=CM (Fl×ah×AH) fun r=>kH (d+1) sc env st H r.1 r.2.1 r.2.2
abbrev WA(sc:Scope)(env:ah)(b:List Stmt)(H:AH):=CM (Fl×ah×AH) fun r=>n7 (d+1) sc env b H r.1 r.2.1 r.2.2
abbrev CL(sc:Scope)(env:ah)(es:List Expr)(H:AH):=CM (List V×AH) fun r=>jY (d+1) sc env es H r.1 r.2
structure RL where
 e:∀sc env e H,CE d sc env e H
 t:∀sc env e H,CT d sc env e H
 a:∀sc env t v H,CA d sc env t v H
 x:∀sc env s H,CS d sc env s H
variable{d}
theorem bF{b:Bool}(h:(!b)=true):b=false:=Bool.not_eq_true' _|>.mp h
noncomputable def gw(R:RL d)(sc:Scope)(env:ah):∀(es:List Expr) (H:AH),CL d sc env es H|[],H=>.ret ([],H) .nil|e::es,H=>.aK (cL (!isStarred e)) fun c=>.aK (R.e sc env e H) fun a=>.map (gw R sc env es a.2) (fun b=>(a.1::b.1,b.2)) fun b h3 h2 h1=>.cons (bF h1) h2 h3
noncomputable def m4(R:RL d)(sc:Scope):∀(b:List Stmt) (env:ah) (H:AH),WA d sc env b H|[],env,H=>.ret (.next,env,H) L0|s::b,env,H=>.aK (R.x sc env s H) fun r=>match r with |(.next,env,H)=>.map (m4 R sc b env H) (fun q=>q) fun q h2 h1=>bq h1 h2|(.cont,env,H)=>.ret (.cont,env,H) fun h1=>G8 h1|(.ret v,env,H)=>.ret (.ret v,env,H) fun h1=>FA h1
noncomputable def sj(R:RL d)(sc:Scope):∀(ts:List Expr) (vs:List V) (env:ah) (H:AH),CM (ah×AH) fun r=>As (d+1) sc env ts vs H r.1 r.2|[],[],env,H=>.ret (env,H) .nil|t::ts,v::vs,env,H=>.aK (cL (!isStarred t)) fun b=>.aK (R.a sc env t v H) fun r=>.map (sj R sc ts vs r.1 r.2) (fun q=>q) fun q h3 h2 h1=>.cons (bF h1) h2 h3|aM,bL,gn,tR=>.nil
noncomputable def FN(b:Bool)(f:V)(o:aE)(H:AH):V×AH:=match b with |true=>(.ref H.length,H++[o])|false=>(f,H)
theorem m5(b:Bool)(f:V)(o:aE)(H:AH):(if b=true then gC o else pure f:M V) H=some ((FN b f o H).1,(FN b f o H).2):=by induction b<;>rfl
noncomputable def live:aE→Bool|.gone=>false|_=>true
theorem dW{H:AH}{k:Nat}{o:aE}{α:Type}{f:aE→M α}{r:Option (α×AH)}(h:H[k]?=some o)(hn:live o=true)(hf:f o H=r):M.aK (hget k) f H=r:=by unfold M.aK hget;refine h▸?_;induction o<;>first|exact hf|exact bE hn
def rObj{f:aE→M V}(H:AH)(k:Nat):CM (V×AH) fun r=>M.aK (hget k) f H=some (r.1,r.2):=.aK (CM.obj H k) fun o=>.aK (cL (live o)) fun a=>.map (n_ (f o) H) (fun r=>r) fun r h3 h2 h1=>dW h1 h2 h3
def AI{f:aE→M Unit}(H:AH)(k:Nat):CM AH fun H'=>M.aK (hget k) f H=some ((),H'):=.aK (CM.obj H k) fun o=>.aK (cL (live o)) fun a=>.map (Rw (f o) H) (fun r=>r) fun r h3 h2 h1=>dW h1 h2 h3
def Rx(C:Cx)(k:Nat)(a:Str):aE→M V
|.inst c fs=>match fs.lookup a with
  |some v=>if oz C c a&&pI v then pure v else M.fail
  |none=>match (C.fW.lookup c).bind fun d=>d.meths.lookup a with |some f=>pure (.bm k f)|none=>M.fail
|_=>M.fail
def AJ(C:Cx)(k:Nat)(a:Str)(v:V):aE→M Unit
|.inst c fs=>if oz C c a&&sizeOk (fs.length+1) then fC k (.inst c (aP fs a v)) else M.fail
|.oq c fs=>match v with
  |.lG ..=>if a=="read"&&fs.isEmpty then fC k (.oq c [(a,v)]) else M.fail
  |_=>M.fail
|_=>M.fail
def Mx(C:Cx)(o:V)(x:Str)(H:AH):CM (V×AH) fun r=>getAttrA C o x H=some (r.1,r.2):=match o with |.ref k=>rObj (f:=Rx C k x) H k|_=>.nil
def My(C:Cx)(o:V)(x:Str)(v:V)(H:AH):CM AH fun H'=>setAttrA C o x v H=some ((),H'):=match o with |.ref k=>AI (f:=AJ C k x v) H k|_=>.nil
def FO(o i v:V)(H:AH):CM AH fun H'=>ja o i v H=some ((),H'):=match o,i with |.ref k,.int j=>AI H k|.ref k,.str x=>AI H k|aM,bL=>.nil
def Mz(v:V)(H:AH):CM Bool fun b=>NJ v H=some (b,H):=match v with
|.none=>.ret false rfl|.bool b=>.ret b rfl|.int i=>.ret (i !=0) rfl|.str s=>.ret (s.length !=0) rfl|.lst xs=>.ret (xs.length !=0) rfl|.ref k=>.aK (CM.obj H k) fun o=>match o with |.lst xs=>.ret (xs.length !=0) fun h=>dW h rfl rfl|_=>.nil
|_=>.nil
def AK(o:Option aE)(i:V):Option V:=match o with |some (.lst xs)=>qN (.lst xs) i|some (.bf kvs)=>qN (.bf kvs) i|_=>none
theorem item_at{H:AH}{k:Nat}{o:aE}{i c:V}(h:H[k]?=some o)(hr:AK (some o) i=some c):item H (.ref k) i=some c:=by show qN (match H[k]? with |some (.lst xs)=>.lst xs|some (.bf kvs)=>.bf kvs|_=>.ref k) i=some c;rw[h];induction o<;>first|exact hr|exact nE hr
def FP(a i:V)(H:AH):CM V fun v=>item H a i=some v:=match a with |.ref k=>.aK (CM.obj H k) fun o=>.map (mZ (AK (some o) i)) (fun r=>r) fun r h2 h1=>item_at h1 h2|a=>mZ _
end
section
variable{d:Nat}
def HJ{sc:Scope}{env:ah}{H:AH}{q:Nat}{p:Pos}:∀c:Const,CE d sc env (.Constant c q p) H|.none=>.ret (.none,H) G6|.bool b=>.ret (.bool b,H) G5|.int i=>.ret (.int i,H) LQ|.str s=>.map (cL (Nat.blt s.length ak)) (fun a=>(.str s,H)) fun a h=>LR (Nat.le_of_ble_eq_true h)|_=>.nil
theorem AL{n m:Nat}(h:Nat.blt n m=true):n<m:=Nat.le_of_ble_eq_true h
def MA(f:V)(vs:List V)(H:AH)(p:Pos):CM (V×AH) fun r=>callable f=true∧(∀c,f=.cls c→(G.C.fW.lookup c).isSome=true)∧o6 (d+1) f vs H r.1 r.2:=match f with
|.blt i=>match decEq i "sorted" with |.isTrue e=>.map (n_ (pJ vs) H) (fun r=>r) fun r h=>⟨rfl,(fun g e=>nomatch e),e▸AG h⟩|.isFalse _=>.map (n_ (i_ i vs) H) (fun r=>r) fun r h=>⟨rfl,(fun g e=>nomatch e),Mp h⟩
|.typ i=>.map (n_ (gF (G.C.mu p) i vs) H) (fun r=>r) fun r h=>⟨rfl,(fun g e=>nomatch e),Mq h⟩|.cls c=>.aK (cL (G.C.fW.lookup c).isSome) fun g=>.map (.call (aC (d+1) (.cls c) vs H)) (fun r=>r) fun r h h0=>⟨rfl,fun g e=>V.cls.inj e▸h0,h.wp⟩|.fn k=>.map (.call (aC (d+1) (.fn k) vs H)) (fun r=>r) fun r h=>⟨rfl,(fun g e=>nomatch e),h.wp⟩|.bm k j=>.map (.call (aC (d+1) (.bm k j) vs H)) (fun r=>r) fun r h=>⟨rfl,(fun g e=>nomatch e),h.wp⟩|.lG a b c e=>.map (.call (aC (d+1) (.lG a b c e) vs H)) (fun r=>r) fun r h=>⟨rfl,(fun g e=>nomatch e),h.wp⟩|_=>.nil
def eqStr(x y:Str):CM Unit fun a=>x=y:=.map (cL (x==y)) (fun a=>()) fun a h=>eq_of_beq h
def MB(R:RL d)(sc:Scope)(env:ah)(ov:V)(m:Str)(es:List Expr)(H:AH):CM (V×AH) fun r=>jq (d+1) sc env ov m es H r.1 r.2:=match ov with
|.ref k=>.aK (CM.obj H k) fun o=>match o with
 |.inst c fs=>match h1:fs.lookup m,h2:G.C.fW.lookup c with
  |none,some cd=>match h3:cd.meths.lookup m with |some f=>.aK (gw R sc env es H) fun vs=>.map (.call (aC (d+1) (.fn f) (.ref k::vs.1) vs.2)) (fun r=>r) fun r h hl hk=>Hg hk h1 h2 h3 hl h|none=>.nil
  |aM,bL=>.nil
 |.oq cl fs=>match h1:fs.lookup (Str.ofString "read") with |some g=>.aK (eqStr m (Str.ofString "read")) fun a=>.aK (cL (yX g)) fun a=>.aK (gw R sc env es H) fun vs=>.map (.call (aC (d+1) g vs.1 vs.2)) (fun r=>r) fun r h hl hg hm hk=>hm▸L8 hk h1 hg hl h|none=>.nil
 |.lst us=>.aK (gw R sc env es H) fun vs=>.aK (CM.obj vs.2 k) fun o=>(match o with |.lst N4=>.map (n_ (tO k m vs.1 (.lst N4)) vs.2) (fun r=>r) fun r h nO hl hk=>HE hk hl nO h|_=>.nil)|.bf kvs=>.aK (eqStr m (Str.ofString "get")) fun a=>.aK (gw R sc env es H) fun vs=>.aK (CM.obj vs.2 k) fun o=>match o with |.bf HD=>.map (n_ (lN HD "get" vs.1) vs.2) (fun r=>r) fun r h nO hl hm hk=>hm▸HH hk hl nO h|_=>.nil
 |_=>.nil
|.str x=>.aK (gw R sc env es H) fun vs=>.map (n_ (iF x m vs.1) vs.2) (fun r=>r) fun r h hl=>Mr hl h|.lst us=>.aK (gw R sc env es H) fun vs=>.map (n_ (vy us m vs.1) vs.2) (fun r=>r) fun r h hl=>HF hl h|.tabI tb=>.aK (eqStr m (Str.ofString "get")) fun a=>.aK (gw R sc env es H) fun vs=>.map (n_ (qQ tb "get" vs.1) vs.2) (fun r=>r) fun r h hl hm=>hm▸Ms hl h|.bf kvs=>.aK (eqStr m (Str.ofString "get")) fun a=>.aK (gw R sc env es H) fun vs=>.map (n_ (lN kvs "get" vs.1) vs.2) (fun r=>r) fun r h hl hm=>hm▸HG hl h|_=>.nil
noncomputable def FQ(R:RL d)(sc:Scope)(env:ah)(op:BoolOp):∀(es:List Expr) (H:AH),CM (V×AH) fun r=>Ma (d+1) sc env op es H r.1 r.2
|[e],H=>.map (R.e sc env e H) (fun r=>r) fun r h=>Mb h|e::e2::es,H=>.aK (R.e sc env e H) fun a=>.aK (Mz a.1 a.2) fun u=>.aK (ask u) fun w=>match h:FF op w with |true=>.ret a fun h3 h2 h1=>FG h1 h2 (by rw[h3,h];exact⟨rfl,rfl⟩)|false=>.map (FQ R sc env op (e2::es) a.2) (fun r=>r) fun r h4 h3 h2 h1=>FG h1 h2 (by simp only[h3,h];exact h4)
|aM,bL=>.nil
noncomputable def uD(R:RL d)(sc:Scope)(env:ah):∀(op:BoolOp) (es:List Expr) (H:AH),CM (Bool×AH) fun r=>n8 (d+1) sc env op es H r.1 r.2
|.And,[],H=>.ret (true,H) Ht|.Or,[],H=>.ret (false,H) Mc|.And,e::es,H=>.aK (R.t sc env e H) fun a=>.aK (ask a.1) fun w=>match w with |false=>.ret (false,a.2) fun h2 h1=>Hu (h2▸h1)|true=>.map (uD R sc env .And es a.2) (fun r=>r) fun r h3 h2 h1=>Hv (h2▸h1) h3
|.Or,e::es,H=>.aK (R.t sc env e H) fun a=>.aK (ask a.1) fun w=>match w with |true=>.ret (true,a.2) fun h2 h1=>Me (h2▸h1)|false=>.map (uD R sc env .Or es a.2) (fun r=>r) fun r h3 h2 h1=>Mf (h2▸h1) h3
def FT(R:RL d)(sc:Scope)(env:ah):∀(e:Option Expr) (H:AH),CM (Option Int×AH) fun r=>Mh (d+1) sc env e H r.1 r.2|none,H=>.ret (none,H) Hx|some e,H=>.aK (R.e sc env e H) fun a=>match a with |(.int j,H)=>.ret (some j,H) fun h=>Hy h|_=>.nil
def MC{α:Type}(o:Option α):CM α fun r=>o=some r:=match o with |some r=>.ret r rfl|none=>.nil
def AM(v:V)(H:AH):CM ((List V×Option (Nat×aE))×AH) fun r=>srcOf v H=some r:=match v with
|.ref k=>.aK (CM.obj H k) fun o=>match o with |.lst xs=>.ret ((xs,some (k,.lst xs)),H.set k .gone) fun h=>dW h rfl rfl|.bf kvs=>.ret ((kvs.map fun kv=>.str kv.1,some (k,.bf kvs)),H.set k .gone) fun h=>dW h rfl rfl|_=>.nil
|v=>MC (srcOf v H)
def FU(v:V)(H:AH):CM ((List (Str×V)×Option (Nat×aE))×AH) fun r=>Ci v H=some r:=match v with
|.bf kvs=>.ret ((kvs,none),H) rfl|.ref k=>.aK (CM.obj H k) fun o=>match o with |.bf kvs=>.ret ((kvs,some (k,.bf kvs)),H.set k .gone) fun h=>dW h rfl rfl|_=>.nil
|_=>.nil
structure Ry(d:Nat)(sc:Scope)(env:ah)(t e:Expr)(H:AH)(r:(List V×Option (Nat×aE))×AH):Prop where
 src:r_ d sc env t e H r.1.1 r.1.2 r.2
 fold:∀e' x,foldedSetIterable e e' x=pure x
abbrev MD(d:Nat)(sc:Scope)(env:ah)(t e:Expr)(H:AH):=CM ((List V×Option (Nat×aE))×AH) fun r=>Ry (d+1) sc env t e H r
def gY(R:RL d)(sc:Scope)(env:ah)(t e:Expr)(H:AH)(he:∀e' x,foldedSetIterable e e' x=pure x):MD d sc env t e H:=.aK (R.e sc env e H) fun a=>.map (AM a.1 a.2) (fun r=>r) fun r h2 h1=>⟨lq h1 h2,he⟩
def HK(R:RL d)(sc:Scope)(env:ah)(t e:Expr)(H:AH):MD d sc env t e H:=match e with
|.Call f es ks p=>match f,es,ks with
 |.Name f q,[x],[]=>match decEq f "enumerate" with
  |.isTrue hf=>match t with
   |.Tuple ts tk tp=>.aK (R.e sc env (.Name f q) H) fun a=>match a with |(.typ i,H₁)=>.aK (cL (i=="enumerate")) fun g=>.aK (cL (!isStarred x)) fun g=>.aK (R.e sc env x H₁) fun b=>.aK (AM b.1 b.2) fun r=>.map (cL (enumSrc b.1 r.1.2)) (fun g=>((aR 0 r.1.1,r.1.2),r.2)) fun g h5 h4 h3 h2 h1 h0=>⟨by subst hf;cases eq_of_beq h1;exact HA h0 (.cons (bF h2) h3 .nil) h4 h5,fun g g=>rfl⟩|_=>.nil
   |_=>.nil
  |.isFalse _=>gY R sc env t _ H fun g g=>rfl
 |.Attribute o m ap,[],[]=>match decEq m "items" with
  |.isTrue hm=>match t with |.Tuple ts tk tp=>.aK (cL (!dh o)) fun g=>.aK (cL (ap.endLine==p.line)) fun g=>.aK (R.e sc env o H) fun a=>.map (FU a.1 a.2) (fun r=>((r.1.1.map fun kv=>.tup [.str kv.1,kv.2],r.1.2),r.2)) fun r h4 h3 h2 h1=>⟨by subst hm;exact Dr (bF h1) h2 h3 h4,fun g g=>rfl⟩|_=>.nil
  |.isFalse _=>match decEq m "values" with |.isTrue hm=>.aK (cL (!dh o)) fun g=>.aK (cL (ap.endLine==p.line)) fun g=>.aK (R.e sc env o H) fun a=>.map (FU a.1 a.2) (fun r=>((r.1.1.map (·.2),r.1.2),r.2)) fun r h4 h3 h2 h1=>⟨by subst hm;exact Ay (bF h1) h2 h3 h4,fun g g=>rfl⟩|.isFalse _=>gY R sc env t _ H fun g g=>rfl
 |aM,bL,gn=>gY R sc env t _ H fun g g=>rfl
|.Name x q=>gY R sc env t _ H fun g g=>rfl|.Attribute x q p=>gY R sc env t _ H fun g g=>rfl|.Subscript x q p=>gY R sc env t _ H fun g g=>rfl|.Constant c k q=>gY R sc env t _ H fun g g=>rfl|.BinOp a o b q=>gY R sc env t _ H fun g g=>rfl|_=>.nil
noncomputable def sq(o:Option (Nat×aE))(H:AH):AH:=match o with |none=>H|some (k,o)=>H.set k o
theorem jr(o:Option (Nat×aE))(H:AH):ie o H=some ((),sq o H):=by induction o<;>rfl
def Dy(R:RL d)(sc:Scope)(env:ah)(au:Scope)(out:Out)(gens:List Comprehension)(H:AH):CM (Acc×AH) fun r=>n9 (d+1) sc env au out gens H r.1 r.2:=match gens with |[]=>.nil|g::gs=>.aK (cL (!gr sc&&(fY sc au&&g.is_async==0))) fun a=>.aK (HK R sc env g.target g.iter H) fun r=>match hc:eS au env with |some cQ=>.map (.cmp (fun aj ac H'=>aB (d+1) au g (dI (d+1) au out gs) r.1.1 cQ out.start r.2 aj ac H')) (fun q=>(q.2.1,sq r.1.2 q.2.2)) fun q h2 h1 h0=>have w:=bj h0;have w2:=bj w.2;.mk (bF w.1) w2.1 (eq_of_beq w2.2) h1.fold hc h1.src h2 (jr ..)|none=>.nil
end
section
variable{d:Nat}
noncomputable def sy(c:Bool)(ac:Acc)(H:AH):V×AH:=match ac with |.l vs=>FN c (.lst vs) (.lst vs) H|.d kvs=>FN c (.bf kvs) (.bf kvs) H
theorem lu(c:Bool)(ac:Acc)(H:AH):xN c ac H=some ((sy c ac H).1,(sy c ac H).2):=by induction ac<;>exact m5 ..
def rE(R:RL d)(sc:Scope)(env:ah)(e:Expr)(H:AH):CE d sc env e H:=match e with
|.Constant c q p=>HJ c|.Name x p=>.aK (cL (!(x==Str.ofString "__debug__"))) fun g=>.map (mZ (dD G.C sc env x)) (fun v=>(v,H)) fun v h h1=>qm (bF h1) h|.BinOp l op r p=>.aK (R.e sc env l H) fun a=>.aK (R.e sc env r a.2) fun b=>.map (mZ (binop op a.1 b.1)) (fun v=>(v,b.2)) fun v h3 h2 h1=>LL h1 h2 h3|.UnaryOp .USub x p=>.aK (R.e sc env x H) fun a=>match a with |(.int j,H)=>.ret (.int (-j),H) fun h=>LP h|_=>.nil
|.BoolOp op es p=>.map (FQ R sc env op es H) (fun r=>r) fun r h=>Au h|.Compare l [op] [r] p=>.aK (cL (!(behindInMarks op r))) fun g=>.aK (R.e sc env l H) fun a=>.aK (R.e sc env r a.2) fun b=>.map (mZ (bI b.2 op a.1 b.1)) (fun v=>(v,b.2)) fun v h3 h2 h1 h0=>LM (bF h0) h1 h2 h3|.IfExp t a b p=>.aK (R.t sc env t H) fun u=>.aK (ask u.1) fun w=>match w with |true=>.map (R.e sc env a u.2) (fun r=>r) fun r h3 h2 h1=>LN (h2▸h1) h3|false=>.map (R.e sc env b u.2) (fun r=>r) fun r h3 h2 h1=>LO (h2▸h1) h3
|.Dict [] [] p=>.ret (FN (G.C.mu p) (.bf []) (.bf []) H) (Dq (m5 ..))|.Dict [some k] [v] p=>.aK (R.e sc env k H) fun a=>match a with |(.str x,H)=>.map (R.e sc env v H) (fun u=>FN (G.C.mu p) (.bf [(x,u.1)]) (.bf [(x,u.1)]) u.2) fun u h2 h1=>Dv h1 h2 (m5 ..)|_=>.nil
|.List es p=>.aK (gw R sc env es H) fun vs=>.map (cL (Nat.blt vs.1.length ak)) (fun g=>FN (G.C.mu p) (.lst vs.1) (.lst vs.1) vs.2) fun w h2 h1=>G7 h1 (AL h2) (m5 ..)|.Tuple es q p=>.aK (gw R sc env es H) fun vs=>.map (cL (Nat.blt vs.1.length ak)) (fun g=>(.tup vs.1,vs.2)) fun w h2 h1=>LS h1 (AL h2)|.Attribute o x p=>.aK (cL (!dh o)) fun g=>.aK (R.e sc env o H) fun a=>.map (Mx G.C a.1 x a.2) (fun r=>r) fun r h2 h1 h0=>LU (bF h0) h1 h2|.Subscript o i p=>match i with |.Slice lo hi none q=>.aK (R.e sc env o H) fun a=>.aK (FT R sc env lo a.2) fun l=>.aK (FT R sc env hi l.2) fun r=>.map (mZ (slice r.2 a.1 l.1 r.1)) (fun v=>(v,r.2)) fun v h4 h3 h2 h1=>Dp h1 h2 h3 h4|i=>.aK (R.e sc env o H) fun a=>.aK (R.e sc env i a.2) fun b=>.map (FP a.1 b.1 b.2) (fun v=>(v,b.2)) fun v h3 h2 h1=>G4 h1 h2 h3
|.Call f es ks p=>match f,ks with |.Attribute o m ap,[]=>.aK (cL (!dh o)) fun g=>.aK (cL (!es.any isStarred)) fun g=>.aK (cL (ap.endLine==p.line)) fun g=>.aK (cL (Nat.blt es.length 29)) fun g=>.aK (R.e sc env o H) fun a=>.map (MB R sc env a.1 m es a.2) (fun r=>r) fun r h5 h4 h3 h2 h1 h0=>Di (bF h0) (bF h1) h2 (AL h3) h4 h5|.Name f q,[]=>.aK (R.e sc env (.Name f q) H) fun a=>.aK (gw R sc env es a.2) fun vs=>.map (MA a.1 vs.1 vs.2 p) (fun r=>r) fun r h3 h2 h1=>Dh h1 h2 h3.1 h3.2.1 h3.2.2|f,ks=>.map (.ev (bN (d+1) sc env (.Call f es ks p) H)) (fun r=>r) fun r h=>h
|.ListComp x gens au p=>.map (Dy R sc env au (.e x) gens H) (fun r=>sy (G.C.mu p) r.1 r.2) fun r h=>uA h (lu ..)|.DictComp x y gens au p=>.map (Dy R sc env au (.kv x y) gens H) (fun r=>sy (G.C.mu p) r.1 r.2) fun r h=>uA h (lu ..)|.Lambda args body iL p=>match hp:cB args,hc:eS iL env with |some ps,some cQ=>.map (cL (!gr sc&&((cQ.all fun kv=>G.C.wo kv.1)&&fY sc iL))) (fun g=>FN (G.C.mu p) (.lG ps body iL cQ) (.oq (.lG ps body iL cQ) []) H) fun g h=>have w:=bj h;have w2:=bj w.2;Mt (bF w.1) hp hc w2.1 w2.2 (m5 ..)|aM,bL=>.nil
|e=>.map (.ev (bN (d+1) sc env e H)) (fun r=>r) fun r h=>h
end
section
variable{d:Nat}
def AN(R:RL d)(sc:Scope)(env:ah)(e:Expr)(H:AH)(he:∀e' w,isTrue e e' w=(do let v←w;standAt e.pos;holding [v] (truthy v))):CT d sc env e H:=.aK (R.e sc env e H) fun a=>.map (Mz a.1 a.2) (fun b=>(b,a.2)) fun b h2 h1=>Mg he h1 h2
def rT(R:RL d)(sc:Scope)(env:ah)(e:Expr)(H:AH):CT d sc env e H:=match e with
|.UnaryOp .Not x p=>.map (R.t sc env x H) (fun r=>(!r.1,r.2)) fun r h=>LV h|.BoolOp op es p=>.map (uD R sc env op es H) (fun r=>r) fun r h=>Av h|.IfExp t a b p=>.aK (R.t sc env t H) fun u=>.aK (ask u.1) fun w=>match w with |true=>.map (R.t sc env a u.2) (fun r=>r) fun r h3 h2 h1=>LW (h2▸h1) h3|false=>.map (R.t sc env b u.2) (fun r=>r) fun r h3 h2 h1=>LY (h2▸h1) h3
|.Compare l [op] [r] p=>.aK (R.e sc env (.Compare l [op] [r] p) H) fun a=>match a with |(.bool b,H)=>.ret (b,H) fun h=>LZ h|_=>.nil
|.Name x p=>AN R sc env _ H fun c c=>rfl|.Call f es ks p=>AN R sc env _ H fun c c=>rfl|.Attribute o x p=>AN R sc env _ H fun c c=>rfl|.Subscript o i p=>AN R sc env _ H fun c c=>rfl|.BinOp l op r p=>AN R sc env _ H fun c c=>rfl|_=>.nil
def nameOk(C:Cx)(sc:Scope)(env:ah)(y:Str):Bool:=match kindOf sc y with |some .local=>true|some .cell=>!C.wo y||!(a_ env y).isSome|_=>false
set_option tactic.hygienic true in
theorem iw{sc:Scope}{env:ah}{y:Str}{v:V}{H:AH}{p:Pos}(h:nameOk G.C sc env y=true):n6 d sc env (.Name y p) v H (aP env y v) H∧(kindOf sc y=some .local∨kindOf sc y=some .cell):=by
 unfold nameOk at h;split at h
 ·rename_i e;exact⟨L5 e,.inl e⟩
 ·rename_i e;refine⟨G_ e fun hw=>?_,.inr e⟩;rw[hw] at h;induction e:a_ env y with |none=>rfl|some v=>rw[e] at h;exact bE h
 ·exact bE h
def rA(R:RL d)(sc:Scope)(env:ah)(t:Expr)(v:V)(H:AH):CA d sc env t v H:=match t with
|.Name y p=>.map (cL (nameOk G.C sc env y)) (fun c=>(aP env y v,H)) fun c h=>(iw h).1|.Tuple ts q p=>match v with |.tup vs=>.map (sj R sc ts vs env H) (fun r=>r) fun r h=>FE h|_=>.nil
|.Attribute o y p=>.aK (R.e sc env o H) fun a=>.map (My G.C a.1 y v a.2) (fun H=>(env,H)) fun H h2 h1=>L6 h1 h2|.Subscript o i p=>.aK (R.e sc env o H) fun a=>.aK (R.e sc env i a.2) fun b=>.map (FO a.1 b.1 v b.2) (fun H=>(env,H)) fun H h3 h2 h1=>L7 h1 h2 h3|_=>.nil
noncomputable def isNm(n:Str):Expr→Bool|.Name y _=>y==n|_=>false
theorem Dz{n:Str}{t:Expr}(h:isNm n t=true):∃p,t=.Name n p:=by induction t using Expr.casesOn<;>first|exact nomatch (show false=true from h)|exact⟨_,congrArg (Expr.Name · _) (eq_of_beq h)⟩
noncomputable def namesOk(C:Cx)(sc:Scope):List Expr→List Str→List V→ah→Bool|[],ns,vs,aM=>ns.isEmpty&&vs.isEmpty|t::ts,ns,vs,env=>match ns with |[]=>false|n::ns=>match vs with |[]=>false|v::vs=>isNm n t&&(nameOk C sc env n&&namesOk C sc ts ns vs (aP env n v))
structure DA(d:Nat)(sc:Scope)(ts:List Expr)(ns:List Str)(vs:List V)(env:ah)(H:AH):Prop where
 as:As d sc env ts vs H ((ns.zip vs).foldl (fun env p=>aP env p.1 p.2) env) H
 nm:ts.map Mi=ns.map some
 kd:∀x∈ns,kindOf sc x=some .local∨kindOf sc x=some .cell
 ln:ns.length=vs.length
theorem uE{sc:Scope}{H:AH}{ts:List Expr}{ns:List Str}{vs:List V}{env:ah}(h:namesOk G.C sc ts ns vs env=true):DA d sc ts ns vs env H:=by
 induction ts generalizing ns vs env with
 |nil=>have h1:=bj h;cases List.isEmpty_iff.mp h1.1;cases List.isEmpty_iff.mp h1.2;exact⟨.nil,rfl,(fun a h=>nomatch h),rfl⟩
 |cons t ts ih=>induction ns using List.casesOn with
  |nil=>exact nomatch (show false=true from h)|cons n ns=>induction vs using List.casesOn with
   |nil=>exact nomatch (show false=true from h)|cons v vs=>
    have h1:=bj h;obtain h2:=bj h1.2;have ih:=ih h2.2
    obtain⟨p,rfl⟩:=Dz h1.1;have q:=iw (d:=d) (v:=v) (H:=H) (p:=p) h2.1
    exact⟨.cons rfl q.1 ih.as,congrArg (_::·) ih.nm,fun x hx=>(bz hx).elim (fun e=>e▸q.2) (ih.kd x),congrArg (·+1) ih.ln⟩
end
section
variable{d:Nat}
noncomputable def plainT(e:Expr):Bool:=Nat.beq e.ctorIdx 23||(Nat.beq e.ctorIdx 20||Nat.beq e.ctorIdx 21)
theorem plainT_ok{t x:Expr}(h:plainT t=true):(∀e',swappedStores [t] x e'=pure none)∧∀e',PySem.assignEach [t] e'=[(false,PySem.assign t e')]:=by induction t using Expr.casesOn<;>first|exact⟨fun a=>rfl,fun a=>rfl⟩|exact bE h
def DB(R:RL d)(sc:Scope)(env:ah)(t x:Expr)(p:Pos)(H:AH):CS d sc env (.Assign [t] x p) H:=match t with
|.Tuple ts k1 p1=>match x with
 |.Tuple es k2 p2=>.aK (cL (!lO (.Tuple ts k1 p1) (.Tuple es k2 p2))) fun b=>.aK (R.e sc env (.Tuple es k2 p2) H) fun a=>match a with |(.tup vs,H₁)=>.map (cL (namesOk G.C sc ts (ts.filterMap Mi) vs env)) (fun b=>(.next,((ts.filterMap Mi).zip vs).foldl (fun env p=>aP env p.1 p.2) env,H₁)) fun b h2 h1 h0=>have q:=uE h2;Hz (bF h0) q.nm q.kd q.ln h1 q.as|_=>.nil
 |x=>.aK (cL (!Ao x&&!fZ x)) fun b=>.aK (R.e sc env x H) fun a=>.map (R.a sc env (.Tuple ts k1 p1) a.1 a.2) (fun r=>(.next,r.1,r.2)) fun r h2 h1 h0=>have q:=bj h0;FD (bF q.2) (fun b=>xR (bF q.1)) (fun b=>rfl) h1 h2
|t=>.aK (cL (plainT t&&!fZ x)) fun b=>.aK (R.e sc env x H) fun a=>.map (R.a sc env t a.1 a.2) (fun r=>(.next,r.1,r.2)) fun r h2 h1 h0=>have q:=bj h0;have w:=plainT_ok q.1;FD (bF q.2) w.1 w.2 h1 h2
def ME(R:RL d)(sc:Scope)(env:ah)(t e:Expr)(body:List Stmt)(p:Pos)(H:AH):CS d sc env (.For t e body [] p) H:=match e with
|.Name x q=>.aK (cL (!(x==Str.ofString "__debug__"))) fun a=>.aK (mZ (dD G.C sc env x)) fun v=>match v with
 |.ref k=>.aK (CM.obj H k) fun o=>match o with |.kP f st b=>.map (.ex fun fl aj H'=>∃m,iC d sc t body k m env H fl aj H') (fun r=>r) fun r h3 h2 h1 h0=>h3.elim fun m h3=>HC h1 (bF h0) h2 h3|.lst xs=>.map (.ex fun fl aj H'=>bX (d+1) sc t body xs env (H.set k .gone) fl aj H') (fun r=>(r.1,r.2.1,r.2.2.set k (.lst xs))) fun r h3 h2 h1 h0=>wj (fun a a=>rfl) (lq (qm (bF h0) h1) (dW h2 rfl rfl)) h3 rfl|.bf kvs=>.map (.ex fun fl aj H'=>bX (d+1) sc t body (kvs.map fun kv=>.str kv.1) env (H.set k .gone) fl aj H') (fun r=>(r.1,r.2.1,r.2.2.set k (.bf kvs))) fun r h3 h2 h1 h0=>wj (fun a a=>rfl) (lq (qm (bF h0) h1) (dW h2 rfl rfl)) h3 rfl|_=>.nil
 |v=>.aK (MC (srcOf v H)) fun r=>.map (.ex fun fl aj H'=>bX (d+1) sc t body r.1.1 env r.2 fl aj H') (fun q=>(q.1,q.2.1,sq r.1.2 q.2.2)) fun q h3 h2 h1 h0=>wj (fun a a=>rfl) (lq (qm (bF h0) h1) h2) h3 (jr ..)
|e=>.aK (HK R sc env t e H) fun r=>.map (.ex fun fl aj H'=>bX (d+1) sc t body r.1.1 env r.2 fl aj H') (fun q=>(q.1,q.2.1,sq r.1.2 q.2.2)) fun q h2 h1=>wj h1.fold h1.src h2 (jr ..)
def rX(R:RL d)(sc:Scope)(env:ah)(st:Stmt)(H:AH):CS d sc env st H:=match st with
|.Assign [t] x p=>match fZ x with
 |true=>match t with
  |.Name y q=>match x with |.ListComp e gens au pos=>.aK (Dy R sc env au (.e e) gens H) fun r=>.map (cL (nameOk G.C sc env y)) (fun c=>(.next,aP env y (sy (G.C.mu pos) r.1 r.2).1,(sy (G.C.mu pos) r.1 r.2).2)) fun c h2 h1=>have q:=iw h2;AF h1 (lu ..) q.2 q.1|.DictComp e1 e2 gens au pos=>.aK (Dy R sc env au (.kv e1 e2) gens H) fun r=>.map (cL (nameOk G.C sc env y)) (fun c=>(.next,aP env y (sy (G.C.mu pos) r.1 r.2).1,(sy (G.C.mu pos) r.1 r.2).2)) fun c h2 h1=>have q:=iw h2;AF h1 (lu ..) q.2 q.1|_=>.nil
  |_=>.nil
 |false=>DB R sc env t x p H
|.AugAssign t .Add x p=>match t with |.Name n q=>.aK (mZ (dD G.C sc env n)) fun old=>.aK (R.e sc env x H) fun y=>.aK (mZ (i8 old y.1)) fun z=>.map (cL (kindOf sc n==some .local)) (fun c=>(.next,aP env n z,y.2)) fun c h4 h3 h2 h1=>Hq h1 h2 h3 (eq_of_beq h4)|.Attribute o m q=>.aK (R.e sc env o H) fun ov=>.aK (Mx G.C ov.1 m ov.2) fun old=>.aK (R.e sc env x old.2) fun y=>.aK (mZ (i8 old.1 y.1)) fun z=>.map (My G.C ov.1 m z y.2) (fun H=>(.next,env,H)) fun c h5 h4 h3 h2 h1=>Hr h1 h2 h3 h4 h5|.Subscript o i q=>.aK (cL (!isSlice i)) fun c=>.aK (R.e sc env o H) fun ov=>.aK (R.e sc env i ov.2) fun iv=>.aK (FP ov.1 iv.1 iv.2) fun old=>.aK (R.e sc env x iv.2) fun y=>.aK (mZ (i8 old y.1)) fun z=>.map (FO ov.1 iv.1 z y.2) (fun H=>(.next,env,H)) fun c h6 h5 h4 h3 h2 h1 h0=>Hs (bF h0) h1 h2 h3 h4 h5 h6|_=>.nil
|.Return (some e) p=>.map (R.e sc env e H) (fun r=>(.ret r.1,env,r.2)) fun r h=>L1 h|.Continue p=>.ret (.cont,env,H) Hw|.Expr e p=>.aK (cL (!fZ e)) fun c=>.aK (R.e sc env e H) fun a=>match a with |(.none,H)=>.ret (.next,env,H) fun h1 h0=>G9 (bF h0) h1|_=>.nil
|.If t a b p=>.aK (R.t sc env t H) fun u=>.aK (ask u.1) fun w=>match w with |true=>.map (m4 R sc a env u.2) (fun r=>r) fun r h3 h2 h1=>L3 (h2▸h1) h3|false=>.map (m4 R sc b env u.2) (fun r=>r) fun r h3 h2 h1=>L4 (h2▸h1) h3
|.For t e body [] p=>.aK CM.ks fun ks=>match ks with |none=>.map (ME R sc env t e body p H) (fun r=>r) fun r h c=>h|some ks=>.aK (cL (bw G.C sc ks env)) fun c=>.map (ME R sc (dH ks env) t e body p H) (fun r=>r) fun r h2 h1 c=>h2.low h1
|st=>.nil
noncomputable def run:Nat→RL d|0=>⟨fun a a a a=>.nil,fun a a a a=>.nil,fun a a a a a=>.nil,fun a a a a=>.nil⟩|n+1=>⟨rE (run n),rT (run n),rA (run n),rX (run n)⟩
variable{sc:Scope}{env aj:ah}{H H':AH}{O:List uC}{c:Prop}{v:V}{e:Expr}{b:List Stmt}{fl:Fl}{u:Bool}{st:Stmt}
theorem e_(F:Fz O c)(h:((run (d:=d) 30).e sc env e H 0 O).map (fun r=>(r.a,r.c True))=some ((v,H'),c):=by kernel_rfl):bN (d+1) sc env e H v H':=CM.ok (J:=fun r:V×AH=>bN (d+1) sc env e H r.1 r.2) F.h h
theorem bK(F:Fz O c)(h:((run (d:=d) 30).x sc env st H 0 O).map (fun r=>(r.a,r.c True))=some ((fl,aj,H'),c):=by kernel_rfl):kH (d+1) sc env st H fl aj H':=CM.ok (J:=fun r:Fl×ah×AH=>kH (d+1) sc env st H r.1 r.2.1 r.2.2) F.h h
end
section
variable{d:Nat}{sc:Scope}{env aj aq bu:ah}{H H' H₁ H₂:AH}{fl f:Fl}{t:Expr}{body:List Stmt}{x:V}{xs:List V}{ks:List Str}
structure Turn(d:Nat)(sc:Scope)(t:Expr)(body:List Stmt)(x:V)(env:ah)(H:AH)(fl:Fl)(aj:ah)(H':AH):Prop where
 mk'::
 ex:∃aq H₁,n6 d sc env t x H aq H₁∧n7 d sc aq body H₁ fl aj H'
def MF(R:RL d)(ks:List Str)(sc:Scope)(t:Expr)(body:List Stmt)(x:V)(env:ah)(H:AH):CM (Fl×ah×AH) fun r=>Turn (d+1) sc t body x env H r.1 r.2.1 r.2.2:=.aK (R.a sc env t x H) fun a=>.aK (m4 R sc body a.1 a.2) fun r=>.map (cL (bw G.C sc ks r.2.1)) (fun b=>(r.1,dH ks r.2.1,r.2.2)) fun b h3 h2 h1=>⟨_,_,h1,h2.keep h3⟩
theorem az{O:List uC}{c:Prop}(ks:List Str)(F:Fz O c)(h:(MF (run (d:=d) 30) ks sc t body x env H 0 O).map (fun r=>(r.a,r.c True))=some ((fl,aj,H'),c):=by kernel_rfl):Turn (d+1) sc t body x env H fl aj H':=CM.ok (J:=fun r:Fl×ah×AH=>Turn (d+1) sc t body x env H r.1 r.2.1 r.2.2) F.h h
theorem Turn.next(h1:Turn d sc t body x env H f aq H₁)(hf:f=.next∨f=.cont)(k:bX d sc t body xs aq H₁ fl aj H'):bX d sc t body (x::xs) env H fl aj H':=h1.ex.elim fun a q=>q.elim fun a q=>.cons q.1 q.2 hf k
theorem Turn.ret{v:V}(h1:Turn d sc t body x env H (.ret v) aq H₁):bX d sc t body (x::xs) env H (.ret v) aq H₁:=h1.ex.elim fun a q=>q.elim fun a q=>.ret q.1 q.2
theorem bX.fold{σ α:Type}(enc:α→V)(E:σ→ah)(Hp:σ→AH)(g:σ→α→σ)(I:List α→σ→Prop)(hI:∀x xs s,I (x::xs) s→I xs (g s x))(step:∀x xs s,I (x::xs) s→Turn d sc t body (enc x) (E s) (Hp s) .next (E (g s x)) (Hp (g s x))):
  ∀(xs:List α) (s:σ),I xs s→bX d sc t body (xs.map enc) (E s) (Hp s) .next (E (xs.foldl g s)) (Hp (xs.foldl g s))
 |[],aM,bL=>.nil|x::xs,s,h=>(step x xs s h).next (.inl rfl) (bX.fold enc E Hp g I hI step xs _ (hI x xs s h))
def WB(R:RL d)(f:Nat)(vs:List V)(H:AH):CM (V×AH) fun r=>aC (d+2) (.fn f) vs H r.1 r.2:=match hd:iO G.C f with |some dd=>.aK (cL (Nat.beq dd.params.length vs.length)) fun a=>.map (m4 R dd.sc dd.body (dd.params.zip vs) H) (fun r=>(OG r.1,r.2.2)) fun r h2 h1=>L_ hd (Nat.eq_of_beq_eq_true h1) h2|none=>.nil
theorem aS{f:Nat}{vs:List V}{v:V}{O:List uC}{c:Prop}(F:Fz O c)(h:(WB (run (d:=d) 30) f vs H 0 O).map (fun r=>(r.a,r.c True))=some ((v,H'),c):=by kernel_rfl):aC (d+2) (.fn f) vs H v H':=CM.ok (J:=fun r:V×AH=>aC (d+2) (.fn f) vs H r.1 r.2) F.h h
end
end Mine
end
noncomputable section
open PySem PySem.W PySem.Builtin PySem.Builtin.Str
namespace Mine
section
noncomputable def MG(e:Expr):List Expr:=by
 induction e using Expr.casesOn with |BinOp l _ r _=>exact [l,r]|Compare l _ rs _=>exact l::rs|BoolOp _ es _=>exact es|Call f es _ _=>exact f::es|IfExp t a b _=>exact [t,a,b]|ListComp x _ _ _=>exact [x]|Lambda _ b _ _=>exact [b]|Tuple es _ _=>exact es|_=>exact []
def eJ(e:Expr)(i:Nat):Expr:=(MG e).getD i (.Constant .none 0 default)
noncomputable def FW(s:Stmt):List Expr×List (List Stmt):=by
 induction s using Stmt.casesOn with |For t e b _ _=>exact([t,e],[b])|Assign _ v _=>exact([v],[])|AugAssign _ _ v _=>exact([v],[])|Expr v _=>exact([v],[])|Return v _=>exact(v.toList,[])|If t a b _=>exact([t],[a,b])|_=>exact([],[])
def DC(s:Stmt):Expr:=(FW s).1.headD (.Constant .none 0 default)
def HM(s:Stmt)(i:Nat):List Stmt:=(FW s).2.getD i []
abbrev c8(s:Stmt):Expr:=DC s
abbrev c9(s:Stmt):List Stmt:=HM s 0
noncomputable def bR(b:List Stmt)(i:Nat):Stmt:=b.getD i (.Pass default)
abbrev bd(k:Nat):List Stmt:=Hd.fB (Hd.st k)
variable{d:Nat}{H H':AH}
abbrev oh(k:Nat):Scope:=(dc (Hd.st k)).sc
theorem bN.hp{d:Nat}{sc:Scope}{env:ah}{e:Expr}{v:V}{H H₁ H':AH}(h:bN d sc env e H v H₁)(q:H₁=H'):bN d sc env e H v H':=q▸h
theorem aC.hp{d:Nat}{f:V}{vs:List V}{v:V}{H H₁ H':AH}(h:aC d f vs H v H₁)(q:H₁=H'):aC d f vs H v H':=q▸h
theorem DE(kvs:List (Str×Int)):(aI V.int kvs).map (·.2)=kvs.map fun kv=>.int kv.2:=by refine List.map_map.trans ?_;rfl
theorem foldl_add(xs:List (Str×Int)):∀c:Int,xs.foldl (fun c x=>c+x.2) c=c+(xs.map (·.2)).sum:=by
 induction xs with |nil=>intro c;exact(Int.add_zero c).symm|cons x r ih=>intro c;exact(ih _).trans (Int.add_assoc ..)
theorem eu(kvs:List (Str×Int)):aC (d+2) (.fn 169) [.bf (aI V.int kvs)] H (.int (kvs.map (·.2)).sum) H:=by
 obtain loop:=bX.fold (d:=d+1) (sc:=oh 11) (t:=c8 (bR (bd 11) 1)) (body:=c9 (bR (bd 11) 1)) (fun kv:Str×Int=>.int kv.2) (fun c:Int=>[(T "callers",.bf (aI V.int kvs)),(T "nc",.int c)]) (fun a=>H) (fun c x=>c+x.2) (fun a a=>True) (fun a a a a=>trivial)
  (fun x xs c a=>az [T "callers",T "nc"] .nil) kvs 0 trivial
 rw[foldl_add,Int.zero_add,←DE] at loop;exact aS (.loop loop .nil)
end
def sA(d:List (Str×Int))(kv:Str×Int):List (Str×Int):=aP d kv.1 kv.2
def put2(d:List (Str×Int))(kv:Str×Int):List (Str×Int):=aP d kv.1 (match d.lookup kv.1 with |some v=>v+kv.2|none=>kv.2)
def gZ(t s:List (Str×Int)):List (Str×Int):=s.foldl put2 (t.foldl sA [])
theorem cZ{α β:Type}{m:M α}{f:α→M β}{a:α}{x:Option (β×AH)}(h:m H=some (a,H'))(k:f a H'=x):M.aK m f H=x:=by unfold M.aK;refine h▸?_;exact k
theorem m6(m:Nat)(H:AH):∀d:List (Str×Int),eR (freeze (m+1)) (aI V.int d) H=some (aI V.int d,H)|[]=>rfl|(y,u)::r=>by unfold eR;exact cZ rfl (cZ (m6 m H r) rfl)
noncomputable abbrev TP(d:List (Str×Int)):List V:=d.map fun kv=>.tup [.str kv.1,.int kv.2]
theorem HN(d:List (Str×Int)):(aI V.int d).map (fun kv=>V.tup [.str kv.1,kv.2])=TP d:=by unfold aI;rw[List.map_map];rfl
theorem dJ{o:aE}:(H++[o])[H.length]?=some o:=List.getElem?_concat_length ..
theorem dK{o o':aE}:(H++[o]).set H.length o'=H++[o']:=by rw[List.set_append_right _ _ (Nat.le_refl _),Nat.sub_self];rfl
theorem MH{k:Nat}{x:Str}{v:V}{kvs:List (Str×V)}(hz:kvs.length+1<2^20)(e:H.set k (.bf (aP kvs x v))=H'):vt k x v (.bf kvs) H=some ((),H'):=by show(if sizeOk (kvs.length+1) then fC k (.bf (aP kvs x v)) else M.fail:M Unit) H=_;rw[show sizeOk (kvs.length+1)=true from decide_eq_true hz,←e];rfl
theorem DF{k:Nat}{kvs:List (Str×V)}(h:H[k]?=some (.bf kvs)):deref H (.ref k)=.bf kvs:=by show(match H[k]? with |some (.lst xs)=>V.lst xs|some (.bf kvs)=>.bf kvs|_=>.ref k)=_;rw[h]
theorem ly{k:Nat}{xs:List V}(h:H[k]?=some (.lst xs)):deref H (.ref k)=.lst xs:=by show(match H[k]? with |some (.lst xs)=>V.lst xs|some (.bf kvs)=>.bf kvs|_=>.ref k)=_;rw[h]
theorem inR{k:Nat}{x:Str}{kvs:List (Str×V)}(h:H[k]?=some (.bf kvs)):bI H .In (.str x) (.ref k)=some (.bool (kvs.lookup x).isSome):=by show(alt (gD (deref H (.ref k)) fun kvs=>some (kvs.lookup x).isSome) none).map V.bool=_;rw[DF h];rfl
section
variable{t s:List (Str×Int)}
abbrev Ja(t s:List (Str×Int))(k:Nat):ah:=[(T "target",.bf (aI V.int t)),(T "source",.bf (aI V.int s)),(T "new_callers",.ref k)]
theorem w9{d0:List (Str×Int)}(x:Str)(v:Int)(hz:d0.length+1<2^20):vt H.length x (.int v) (.bf (aI V.int d0)) (H++[.bf (aI V.int d0)])=some ((),H++[.bf (aI V.int (aP d0 x v))]):=MH (by rw[d7];exact hz) (by rw[dK,pK])
theorem Rz(x:Str×Int)(d0:List (Str×Int))(hz:d0.length+1<2^20):Turn (d+1) (oh 10) (c8 (bR (bd 10) 1)) (c9 (bR (bd 10) 1)) (.tup [.str x.1,.int x.2]) (Ja t s H.length) (H++[.bf (aI V.int d0)]) .next (Ja t s H.length) (H++[.bf (aI V.int (sA d0 x))]):=
 have hk:=dJ (H:=H) (o:=.bf (aI V.int d0))
 az [T "target",T "source",T "new_callers"] (.obj hk (.xV 3 (w9 (H:=H) x.1 x.2 hz) .nil))
theorem RA(x:Str×Int)(d0:List (Str×Int))(hz:d0.length+1<2^20):Turn (d+1) (oh 10) (c8 (bR (bd 10) 2)) (c9 (bR (bd 10) 2)) (.tup [.str x.1,.int x.2]) (Ja t s H.length) (H++[.bf (aI V.int d0)]) .next (Ja t s H.length) (H++[.bf (aI V.int (put2 d0 x))]):=by
 obtain hk:=dJ (H:=H) (o:=.bf (aI V.int d0));obtain hi:=inR (x:=x.1) hk;obtain hl:=jH V.int d0 x.1;unfold put2;induction h:d0.lookup x.1 with
 |none=>rw[h] at hl;obtain hb:=congrArg Option.isSome hl;exact az [T "target",T "source",T "new_callers"] (.val 2 hi (.no 3 hb (.obj hk (.xV 7 (w9 (H:=H) x.1 x.2 hz) .nil))))
 |some v=>rw[h] at hl;obtain hb:=congrArg Option.isSome hl;exact az [T "target",T "source",T "new_callers"] (.val 2 hi (.no 3 hb (.obj hk (.val 11 hl (.obj hk (.xV 14 (w9 (H:=H) x.1 (v+x.2) hz) .nil))))))
theorem xW{o o':aE}:fC H.length o' (H++[o])=some ((),H++[o']):=congrArg (fun x=>some ((),x)) dK
theorem xX{m:Nat}{d0:List (Str×Int)}:freeze (m+2) (.ref H.length) (H++[.bf (aI V.int d0)])=some (.bf (aI V.int d0),H++[.gone]):=cZ (a:=.bf (aI V.int d0)) (H':=H++[.bf (aI V.int d0)]) (by unfold hget;rw[dJ]) (cZ (a:=()) (H':=H++[.gone]) xW (cZ (m6 m _ d0) rfl))
theorem jt{α:Type}{g:List (Str×Int)→α→List (Str×Int)}(hg:∀d x,(g d x).length≤d.length+1):∀(xs:List α) (d:List (Str×Int)),(xs.foldl g d).length≤d.length+xs.length|[],aM=>Nat.le_refl _|x::xs,d=>Nat.le_trans (jt hg xs (g d x)) (Nat.le_trans (Nat.add_le_add_right (hg d x) _) (Nat.le_of_eq (Nat.succ_add_eq_add_succ ..)))
theorem m7(H:AH)(hz:t.length+s.length+1<2^20):aC (d+2) (.fn 162) [.bf (aI V.int t),.bf (aI V.int s)] H (.bf (aI V.int (gZ t s))) (H++[.gone]):=by obtain l1:=bX.fold (d:=d+1) (fun kv:Str×Int=>.tup [.str kv.1,.int kv.2]) (fun a=>Ja t s H.length) (fun d0=>H++[.bf (aI V.int d0)]) sA (fun xs d0=>d0.length+xs.length≤t.length) (fun x xs d0 h=>by have :=cG d0 x.1 x.2;simp only[List.length_cons] at h;unfold sA;exact eO (nat_lit 0x320801319281801191800102) ae this h) (fun x xs d0 h=>Rz x d0 (eO (nat_lit 0x1000006f1908111000006f1932881121080102) ae h hz)) t [] (Nat.le_of_eq (Nat.zero_add _));obtain hl:=jt (fun d x=>cG d x.1 x.2) t [];obtain l2:=bX.fold (d:=d+1) (fun kv:Str×Int=>.tup [.str kv.1,.int kv.2]) (fun a=>Ja t s H.length) (fun d0=>H++[.bf (aI V.int d0)]) put2 (fun xs d0=>d0.length+xs.length≤t.length+s.length) (fun x xs d0 h=>by have :=cG d0 x.1 (match d0.lookup x.1 with |some v=>v+x.2|none=>x.2);simp only[List.length_cons] at h;unfold put2;exact vj (nat_lit 0x4382080143819281801191800102) ae this h) (fun x xs d0 h=>RA x d0 (eO (nat_lit 0x1000006f1908111000006f193288113281080102) ae h hz)) s (t.foldl sA []) (by simp only[List.length_nil,Nat.zero_add] at hl;exact aQ (nat_lit 9431645120626945) ae hl);rw[←TP,←HN] at l1 l2;exact Aq (aS (.loop l1 (.loop l2 .nil))) (xX (m:=8))
end
set_option genInjectivity true in
structure St where
 cc:Int
 nc:Int
 tt:Int
 ct:Int
 cs:List (Str×Int)
def St.enc(s:St):V:=.tup [.int s.cc,.int s.nc,.int s.tt,.int s.ct,.bf (aI V.int s.cs)]
noncomputable def St.add(t s:St):St:=⟨s.cc+t.cc,s.nc+t.nc,s.tt+t.tt,s.ct+t.ct,gZ t.cs s.cs⟩
theorem ju{d:Nat}(H:AH)(t s:St)(hz:t.cs.length+s.cs.length+1<2^20):aC (d+3) (.fn 155) [t.enc,s.enc] H (t.add s).enc (H++[.gone]):=aS (.call (m7 (d:=d) H hz) .nil)
abbrev N5(i j:Nat):List Stmt:=Hd.fB (Hd.cst i j)
abbrev N6(i j:Nat):Scope:=(dc (Hd.cst i j)).sc
section
variable{d k:Nat}{H:AH}{us vs:List V}{way a b:Int}{s t:Str}
abbrev cE(k:Nat)(us vs:List V):ah:=[(T "self",.ref k),(T "left",.tup us),(T "right",.tup vs)]
abbrev cK:List Str:=[T "self",T "left",T "right"]
abbrev RB:Expr:=c8 (bR (N5 8 1) 0)
abbrev RC:List Stmt:=c9 (bR (N5 8 1) 0)
end
abbrev dQ(s:Stmt):Expr:=DC s
abbrev AO(e:Expr):Expr:=eJ e 0
noncomputable def AP(e:Expr):Scope:=by induction e using Expr.casesOn with |Lambda _ _ s _=>exact s|_=>exact default
abbrev WC(s:Stmt):List Stmt:=HM s 0
abbrev WD(s:Stmt):List Stmt:=HM s 1
noncomputable def bx(c:Nat):Str:=⟨#[c]⟩
def aV(c:Nat):V:=.str (bx c)
def FY:List Nat→Str|[]=>T ""|c::_=>bx c
noncomputable def xY:List Nat→Int|[]=>0|c::_=>if c==10 then 1 else 0
theorem bC(c d:Nat):(bx c==bx d)=(c==d):=by
 induction h:c==d with |true=>refine(eq_of_beq h)▸?_;exact beq_self_eq_true _|false=>exact nR fun e=>beq_eq_false_iff_ne.mp h (by cases e;rfl)
abbrev TQ:Expr:=dQ (bR (bd 16) 1)
def o9(kS:Nat):V:=.lG [T "size"] (AO TQ) (AP TQ) [(T "signs",.ref kS)]
def k6(bg:Int)(ks kp:Nat):aE:=.inst 116 [(T "lineno",.int bg),(T "instream",.ref ks),(T "whitespace",.str (T "\n\t\r ")),(T "pushback",.ref kp)]
structure Lx where
 k:Nat
 ks:Nat
 kp:Nat
 kS:Nat
structure Lx.Ok(a:Lx)(H:AH):Prop where
 lk:a.k<H.length
 lp:a.kp<H.length
 lS:a.kS<H.length
 AQ:∃g,H[a.ks]?=some (.oq g [(T "read",o9 a.kS)])
 d1:a.k≠a.ks
 d2:a.k≠a.kp
 d3:a.k≠a.kS
 d4:a.kp≠a.ks
 d5:a.kS≠a.ks
 d6:a.kp≠a.kS
def Lx.hp(a:Lx)(H:AH)(bg:Int)(push:List V)(cs:List Nat):AH:=((H.set a.k (k6 bg a.ks a.kp)).set a.kp (.lst push)).set a.kS (.lst (cs.map aV))
section
variable{a:Lx}{H:AH}{bg l:Int}{push p:List V}{cs r:List Nat}{j c:Nat}
theorem Lx.Ok.self(h:a.Ok H):(a.hp H bg push cs)[a.k]?=some (k6 bg a.ks a.kp):=by unfold Lx.hp;rw[List.getElem?_set_ne h.d3.symm,List.getElem?_set_ne h.d2.symm,List.getElem?_set_self h.lk]
theorem Lx.Ok.uF(h:a.Ok H):(a.hp H bg push cs)[a.kp]?=some (.lst push):=by unfold Lx.hp;rw[List.getElem?_set_ne h.d6.symm,List.getElem?_set_self (by rw[List.length_set];exact h.lp)]
theorem Lx.Ok.signs(h:a.Ok H):(a.hp H bg push cs)[a.kS]?=some (.lst (cs.map aV)):=List.getElem?_set_self (by rw[List.length_set,List.length_set];exact h.lS)
theorem Lx.HO(h1:a.k≠j)(h2:a.kp≠j)(h3:a.kS≠j):(a.hp H bg push cs)[j]?=H[j]?:=by unfold Lx.hp;rw[List.getElem?_set_ne h3,List.getElem?_set_ne h2,List.getElem?_set_ne h1]
theorem Lx.Ok.stream(h:a.Ok H):∃g,(a.hp H bg push cs)[a.ks]?=some (.oq g [(T "read",o9 a.kS)]):=by rw[Lx.HO h.d1 h.d4 h.d5];exact h.AQ
theorem Lx.RD:(a.hp H bg push cs).set a.kS (.lst (r.map aV))=a.hp H bg push r:=List.set_set ..
theorem Lx.Ok.RE(h:a.Ok H):(a.hp H bg push cs).set a.k (k6 l a.ks a.kp)=a.hp H l push cs:=by unfold Lx.hp;rw[List.set_comm _ _ h.d3.symm,List.set_comm _ _ h.d2.symm,List.set_set]
theorem Lx.Ok.MI(h:a.Ok H):(a.hp H bg push cs).set a.kp (.lst p)=a.hp H bg p cs:=by unfold Lx.hp;rw[List.set_comm _ _ h.d6.symm,List.set_set]
theorem Lx.len:(a.hp H bg push cs).length=H.length:=by unfold Lx.hp;simp only[List.length_set,List.length_set,List.length_set]
variable{d:Nat}
theorem DG(h:a.Ok H):aC (d+2) (o9 a.kS) [.int 1] (a.hp H bg push cs) (.str (FY cs)) (a.hp H bg push cs.tail):=by
 obtain hk:=h.signs (bg:=bg) (push:=push) (cs:=cs);refine wg (by kernel_rfl) (by kernel_rfl) ?_;induction cs with |nil=>exact e_ (.obj hk .nil)|cons c r=>exact(e_ (.obj hk (.obj hk (.obj hk .nil)))).hp (H₁:=(a.hp H bg push (c::r)).set a.kS (.lst (r.map aV))) Lx.RD
theorem qq(h:a.Ok H):aC (d+3) (.fn 99) [.ref a.k] (a.hp H bg push cs) (.str (FY cs)) (a.hp H (bg+xY cs) push cs.tail):=by
 refine(h.stream (bg:=bg) (push:=push) (cs:=cs)).elim fun g hg=>?_
 obtain hk:=h.self (bg:=bg) (push:=push) (cs:=cs);obtain hr:=DG (d:=d) (bg:=bg) (push:=push) (cs:=cs) h;obtain I5:=h.self (bg:=bg) (push:=push) (cs:=cs.tail);have quiet:xY cs=0→(FY cs==T "\n")=false→aC (d+3) (.fn 99) [.ref a.k] (a.hp H bg push cs) (.str (FY cs)) (a.hp H (bg+xY cs) push cs.tail):=fun h1 h2=>by rw[h1,Int.add_zero];exact aS (.obj hk (.obj hg (.call hr (.no 4 h2 .nil))))
 induction cs using List.casesOn with
 |nil=>exact quiet rfl rfl|cons c r=>
  induction hc:c==10 with
  |true=>cases eq_of_beq hc;exact(aS (.obj hk (.obj hg (.call hr (.obj I5 (.obj I5 .nil)))))).hp (H₁:=(a.hp H bg push r).set a.k (k6 (bg+1) a.ks a.kp)) h.RE
  |false=>exact quiet (show(if(c==10)=true then(1:Int) else 0)=0 by rw[hc];rfl) ((bC c 10).trans hc)
noncomputable def dX(l:List Nat):Int:=((l.filter (·==10)).length:Int)
theorem DH(L:Int):∀cs:List Nat,L-dX cs+xY cs=L-dX cs.tail
|[]=>Int.add_zero _|c::r=>by
 obtain e:dX (c::r)=xY (c::r)+dX r:=by
  show((List.filter (·==10) (c::r)).length:Int)=(if(c==10)=true then 1 else 0)+_;refine List.filter_cons▸?_;induction c==10
  ·skip
   exact(Int.zero_add _).symm
  ·refine(?_:(((r.filter (·==10)).length+1:Nat):Int)=1+((r.filter (·==10)).length:Int));simp only[Int.natCast_add];exact Int.add_comm _ 1
 show L-dX (c::r)+xY (c::r)=L-dX r;rw[e];lia
abbrev Lx.hl(a:Lx)(H:AH)(L:Int)(push:List V)(cs:List Nat):AH:=a.hp H (L-dX cs) push cs
theorem ff{L:Int}(h:a.Ok H):aC (d+3) (.fn 99) [.ref a.k] (a.hl H L push cs) (.str (FY cs)) (a.hl H L push cs.tail):=(qq h).hp (congrArg (a.hp H · push cs.tail) (DH L cs))
end
noncomputable def sL(l:List Nat):Str:=⟨l.toArray⟩
theorem uG(a b:List Nat):sL a++sL b=sL (a++b):=congrArg Str.mk (List.append_toArray a b)
theorem fy(a:List Nat):(sL a).length=a.length:=List.size_toArray ..
theorem HP{a b:List Nat}(h:a.length+b.length<2^20):i8 (.str (sL a)) (.str (sL b))=some (.str (sL (a++b))):=by show(if sizeOk ((sL a).length+(sL b).length) then some (V.str (sL a++sL b)) else none)=_;simp only[fy,fy,show sizeOk (a.length+b.length)=true from decide_eq_true h,uG];rfl
theorem HQ(cs:List Nat):FY cs=sL (cs.take 1):=by induction cs<;>rfl
noncomputable def isWs(c:Nat):Bool:=c==10||c==9||c==13||c==32
theorem m8(c:Nat)(y:Str):strSub (bx c) y=y.cps.toList.contains c:=by
 unfold strSub;rw[show bx c=⟨#[c]⟩ from rfl,gU];rw[Bool.eq_iff_iff];rw[List.contains_iff_mem];constructor
 ·intro h;obtain h2:((List.range' 0 (y.length+1)).filter fun i=>decide (y.cps.toList[i]?=some c))≠[]:=fun e=>by rw[e] at h;simp at h
  obtain⟨i,hi⟩:=List.exists_mem_of_ne_nil _ h2;have :=(wX hi).2
  exact List.mem_of_getElem? (of_decide_eq_true this)
 ·intro h
  obtain⟨i,hi⟩:=List.getElem?_of_mem h;obtain bT:=(c_ hi).1;have hm:i∈(List.range' 0 (y.length+1)).filter fun i=>decide (y.cps.toList[i]?=some c):=by
   refine List.mem_filter.mpr ⟨List.mem_range'_1.mpr ⟨Nat.zero_le _,?_⟩,decide_eq_true hi⟩;have :y.length=y.cps.toList.length:=by rfl
   exact aQ (nat_lit 0x19080982111031121102) ae bT this
  induction hf:(List.range' 0 (y.length+1)).filter fun i=>decide (y.cps.toList[i]?=some c) with |nil=>rw[hf] at hm;exact nomatch hm|cons a r=>rfl
theorem iX(c:Nat):strSub (bx c) (T "\n\t\r ")=isWs c:=by rw[m8];show((c==10)||((c==9)||((c==13)||((c==32)||false))))=_;rw[Bool.or_false,←Bool.or_assoc,←Bool.or_assoc];rfl
def o_(k:Nat)(b:Bool):aE:=.kP (.bm k 99) (.str (T "")) b
structure eK(a:Lx)(H:AH)(j:Nat):Prop where
 ok:a.Ok H
 it:H[j]?=some (o_ a.k true)
 j1:a.k≠j
 j2:a.kp≠j
 j3:a.kS≠j
 j4:a.ks≠j
def It(d:Nat)(sc:Scope)(t:Expr)(body:List Stmt)(j:Nat)(env:ah)(H:AH)(fl:Fl)(aj:ah)(H':AH):Prop:=∃m,iC d sc t body j m env H fl aj H'
section
variable{a:Lx}{H H' H₁:AH}{bg L:Int}{push:List V}{cs r:List Nat}{j c d:Nat}{sc:Scope}{t:Expr}{body:List Stmt}{env aj aq:ah}{f fl:Fl}{v:V}
theorem eK.get(h:eK a H j):(a.hp H bg push cs)[j]?=some (o_ a.k true):=(Lx.HO h.j1 h.j2 h.j3).trans h.it
theorem eK.call(h:eK a H j):aC (d+3) (.bm a.k 99) [] (a.hl H L push cs) (.str (FY cs)) (a.hl H L push cs.tail):=Q0 (ff h.ok)
theorem sC(c:Nat):(T ""==bx c)=false:=nR fun e=>nomatch congrArg (fun x:Str=>x.cps.toList) e
theorem eK.step(h:eK a H j)(h1:Turn (d+3) sc t body (aV c) env (a.hl H L push r) f aq H₁)(hf:f=.next∨f=.cont)(h2:It (d+3) sc t body j aq H₁ fl aj H'):It (d+3) sc t body j env (a.hl H L push (c::r)) fl aj H':=h2.elim fun m h2=>h1.ex.elim fun b q=>q.elim fun b q=>⟨m+1,.cons h.get h.call h.get rfl (congrArg some (sC c)) q.1 q.2 hf h2⟩
theorem eK.ret(h:eK a H j)(h1:Turn (d+3) sc t body (aV c) env (a.hl H L push r) (.ret v) aq H₁):It (d+3) sc t body j env (a.hl H L push (c::r)) (.ret v) aq H₁:=h1.ex.elim fun b q=>q.elim fun b q=>⟨0,.ret h.get h.call h.get rfl (congrArg some (sC c)) q.1 q.2⟩
theorem eK.dead(h:eK a H j):(a.hp H bg push cs).set j (o_ a.k false)=a.hp (H.set j (o_ a.k false)) bg push cs:=by unfold Lx.hp;rw[List.set_comm _ _ h.j3,List.set_comm _ _ h.j2,List.set_comm _ _ h.j1]
theorem It.hp(h:It d sc t body j env H fl aj H₁)(q:H₁=H'):It d sc t body j env H fl aj H':=q▸h
theorem eK.stop(h:eK a H j):It (d+3) sc t body j env (a.hl H L push []) .next env (a.hl (H.set j (o_ a.k false)) L push []):=It.hp ⟨0,.stop h.get (H₁:=a.hl H L push []) h.call h.get rfl (congrArg some (beq_self_eq_true (T "")))⟩ h.dead
end
noncomputable def tk(st:Nat→Bool):List Nat→List Nat×List Nat×Bool
|[]=>([],[],false)|[c]=>if st c then([],[],true) else if c==92 then([],[],false) else([c],[],false)
|c::d::r=>if st c then([],d::r,true) else if c==92 then(d::(tk st r).1,(tk st r).2) else(c::(tk st (d::r)).1,(tk st (d::r)).2)
section
variable{st:Nat→Bool}{c:Nat}{r:List Nat}
theorem DI(h:st c=true):tk st (c::r)=([],r,true):=by induction r<;>(unfold tk;rw[h];rfl)
theorem FZ(h:st 92=false):tk st [92]=([],[],false):=by unfold tk;rw[h];rfl
theorem MJ(h:st 92=false)(d:Nat):tk st (92::d::r)=(d::(tk st r).1,(tk st r).2):=by rw[tk,h];rfl
theorem HS(h:st c=false)(h2:(c==92)=false):tk st (c::r)=(c::(tk st r).1,(tk st r).2):=by
 induction r with |nil=>unfold tk;rw[h,h2];rfl|cons d r=>rw[tk,h,h2];rfl
end
abbrev oB:List Stmt:=c9 (bR (N5 6 2) 3)
abbrev DJ:Stmt:=bR (WC (bR oB 1)) 0
abbrev WE:List Stmt:=WD (bR oB 1)
abbrev xZ:Stmt:=bR WE 2
abbrev DK:Scope:=N6 6 2
abbrev tE(k j:Nat)(acc:List Nat):ah:=[(T "self",.ref k),(T "token",.str (sL acc)),(T "fiter",.ref j)]
abbrev tK:List Str:=[T "self",T "token",T "fiter"]
structure HT(st:Nat→Bool)(t:Expr)(body:List Stmt)(a:Lx)(H:AH)(L:Int)(push:List V)(j d:Nat):Prop where
 stop:∀{acc c r},st c=true→Turn (d+3) DK t body (aV c) (tE a.k j acc) (a.hl H L push r) (.ret (.str (sL acc))) (tE a.k j acc) (a.hl H L push r)
 N7:∀{acc:List Nat} {cs},acc.length+1<2^20→Turn (d+3) DK t body (aV 92) (tE a.k j acc) (a.hl H L push cs) .next (tE a.k j (acc++cs.take 1)) (a.hl H L push cs.tail)
 plain:∀{acc:List Nat} {c r},st c=false→(c==92)=false→acc.length+1<2^20→Turn (d+3) DK t body (aV c) (tE a.k j acc) (a.hl H L push r) .next (tE a.k j (acc++[c])) (a.hl H L push r)
 ne:st 92=false
def N8(b:Bool)(acc:List Nat):Fl:=bif b then .ret (.str (sL acc)) else .next
def eH(H:AH)(k j:Nat)(b:Bool):AH:=bif b then H else H.set j (o_ k false)
section
variable{st:Nat→Bool}{t:Expr}{body:List Stmt}{a:Lx}{H:AH}{L:Int}{push:List V}{j d:Nat}
abbrev iY(d:Nat)(t:Expr)(body:List Stmt)(a:Lx)(H:AH)(L:Int)(push:List V)(j:Nat)(acc cs:List Nat)(q:List Nat×List Nat×Bool):Prop:=It (d+3) DK t body j (tE a.k j acc) (a.hl H L push cs) (N8 q.2.2 (acc++q.1)) (tE a.k j (acc++q.1)) (a.hl (eH H a.k j q.2.2) L push q.2.1)
theorem iY.app{acc x cs r:List Nat}{q:List Nat×List Nat×Bool}{c:Nat}(h:eK a H j)(h1:Turn (d+3) DK t body (aV c) (tE a.k j acc) (a.hl H L push cs) .next (tE a.k j (acc++x)) (a.hl H L push r))(h2:iY d t body a H L push j (acc++x) r q):iY d t body a H L push j acc (c::cs) (x++q.1,q.2):=by unfold iY at h2⊢;rw[List.append_assoc] at h2;exact h.step h1 (.inl rfl) h2
theorem eB(T:HT st t body a H L push j d)(h:eK a H j):∀(cs acc:List Nat),acc.length+cs.length+1<2^20→iY d t body a H L push j acc cs (tk st cs)
|[],acc,aM=>by unfold iY;simp only[show(tk st []).1=[] from rfl,List.append_nil];exact h.stop|[c],acc,hz=>by
 induction hs:st c with
 |true=>rw[DI hs];unfold iY;rw[List.append_nil];exact h.ret (T.stop hs)|false=>induction hc:c==92 with
  |true=>cases eq_of_beq hc;obtain q:=eB T h [] acc (Nat.lt_of_succ_lt hz);rw[FZ hs];exact iY.app (x:=[]) (q:=([],[],false)) h ((List.append_nil acc).symm▸T.N7 (cs:=[]) (Nat.lt_of_succ_lt hz)) ((List.append_nil acc).symm▸q)
  |false=>rw[HS hs hc];exact iY.app h (T.plain hs hc (Nat.lt_of_succ_lt hz)) (eB T h [] (acc++[c]) (by refine List.length_append.symm▸?_;exact hz))
|c::d'::r,acc,hz=>by
 obtain hz:acc.length+(r.length+3)<2^20:=hz;obtain I7:acc.length+1<2^20:=by exact aA (nat_lit 0x1000006f1908111000006f3918081101) ae hz
 induction hs:st c with
 |true=>rw[DI hs];unfold iY;simp only[List.append_nil];exact h.ret (T.stop hs)|false=>induction hc:c==92 with
  |true=>cases eq_of_beq hc;rw[MJ hs];exact iY.app h (T.N7 I7) (eB T h r (acc++[d']) (by rw[List.length_append];show acc.length+1+r.length+1<_;omega))
  |false=>rw[HS hs hc];exact iY.app h (T.plain hs hc I7) (eB T h (d'::r) (acc++[c]) (by rw[List.length_append];show acc.length+1+(r.length+1)+1<_;omega))
end
section
variable{a:Lx}{H:AH}{L:Int}{push:List V}{j d:Nat}
theorem x6{acc:List Nat}(cs:List Nat)(h:acc.length+1<2^20):i8 (.str (sL acc)) (.str (FY cs))=some (.str (sL (acc++cs.take 1))):=by rw[HQ];exact HP (Nat.lt_of_le_of_lt (Nat.add_le_add_left (List.length_take_le 1 cs) _) h)
theorem DL(h:eK a H j):HT (·==34) (c8 DJ) (c9 DJ) a H L push j d where
 stop:=fun{acc c r} hs=>az tK (.no 2 ((bC c 34).trans hs) .nil)
 N7:=fun{acc cs} hz=>
  have hk:=h.ok.self (bg:=L-dX cs) (push:=push) (cs:=cs)
  az tK (.obj hk (.call (ff (d:=d) (L:=L) (push:=push) (cs:=cs) h.ok) (.val 9 (x6 cs hz) .nil)))
 plain:=fun{acc c r} hs hc hz=>az tK (.no 2 ((bC c 34).trans hs) (.no 5 ((bC c 92).trans hc) (.val 8 (x6 [c] hz) .nil)))
 ne:=rfl
theorem wq(h:eK a H j):HT isWs (c8 xZ) (c9 xZ) a H L push j d where
 stop:=fun{acc c r} hs=>
  have hk:=h.ok.self (bg:=L-dX r) (push:=push) (cs:=r)
  az tK (.obj hk (.no 4 ((iX c).trans hs) .nil))
 N7:=fun{acc cs} hz=>
  have hk:=h.ok.self (bg:=L-dX cs) (push:=push) (cs:=cs)
  az tK (.obj hk (.no 4 (iX 92) (.obj hk (.call (ff (d:=d) (L:=L) (push:=push) (cs:=cs) h.ok) (.val 11 (x6 cs hz) .nil)))))
 plain:=fun{acc c r} hs hc hz=>
  have hk:=h.ok.self (bg:=L-dX r) (push:=push) (cs:=r)
  az tK (.obj hk (.no 4 ((iX c).trans hs) (.no 7 ((bC c 92).trans hc) (.val 10 (x6 [c] hz) .nil))))
 ne:=rfl
noncomputable def gTok:List Nat→List Nat×List Nat×Bool|[]=>([],[],false)|c::r=>if isWs c then gTok r else if c==34 then tk (·==34) r else if c==92 then(r.take 1++(tk isWs r.tail).1,(tk isWs r.tail).2) else(c::(tk isWs r).1,(tk isWs r).2)
abbrev N9:Expr:=c8 (bR (N5 6 2) 3)
theorem RG{c:Nat}{r:List Nat}(h:eK a H j)(hc:isWs c=true):Turn (d+4) DK N9 oB (aV c) (tE a.k j []) (a.hl H L push r) .cont (tE a.k j []) (a.hl H L push r):=
 have hk:=h.ok.self (bg:=L-dX r) (push:=push) (cs:=r)
 az tK (.obj hk (.no 4 ((iX c).trans hc) .nil))
abbrev N_(d:Nat)(a:Lx)(H:AH)(L:Int)(push:List V)(j c:Nat)(r:List Nat)(q:List Nat×List Nat×Bool):Prop:=Turn (d+4) DK N9 oB (aV c) (tE a.k j []) (a.hl H L push r) (N8 q.2.2 q.1) (tE a.k j q.1) (a.hl (eH H a.k j q.2.2) L push q.2.1)
theorem WG{r:List Nat}(h:eK a H j)(hz:r.length+1<2^20):N_ d a H L push j 34 r (tk (·==34) r):=by
 obtain hk:=h.ok.self (bg:=L-dX r) (push:=push) (cs:=r);obtain hj:=h.get (bg:=L-dX r) (push:=push) (cs:=r);obtain⟨m,q⟩:iY d (c8 DJ) (c9 DJ) a H L push j [] r (tk (·==34) r):=eB (DL h) h r [] (by simp only[List.length_nil,Nat.zero_add];exact hz)
 revert q
 generalize tk (·==34) r=z;obtain⟨x,y,b⟩:=z;induction b<;>exact fun q=>az tK (.obj hk (.no 4 (iX 34) (.ks tK (.obj hj (.kP q .nil)))))
theorem WH{c:Nat}{r:List Nat}(h:eK a H j)(hw:isWs c=false)(Jb:(c==34)=false)(HU:(c==92)=false)(hz:r.length+2<2^20):N_ d a H L push j c r (c::(tk isWs r).1,(tk isWs r).2):=by
 obtain hk:=h.ok.self (bg:=L-dX r) (push:=push) (cs:=r);obtain hj:=h.get (bg:=L-dX r) (push:=push) (cs:=r);obtain⟨m,q⟩:iY d (c8 xZ) (c9 xZ) a H L push j [c] r (tk isWs r):=eB (wq h) h r [c] (by simp only[List.length_singleton,Nat.add_comm 1];exact hz)
 revert q
 generalize tk isWs r=z;obtain⟨x,y,b⟩:=z;obtain e:=x6 (acc:=[]) [c] (by decide);induction b<;>exact fun q=>az tK (.obj hk (.no 4 ((iX c).trans hw) (.no 7 ((bC c 34).trans Jb) (.no 10 ((bC c 92).trans HU) (.val 13 e (.ks tK (.obj hj (.kP q .nil))))))))
theorem WI{r:List Nat}(h:eK a H j)(hz:r.length+2<2^20):N_ d a H L push j 92 r (r.take 1++(tk isWs r.tail).1,(tk isWs r.tail).2):=by
 obtain hk:=h.ok.self (bg:=L-dX r) (push:=push) (cs:=r);obtain hj:=h.get (bg:=L-dX r.tail) (push:=push) (cs:=r.tail);obtain hl:(r.take 1).length+r.tail.length+1<2^20:=by obtain h1:=List.length_take_le 1 r;obtain h2:=List.length_tail;exact eO (nat_lit 0x1000006f190288111000006f293811310119201102104) ae h2 h1 (Nat.sub_le (r.length) (1)) hz
 obtain⟨m,q⟩:iY d (c8 xZ) (c9 xZ) a H L push j (r.take 1) r.tail (tk isWs r.tail):=eB (wq h) h r.tail (r.take 1) hl
 revert q
 generalize tk isWs r.tail=z;obtain⟨x,y,b⟩:=z;obtain e:=x6 (acc:=[]) r (by decide);obtain hc:=ff (d:=d+1) (L:=L) (push:=push) (cs:=r) h.ok;induction b<;>exact fun q=>az tK (.obj hk (.no 4 (iX 92) (.obj hk (.call hc (.val 14 e (.ks tK (.obj hj (.kP q .nil))))))))
theorem AR(h:eK a H j):∀cs:List Nat,cs.length+2<2^20→It (d+4) DK N9 oB j (tE a.k j []) (a.hl H L push cs) (N8 (gTok cs).2.2 (gTok cs).1) (tE a.k j (gTok cs).1) (a.hl (eH H a.k j (gTok cs).2.2) L push (gTok cs).2.1)
|[],aM=>h.stop|c::r,hz=>by
 obtain hz:r.length+3<2^20:=hz;have go:∀q,N_ d a H L push j c r q→It (d+4) DK N9 oB j (tE a.k j []) (a.hl H L push (c::r)) (N8 q.2.2 q.1) (tE a.k j q.1) (a.hl (eH H a.k j q.2.2) L push q.2.1):=fun q h1=>by
  obtain⟨x,y,b⟩:=q;induction b with |true=>exact h.ret h1|false=>exact h.step h1 (.inl rfl) ⟨0,.dead ((Lx.HO h.j1 h.j2 h.j3).trans (List.getElem?_set_self (c_ h.it).1))⟩
 unfold gTok;induction hw:isWs c with
 |true=>exact h.step (RG h hw) (.inr rfl) (AR h r (Nat.lt_of_succ_lt hz))|false=>induction Jb:c==34 with
  |true=>cases eq_of_beq Jb;exact go _ (WG h (by solve_by_elim [Nat.le_refl,Nat.le_of_lt,Nat.lt_of_lt_of_le,Nat.le_trans,Nat.lt_of_le_of_lt,Nat.lt_trans]))
  |false=>induction HU:c==92 with
   |true=>cases eq_of_beq HU;exact go _ (WI h (aJ (nat_lit 0x1000006f2908111000006f39081101) ae hz))
   |false=>exact go _ (WH h hw Jb HU (aJ (nat_lit 0x1000006f2908111000006f39081101) ae hz))
theorem Lx.Ok.app{o:aE}(h:a.Ok H):a.Ok (H++[o]):=by
 obtain e:∀{i:Nat},i<H.length→i<(H++[o]).length:=fun q=>by exact List.length_append▸(Nat.lt_succ_of_lt q)
 obtain⟨g,hg⟩:=h.AQ;exact⟨e h.lk,e h.lp,e h.lS,⟨g,by refine(List.getElem?_append_left (c_ hg).1).trans ?_;exact hg⟩,h.d1,h.d2,h.d3,h.d4,h.d5,h.d6⟩
theorem Lx.app{o:aE}(h:a.Ok H){l:Int}{cs:List Nat}:a.hp H l push cs++[o]=a.hp (H++[o]) l push cs:=by unfold Lx.hp;rw[List.set_append_left _ _ h.lk,List.set_append_left _ _ (by rw[List.length_set];exact h.lp),List.set_append_left _ _ (by simp only[List.length_set,List.length_set];exact h.lS)]
theorem m9{x:V}{p:List V}{cs:List Nat}{l:Int}(h:a.Ok H):aC (d+2) (.fn 106) [.ref a.k] (a.hp H l (x::p) cs) x (a.hp H l p cs):=by obtain hk:=h.self (bg:=l) (push:=x::p) (cs:=cs);obtain hp:=h.uF (bg:=l) (push:=x::p) (cs:=cs);exact(aS (.obj hk (.obj hp (.obj hk (.obj hp (.obj hp .nil)))))).hp (H₁:=(a.hp H l (x::p) cs).set a.kp (.lst p)) h.MI
theorem MK{k:Nat}{v:V}{xs:List V}{H H':AH}(hz:xs.length+1<2^20)(e:H.set k (.lst (xs++[v]))=H'):tO k (T "append") [v] (.lst xs) H=some (.none,H'):=(congrArg (fun c:Bool=>alt ((if c=true then(do fC k (.lst (xs++[v]));pure .none:M V) else M.fail) H) none) (decide_eq_true hz)).trans (congrArg (fun h=>some (V.none,h)) e)
theorem qu{v:V}{cs:List Nat}{l:Int}(h:a.Ok H)(hz:push.length+1<2^20):aC (d+2) (.fn 113) [.ref a.k,v] (a.hp H l push cs) .none (a.hp H l (push++[v]) cs):=by obtain hk:=h.self (bg:=l) (push:=push) (cs:=cs);obtain hp:=h.uF (bg:=l) (push:=push) (cs:=cs);obtain e:=MK (H:=a.hp H l push cs) hz (h.MI (p:=push++[v]));exact aS (.obj hk (.obj hp (.obj hp (.upd 3 e .nil))))
theorem x7(cs:List Nat)(h:a.Ok H)(hz:cs.length+2<2^20):aC (d+6) (.fn 106) [.ref a.k] (a.hl H L [] cs) (.str (sL (gTok cs).1)) (a.hl (H++[o_ a.k (gTok cs).2.2]) L [] (gTok cs).2.1):=by
 obtain hk:=h.self (bg:=L-dX cs) (push:=[]) (cs:=cs);obtain hp:=h.uF (bg:=L-dX cs) (push:=[]) (cs:=cs);obtain e0:(a.hl H L [] cs).length=H.length:=Lx.len;have hI:eK a (H++[o_ a.k true]) (a.hl H L [] cs).length:=⟨h.app,e0▸dJ,e0▸Nat.ne_of_lt h.lk,e0▸Nat.ne_of_lt h.lp,e0▸Nat.ne_of_lt h.lS,e0▸Nat.ne_of_lt (h.AQ.elim fun c q=>(c_ q).1)⟩
 obtain hj:=hI.get;obtain ea:=Lx.app h;obtain ee:∀b,eH (H++[o_ a.k true]) a.k (a.hl H L [] cs).length b=H++[o_ a.k b]:=fun b=>by
  induction b with |true=>rfl|false=>show(H++[o_ a.k true]).set _ _=_;rw[e0,dK]
 refine(AR (L:=L) (push:=[]) (d:=d) hI cs hz).elim fun m q=>?_
 rw[show a.hl (H++[o_ a.k true]) L [] cs=a.hl H L [] cs++[o_ a.k true] from ea.symm,ee] at q;rw[←ea] at hj
 revert q
 generalize gTok cs=z;obtain b:=z.2.2;induction b<;>exact fun q=>aS (.obj hk (.obj hp (.obj hk (.ks tK (.obj hj (.kP q .nil))))))
end
def RH(c:Nat):Str:=⟨placed (bx c) fun i a=>Unicode.lowerAt (bx c).cps i⟩
def kJ(c:Nat):Str:=match Hd.eI.lookup (c:Int) with |some x=>x|none=>RH c
theorem F0{d:Nat}(c:Nat)(H:AH):aC (d+2) (.fn 32) [.str (bx c)] H (.bool (cz.contains (c:Int))) H:=aS .nil
theorem ML{d:Nat}(c:Nat)(H:AH):aC (d+2) (.fn 78) [.str (bx c)] H (.str (kJ c)) H:=by
 unfold kJ;induction hl:Hd.eI.lookup (c:Int) with
 |some x=>
  obtain e:qQ Hd.eI "get" [.int c] H=some (.str x,H):=by show(pure (match Hd.eI.lookup (c:Int) with |some x=>V.str x|none=>V.none):M V) H=_;refine hl▸?_;rfl
  exact aS (.upd 4 e .nil)
 |none=>
  obtain e:qQ Hd.eI "get" [.int c] H=some (.none,H):=by show(pure (match Hd.eI.lookup (c:Int) with |some x=>V.str x|none=>V.none):M V) H=_;refine hl▸?_;rfl
  exact aS (.upd 4 e .nil)
end Mine
end
noncomputable section
open PySem PySem.W PySem.Builtin PySem.Builtin.Str PyProof.Rows
namespace Mine
section
variable{d:Nat}{au:Scope}{out:Out}{g:Comprehension}{gs:List Comprehension}{T:iW}
inductive fN(d:Nat)(au:Scope)(g:Comprehension)(T:iW)(x:V):iW|yes{env aq bu:ah}{ac kI:Acc}{H H₁ H₂ H₃:AH}{ks:List Str}(h1:n6 d au env g.target x H aq H₁)(h2:AA d au aq g.ifs H₁ true H₂)(h3:T aq ac H₂ bu kI H₃)(ho:bw G.C au ks bu=true):fN d au g T x env ac H (dH ks bu) kI H₃|no{env aq:ah}{ac:Acc}{H H₁ H₂:AH}{ks:List Str}(h1:n6 d au env g.target x H aq H₁)(h2:AA d au aq g.ifs H₁ false H₂)(ho:bw G.C au ks aq=true):fN d au g T x env ac H (dH ks aq) ac H₂
theorem fN.go{x:V}{xs:List V}{env aq aj:ah}{ac kI fu:Acc}{H H₁ H':AH}(h:fN d au g T x env ac H aq kI H₁)(k:aB d au g T xs aq kI H₁ aj fu H'):aB d au g T (x::xs) env ac H aj fu H':=by
 induction h with |yes h1 h2 h3 ho=>exact .yes h1 h2 h3 ho k|no h1 h2 ho=>exact .no h1 h2 ho k
theorem aB.fold{σ α:Type}{env:ah}(enc:α→V)(A:σ→Acc)(Hp:σ→AH)(f:σ→α→σ)(I:List α→σ→Prop)(hI:∀x xs s,I (x::xs) s→I xs (f s x))(step:∀x xs s,I (x::xs) s→fN d au g T (enc x) env (A s) (Hp s) env (A (f s x)) (Hp (f s x))):
  ∀(xs:List α) (s:σ),I xs s→aB d au g T (xs.map enc) env (A s) (Hp s) env (A (xs.foldl f s)) (Hp (xs.foldl f s))
 |[],aM,bL=>.nil|x::xs,s,h=>(step x xs s h).go (aB.fold enc A Hp f I hI step xs _ (hI x xs s h))
theorem aB.pick{α:Type}{env:ah}{H:AH}(enc f:α→V)(p:α→Bool)(xs:List α)(vs:List V)(hz:vs.length+xs.length<ak)(h:∀x∈xs,∀vs:List V,vs.length+1<ak→fN d au g T (enc x) env (.l vs) H env (.l (bif p x then vs++[f x] else vs)) H):
  aB d au g T (xs.map enc) env (.l vs) H env (.l (vs++(xs.filter p).map f)) H:=by
 induction xs generalizing vs with
 |nil=>rw[show vs++(([]:List α).filter p).map f=vs from List.append_nil vs];exact .nil|cons x xs ih=>
  obtain hz:=hz;refine(h x (List.mem_cons_self ..) vs (aQ (nat_lit 0x219081121918081101) ae hz)).go ?_;induction hp:p x with |true=>simp only[List.filter_cons_of_pos hp,List.map_cons,List.append_cons vs (f x) (List.map f (List.filter p xs))];exact ih (vs++[f x]) (by rw[List.length_append];show vs.length+1+xs.length<_;exact aQ (nat_lit 0x21190881121918081101) ae hz) fun y hy=>h y (List.mem_cons_of_mem _ hy)|false=>rw[List.filter_cons_of_neg (hp▸(Bool.false_ne_true))];exact ih vs (by solve_by_elim [Nat.le_refl,Nat.le_of_lt,Nat.lt_of_lt_of_le,Nat.le_trans,Nat.lt_of_le_of_lt,Nat.lt_trans]) fun y hy=>h y (List.mem_cons_of_mem _ hy)
noncomputable def MM(R:RL d)(au:Scope)(env:ah):∀(cs:List Expr) (H:AH),CM (Bool×AH) fun r=>AA (d+1) au env cs H r.1 r.2|[],H=>.ret (true,H) .nil|c::cs,H=>.aK (R.t au env c H) fun a=>.aK (ask a.1) fun w=>match w with |true=>.map (MM R au env cs a.2) (fun r=>r) fun r h3 h2 h1=>.t (h2▸h1) h3|false=>.ret (false,a.2) fun h2 h1=>.f (h2▸h1)
def MN(R:RL d)(au:Scope)(out:Out)(env:ah)(ac:Acc)(H:AH):CM (Acc×AH) fun r=>I9 (d+1) au out env ac H r.1 r.2:=match out,ac with
|.e x,.l vs=>.aK (R.e au env x H) fun a=>.aK (ask (Nat.blt (vs.length+1) ak)) fun w=>match w with |true=>.ret (.l (vs++[a.1]),a.2) fun h2 h1=>.e h1 (AL h2)|false=>.nil
|.kv k x,.d kvs=>.aK (R.e au env k H) fun t=>match t with
 |(.str t,H)=>.aK (R.e au env x H) fun a=>.aK (ask (Nat.blt (kvs.length+1) ak)) fun w=>match w with |true=>.ret (.d (aP kvs t a.1),a.2) fun h3 h2 h1=>.kv h1 h2 (AL h3)|false=>.nil
 |_=>.nil
|aM,bL=>.nil
def MO(R:RL d)(au:Scope)(out:Out)(gs:List Comprehension)(env:ah)(ac:Acc)(H:AH):CM (ah×Acc×AH) fun r=>dI (d+1) au out gs env ac H r.1 r.2.1 r.2.2:=match gs with |[]=>.map (MN R au out env ac H) (fun r=>(env,r)) fun r h=>⟨rfl,h⟩|g::gs=>.aK (cL (g.is_async==0)) fun a=>.aK (HK R au env g.target g.iter H) fun r=>.map (.cmp (fun aj fu H'=>aB (d+1) au g (dI (d+1) au out gs) r.1.1 env ac r.2 aj fu H')) (fun q=>(q.1,q.2.1,sq r.1.2 q.2.2)) fun q h2 h1 h0=>.mk (eq_of_beq h0) h1.fold h1.src h2 (jr ..)
def HV(R:RL d)(ks:List Str)(au:Scope)(g:Comprehension)(out:Out)(gs:List Comprehension)(x:V)(env:ah)(ac:Acc)(H:AH):CM (ah×Acc×AH) fun r=>fN (d+1) au g (dI (d+1) au out gs) x env ac H r.1 r.2.1 r.2.2:=
 .aK (R.a au env g.target x H) fun a=>.aK (MM R au a.1 g.ifs a.2) fun b=>match b with |(true,H)=>.aK (MO R au out gs a.1 ac H) fun r=>.map (cL (bw G.C au ks r.1)) (fun c=>(dH ks r.1,r.2)) fun c h4 h3 h2 h1=>.yes h1 h2 h3 h4|(false,H)=>.map (cL (bw G.C au ks a.1)) (fun c=>(dH ks a.1,ac,H)) fun c h3 h2 h1=>.no h1 h2 h3
theorem aF{x:V}{env aj:ah}{ac fu:Acc}{H H':AH}{O:List uC}{c:Prop}(ks:List Str)(F:Fz O c)(h:(HV (run (d:=d) 30) ks au g out gs x env ac H 0 O).map (fun r=>(r.a,r.c True))=some ((aj,fu,H'),c):=by kernel_rfl):fN (d+1) au g (dI (d+1) au out gs) x env ac H aj fu H':=CM.ok (J:=fun r:ah×Acc×AH=>fN (d+1) au g (dI (d+1) au out gs) x env ac H r.1 r.2.1 r.2.2) F.h h
end
end Mine
end
noncomputable section
open PySem PySem.W PySem.Builtin PySem.Builtin.Str
namespace Mine
abbrev DM(s:Stmt):Expr:=DC s
abbrev MP(e:Expr):Expr:=eJ e 0
noncomputable def B8:Expr→Scope|.ListComp _ _ s _=>s|.DictComp _ _ _ s _=>s|_=>default
noncomputable def Jc:Expr→Out|.ListComp e _ _ _=>.e e|.DictComp k v _ _ _=>.kv k v|e=>.e e
noncomputable def x8:Expr→List Comprehension|.ListComp _ g _ _=>g|.DictComp _ _ g _ _=>g|_=>[]
noncomputable def MQ(e:Expr):Comprehension:=(x8 e).headD default
abbrev bS(d:Nat)(e:Expr)(xs:List V)(env:ah)(ac:Acc)(H:AH)(fu:Acc)(H':AH):Prop:=aB d (B8 e) (MQ e) (dI d (B8 e) (Jc e) (x8 e).tail) xs env ac H env fu H'
abbrev uH(d:Nat)(e:Expr)(x:V)(env:ah)(ac:Acc)(H:AH)(fu:Acc)(H':AH):Prop:=fN d (B8 e) (MQ e) (dI d (B8 e) (Jc e) (x8 e).tail) x env ac H env fu H'
theorem sD:∀(i:Nat) (l:List Nat),aR (i:Int) (l.map aV)=(l.zipIdx i).map fun p=>.tup [.int p.2,aV p.1]|aM,[]=>rfl|i,c::r=>congrArg (V.tup [.int i,aV c]::·) (sD (i+1) r)
theorem sE(l:List Nat):(sL l).cps.toList.map (fun c=>V.str ⟨#[c]⟩)=l.map aV:=by rw[show(sL l).cps.toList=l from List.toList_toArray ..];rfl
theorem jv{n k:Nat}{i:Int}(e:i=k∨i+n=k∧i<0)(h:k<n)(hn:n<2^60):bV n i=some k:=by
 unfold bV;rw[if_pos (by simp only[Bool.and_eq_true,decide_eq_true_eq,decide_eq_true_eq];omega)];unfold seqIndex?;rcases e with rfl|⟨e,h0⟩
 ·obtain e1:¬(k:Int)<0:=by exact Cu (nat_lit 0x9096109079101) ae
  obtain e2:(decide (0≤(k:Int))&&decide ((k:Int)<(n:Int)))=true:=by simp only[Bool.and_eq_true,decide_eq_true_eq,decide_eq_true_eq];exact⟨Cu (nat_lit 118063360) ae,BZ (nat_lit 25321265959169) ae h⟩
  simp only[e1,if_false];rw[if_pos e2];rfl
 ·obtain e2:(decide (0≤(k:Int))&&decide ((k:Int)<(n:Int)))=true:=by simp only[Bool.and_eq_true,decide_eq_true_eq,decide_eq_true_eq];exact⟨Cu (nat_lit 118063360) ae,BZ (nat_lit 25321265959169) ae h⟩
  simp only[h0,if_true,e];rw[if_pos e2];rfl
theorem lz{l:List Nat}{k d:Nat}{i:Int}{H:AH}(e:i=k∨i+l.length=k∧i<0)(h:l[k]?=some d)(hn:l.length<2^60):item H (.str (sL l)) (.int i)=some (aV d):=by show((bV (sL l).length i).bind fun k=>(sL l).cps[k]?.map fun c=>V.str ⟨#[c]⟩)=_;rw[fy,jv e (c_ h).1 hn];show((sL l).cps[k]?.map fun c=>V.str ⟨#[c]⟩)=_;rw[show(sL l).cps[k]?=l[k]? from List.getElem?_toArray ..,h];rfl
theorem aD{a b:Nat}(h:a<b):Nat.blt a b=true:=Nat.ble_eq_true_of_le h
theorem DN{α β:Type}(f:α→β)(xs:List α)(lo hi:Option Int):cut (xs.map f) lo hi=(cut xs lo hi).map f:=by unfold cut;rw[List.length_map,List.map_take,List.map_drop]
theorem dM{α:Type}(f:α→V):∀(i:Nat) (l:List α),aR (i:Int) (l.map f)=(l.zipIdx i).map fun p=>.tup [.int p.2,f p.1]|aM,[]=>rfl|i,c::r=>congrArg (V.tup [.int i,f c]::·) (dM f (i+1) r)
theorem DO{H:AH}{k:Nat}{xs:List V}(hk:H[k]?=some (.lst xs)):i_ "len" [.ref k] H=some (.int xs.length,H):=congrArg (fun v=>(Js v).map fun(n:Nat)=>(V.int n,H)) (ly hk)
section
variable{d k:Nat}{H:AH}{ns:List Int}{m:Nat}
abbrev RI(k:Nat)(ns:List Int):ah:=[(T "script",.lst (ns.map .int)),(T "cells",.ref k)]
theorem kK{xs:List V}{j:Nat}{i:Int}{v:V}(e:i=j∨i+xs.length=j∧i<0)(h:xs[j]?=some v)(hn:xs.length<2^60):AK (some (.lst xs)) (.int i)=some v:=by show(bV xs.length i).bind (fun k=>xs[k]?)=_;exact(jv e (c_ h).1 hn)▸(h)
theorem m_{X:AH}{xs:List V}{j:Nat}{i:Int}{v:V}(e:i=j∨i+xs.length=j∧i<0)(h:xs[j]?=some v)(hn:xs.length<2^60):item X (.lst xs) (.int i)=some v:=kK e h hn
theorem AS{xs ys:List V}{i:Int}{k:Nat}{v:V}{H:AH}(hs:iP xs i v=some ys):yW k i v (.lst xs) H=some ((),H.set k (.lst ys)):=by show(match iP xs i v with |some ys=>fC k (.lst ys)|none=>M.fail:M Unit) H=_;rw[hs];rfl
theorem x9{xs:List V}{i:Int}{j:Nat}{v:V}(e:i=j)(h:j<xs.length)(hn:xs.length<2^60):iP xs i v=some (xs.set j v):=by unfold iP;rw[if_pos (decide_eq_true (e▸Int.natCast_nonneg j)),jv (.inl e) h hn];rfl
theorem uI{xs:List V}{j k:Nat}{v:V}{H H':AH}(h:j<xs.length)(hn:xs.length<2^60)(e:H.set k (.lst (xs.set j v))=H'):yW k (j:Int) v (.lst xs) H=some ((),H'):=e▸AS (x9 rfl h hn)
theorem WJ:binop .Pow (.int 10) (.int 12)=some (.int 1000000000000):=by exact congrArg (fun x=>some (V.int x)) (by decide:(10:Int)^(12:Int).toNat=1000000000000)
noncomputable def sF(m:Nat)(s:List Int)(p:Int×Nat):List Int:=s.set (p.2 %m) (s.getD (p.2 %m) 0+p.1.fmod 1000000000000)
theorem DP(hk:k<H.length)(h0:0<m)(h1:m<100)(s:List Int)(hs:s.length=m)(p:Int×Nat):
  Turn (d+1) (oh 13) (c8 (bR (bd 13) 0)) (c9 (bR (bd 13) 0)) (.tup [.int p.2,.int p.1]) (RI k ns) (H.set k (.lst (s.map .int))) .next (RI k ns) (H.set k (.lst ((sF m s p).map .int))):=by
 obtain x:=p.1;obtain n:=p.2;obtain g:=List.getElem?_set_self hk;obtain hl:(s.map V.int).length=m:=by simp only[List.length_map,hs]
 obtain e1:=DO g;rw[hl] at e1;obtain hm:=Nat.mod_lt _ h0;obtain ef:(n:Int).fmod (m:Int)=((n %m:Nat):Int):=by refine(Int.fmod_eq_emod_of_nonneg _ (Int.natCast_nonneg m)).trans ?_;rfl
 generalize n %m=i at hm ef;obtain e2:binop .Mod (.int n) (.int m)=some (.int (i:Int)):=by show(if((m:Int)!=0)=true then some (V.int ((n:Int).fmod m)) else none)=_;rw[if_pos (by simp only[bne_iff_ne];exact BZ (nat_lit 0x909610917a1101102) ae hm),ef]
 obtain ei:(s.map V.int)[i]?=some (.int (s.getD i 0)):=by simp only[List.getElem?_map,List.getD_eq_getElem?_getD,List.getElem?_eq_getElem (by rw[hs];exact hm)];rfl
 obtain e3:=kK (.inl rfl) ei (by rw[hl];exact aJ (nat_lit 0x1000000000000000100f01164e01101) ae h1);obtain e4:=uI (H:=H.set k (.lst (s.map .int))) (v:=.int (s.getD i 0+x.fmod 1000000000000)) (by rw[hl];exact hm) (by rw[hl];exact aJ (nat_lit 0x1000000000000000100f01164e01101) ae h1) rfl;rw[List.set_set,←List.map_set] at e4;exact az [T "script",T "cells"] (.upd 4 e1 (.val 5 e2 (.obj g (.val 6 e3 (.val 8 WJ (.obj g (.xV 11 e4 .nil)))))))
theorem sG(H:AH)(n:Nat):∀xs:List Int,fX (freeze (n+1)) (xs.map .int) H=some (xs.map .int,H)|[]=>rfl|x::xs=>by unfold fX;exact cZ rfl (cZ (sG H n xs) rfl)
theorem DQ{H:AH}{k n:Nat}{xs:List Int}(hk:H[k]?=some (.lst (xs.map .int))):freeze (n+2) (.ref k) H=some (.lst (xs.map .int),H.set k .gone):=cZ (a:=aE.lst (xs.map .int)) (H':=H) (by unfold hget;rw[hk]) (cZ (m:=fC k .gone) (a:=()) (H':=H.set k .gone) rfl (cZ (sG _ n xs) rfl))
theorem pe(s:List Int)(p:Int×Nat):(sF m s p).length=s.length:=List.length_set ..
theorem AU{cs:List Int}(hk:k<H.length)(h0:0<m)(h1:m<100)(hc:cs.length=m):∃Oa:List Int,Oa.length=m∧aC (d+2) (.fn 176) [.lst (ns.map .int),.ref k] (H.set k (.lst (cs.map .int))) (.lst (Oa.map .int)) (H.set k .gone):=by
 obtain l:=bX.fold (d:=d+1) (fun p:Int×Nat=>V.tup [.int p.2,.int p.1]) (fun a=>RI k ns) (fun s:List Int=>H.set k (.lst (s.map .int))) (sF m) (fun a s=>s.length=m) (fun a a s h=>(pe s _).trans h) (fun p a s h=>DP hk h0 h1 s h p) ((cut ns none (some 60)).zipIdx 0) cs hc;obtain hl:(((cut ns none (some 60)).zipIdx 0).foldl (sF m) cs).length=m:=by
  generalize (cut ns none (some 60)).zipIdx 0=ps;clear l;induction ps generalizing cs with |nil=>exact hc|cons p r ih=>exact ih ((pe cs p).trans hc)
 rw[←dM,←DN] at l
 revert hl l
 generalize ((cut ns none (some 60)).zipIdx 0).foldl (sF m) cs=Oa;intro l hl;obtain g:=List.getElem?_set_self hk;refine⟨Oa,hl,?_⟩;obtain q:=DQ (n:=8) g;rw[List.set_set] at q;exact Aq (aS (.loop l .nil)) q
end
section
variable{d k ks j:Nat}{H:AH}{a:Lx}{v:V}{o:aE}
theorem get_set{H:AH}{i j:Nat}{o:aE}(h:i≠j):(H.set i o)[j]?=H[j]?:=List.getElem?_set_ne h
abbrev o1:aE:=.inst 116 [(T "lineno",.int 1)]
abbrev o2(ks:Nat):aE:=.inst 116 [(T "lineno",.int 1),(T "instream",.ref ks)]
abbrev o3(ks:Nat):aE:=.inst 116 [(T "lineno",.int 1),(T "instream",.ref ks),(T "whitespace",.str (T "\n\t\r "))]
theorem DR(hk:H[k]?=some (.inst 116 [])):aC (d+2) (.fn 92) [.ref k,.ref ks] H .none ((H++[aE.lst []]).set k (k6 1 ks H.length)):=by
 obtain lt:=(c_ hk).1;obtain k1:(H.set k o1)[k]?=some o1:=List.getElem?_set_self lt;obtain k2:((H.set k o1).set k (o2 ks))[k]?=some (o2 ks):=List.getElem?_set_self (by rw[List.length_set];exact lt);obtain k3:(((H.set k o1).set k (o2 ks)).set k (o3 ks)++[aE.lst []])[k]?=some (o3 ks):=by rw[List.set_set,List.set_set,List.getElem?_append_left (by rw[List.length_set];exact lt)];exact List.getElem?_set_self lt
 refine(aS (.obj hk (.obj k1 (.obj k2 (.obj k3 .nil))))).hp (H₁:=(((H.set k o1).set k (o2 ks)).set k (o3 ks)++[aE.lst []]).set k (k6 1 ks (((H.set k o1).set k (o2 ks)).set k (o3 ks)).length)) ?_;rw[List.set_set,List.set_set,List.length_set,List.set_append_left _ _ (by rw[List.length_set];exact lt),List.set_set,List.set_append_left _ _ lt]
theorem x_{g:V}:aC (d+3) (.cls 116) [.ref ks] H (.ref H.length) ((H++[k6 1 ks (H.length+1)])++[aE.lst []]):=by obtain q:=DR (k:=H.length) dJ;rw[List.set_append_left _ _ (List.length_append▸(Nat.lt_succ_self _)),dK,List.length_append] at q;exact FH (cd:=((G.C.fW.lookup 116).getD ⟨[],[]⟩)) (by kernel_rfl) (by kernel_rfl) q
theorem AV(hv:pI v=true)(hk:H[k]?=some (.inst 144 [])):aC (d+2) (.fn 134) [.ref k,v] H .none (H.set k (.inst 144 [(T "comp_select_list",v)])):=aS (.obj hk .nil)
theorem Lx.HW{l:Int}{p:List V}{cs:List Nat}(h1:a.k≠j)(h2:a.kp≠j)(h3:a.kS≠j):(a.hp H l p cs).set j o=a.hp (H.set j o) l p cs:=by unfold Lx.hp;rw[List.set_comm _ _ h3,List.set_comm _ _ h2,List.set_comm _ _ h1]
theorem Lx.Ok.AJ(h:a.Ok H)(h4:a.ks≠j):a.Ok (H.set j o):=by
 have e:∀{i:Nat},i<H.length→i<(H.set j o).length:=fun q=>by rw[List.length_set];exact q
 exact⟨e h.lk,e h.lp,e h.lS,by rw[get_set (Ne.symm h4)];exact h.AQ,h.d1,h.d2,h.d3,h.d4,h.d5,h.d6⟩
end
theorem nf(st:Nat→Bool):∀cs:List Nat,(tk st cs).2.1.length≤cs.length
|[]=>Nat.le_refl _|[c]=>by
 unfold tk;induction st c
 ·induction c==92<;>exact Nat.zero_le _
 ·exact Nat.zero_le _
|c::d::r=>by
 obtain h1:=nf st r;obtain h2:=nf st (d::r);simp only[tk];induction st c
 ·induction c==92
  ·exact Nat.le_succ_of_le h2
  ·exact Nat.le_succ_of_le (Nat.le_succ_of_le h1)
 ·exact Nat.le_succ _
theorem sH:∀cs:List Nat,(gTok cs).2.1.length≤cs.length
|[]=>Nat.le_refl _|c::r=>by
 unfold gTok;induction isWs c
 ·induction c==34
  ·induction c==92
   ·exact Nat.le_succ_of_le (nf _ r)
   ·exact Nat.le_succ_of_le (Nat.le_trans (nf _ r.tail) (List.length_tail▸(Nat.sub_le ..)))
  ·exact Nat.le_succ_of_le (nf _ r)
 ·exact Nat.le_succ_of_le (sH r)
noncomputable def lexN:Nat→List Nat→List (List Nat)×List Nat|0,cs=>([],cs)|m+1,cs=>((gTok cs).1::(lexN m (gTok cs).2.1).1,(lexN m (gTok cs).2.1).2)
def bk(t:List Nat):V:=.str (sL t)
abbrev MR(a:Lx)(kT:Nat)(l:List Nat)(m:Int):ah:=[(T "text",.str (sL l)),(T "count",.int m),(T "signs",.ref a.kS),(T "tokens",.ref kT),(T "stream",.ref a.ks),(T "lexer",.ref a.k)]
abbrev WK:List Str:=[T "text",T "count",T "signs",T "tokens",T "stream",T "lexer"]
structure iM(a:Lx)(B:AH)(kT:Nat):Prop where
 ok:a.Ok B
 lt:kT<B.length
 n1:a.k≠kT
 n2:a.kp≠kT
 n3:a.kS≠kT
 n4:a.ks≠kT
theorem iM.app{a:Lx}{B:AH}{kT:Nat}{o:aE}(h:iM a B kT):iM a (B++[o]) kT:=⟨h.ok.app,by rw[List.length_append];exact Nat.lt_succ_of_lt h.lt,h.n1,h.n2,h.n3,h.n4⟩
abbrev wu(a:Lx)(kT:Nat)(L:Int)(B:AH)(ts:List (List Nat))(cs:List Nat):AH:=a.hl (B.set kT (.lst (ts.map bk))) L [] cs
section
variable{a:Lx}{B:AH}{kT d:Nat}{L m:Int}{l:List Nat}{ts:List (List Nat)}{cs:List Nat}
theorem AW(i:Int)(h:iM a B kT)(hz:cs.length+2<2^20)(ht:ts.length<1000):
  Turn (d+6) (oh 16) (c8 (bR (bd 16) 3)) (c9 (bR (bd 16) 3)) (.int i) (MR a kT l m) (wu a kT L B ts cs) .next (MR a kT l m) (wu a kT L (B++[o_ a.k (gTok cs).2.2]) (ts++[(gTok cs).1]) (gTok cs).2.1):=by
 obtain O1:=h.ok.AJ h.n4;obtain g:=x7 (d:=d) (L:=L) cs O1 hz;obtain O2:=O1.app;obtain eb:B.set kT (.lst (ts.map bk))++[o_ a.k (gTok cs).2.2]=(B++[o_ a.k (gTok cs).2.2]).set kT (.lst (ts.map bk)):=by rw[List.set_append_left _ _ h.lt]
 rw[eb] at g O2;obtain ya:=h.app (o:=o_ a.k (gTok cs).2.2)
 revert g O2 ya
 generalize o_ a.k (gTok cs).2.2=o;generalize gTok cs=z;obtain x:=z.1;obtain y:=z.2.1;intro g O2 ya;obtain k0:=O1.self (bg:=L-dX cs) (push:=[]) (cs:=cs);obtain k2:=O2.self (bg:=L-dX y) (push:=[bk x]) (cs:=y);obtain p:=qu (d:=d+4) (v:=bk x) (push:=[]) (cs:=y) (l:=L-dX y) O2 (by decide);obtain q:=m9 (d:=d+4) (x:=bk x) (p:=[]) (cs:=y) (l:=L-dX y) O2;obtain kt:(a.hl ((B++[o]).set kT (.lst (ts.map bk))) L [] y)[kT]?=some (.lst (ts.map bk)):=(Lx.HO ya.n1 ya.n2 ya.n3).trans (List.getElem?_set_self ya.lt);obtain e:=MK (v:=bk x) (xs:=ts.map bk) (H:=a.hl ((B++[o]).set kT (.lst (ts.map bk))) L [] y) (by rw[List.length_map];exact aJ (nat_lit 0x1000006f1908113e83f01101) ae ht) rfl;rw[Lx.HW ya.n1 ya.n2 ya.n3,List.set_set,←List.map_singleton,←List.map_append] at e;obtain WL:(a.hl ((B++[o]).set kT (.lst (ts.map bk))) L [bk x] y)[kT]?=some (.lst (ts.map bk)):=(Lx.HO ya.n1 ya.n2 ya.n3).trans (List.getElem?_set_self ya.lt);exact az WK (.obj k0 (.obj k0 (.call g (.call p (.obj WL (.obj k2 (.call q (.obj kt (.upd 4 e .nil)))))))))
abbrev Ob:Type:=AH×List (List Nat)×List Nat
def Oc(k:Nat)(s:Ob)(_:Nat):Ob:=(s.1++[o_ k (gTok s.2.2).2.2],s.2.1++[(gTok s.2.2).1],(gTok s.2.2).2.1)
theorem wz(k:Nat):∀(xs:List Nat) (s:Ob),∃t,xs.foldl (Oc k) s=(s.1++t,s.2.1++(lexN xs.length s.2.2).1,(lexN xs.length s.2.2).2)|[],s=>⟨[],by rw[List.append_nil];exact congrArg (fun x=>(s.1,x,s.2.2)) (List.append_nil _).symm⟩|x::xs,s=>by obtain⟨t,h⟩:=wz k xs (Oc k s x);refine⟨o_ k (gTok s.2.2).2.2::t,h.trans ?_⟩;show((s.1++[_])++t,(s.2.1++[_])++_,_)=_;simp only[List.append_assoc,List.append_assoc];rfl
theorem AX(n:Nat)(h:iM a B kT)(hz:cs.length+2<2^20)(ht:n<1000):∃t,bX (d+6) (oh 16) (c8 (bR (bd 16) 3)) (c9 (bR (bd 16) 3)) ((List.range n).map fun(i:Nat)=>.int (0+(i:Int))) (MR a kT l m) (wu a kT L B [] cs) .next (MR a kT l m) (wu a kT L (B++t) (lexN n cs).1 (lexN n cs).2):=by
 obtain q:=bX.fold (fun i:Nat=>V.int (0+(i:Int))) (fun b=>MR a kT l m) (fun s:Ob=>wu a kT L s.1 s.2.1 s.2.2) (Oc a.k) (fun xs s=>iM a s.1 kT∧s.2.2.length+2<2^20∧s.2.1.length+xs.length<1000)
  (fun x xs s h=>⟨h.1.app,Nat.lt_of_le_of_lt (Nat.add_le_add_right (sH _) 2) h.2.1,by obtain this:=h.2.2;unfold Oc;rw[List.length_append];simp only[List.length_cons,List.length_nil] at this⊢;exact aA (nat_lit 0x3e83f119098088113e83f1918081101) ae this⟩)
  (fun x xs s h=>AW _ h.1 h.2.1 (Nat.lt_of_le_of_lt (Nat.le_add_right _ _) h.2.2)) (List.range n) (B,[],cs) ⟨h,hz,by simp only[List.length_range,List.length_nil,Nat.zero_add];exact ht⟩
 refine(wz a.k (List.range n) (B,[],cs)).elim fun t e=>?_
 rw[e,List.length_range] at q;exact⟨t,q⟩
theorem wA{n:Int}{H:AH}(h:ig n=true):gF false "range" [.int n] H=some (.nK 0 n,H):=congrArg (fun c=>alt (bif c then some (V.nK 0 n,H) else none) none) h
theorem iy(n:Nat)(H:AH)(h:n<2^60):gF false "range" [.int n] H=some (.nK 0 n,H):=wA (decide_eq_true (by exact h))
theorem HX(l:List Nat)(H:AH)(h:l.length<2^20):gF true "list" [.str (sL l)] H=some (.ref H.length,H++[.lst (l.map aV)]):=by show(bif sizeOk ((sL l).cps.toList.map fun c=>V.str ⟨#[c]⟩).length then gC (.lst ((sL l).cps.toList.map fun c=>V.str ⟨#[c]⟩)) H else none)=_;rw[sE,show sizeOk (l.map aV).length=true from decide_eq_true (by rw[List.length_map];exact h)];rfl
end
theorem set_same{H:AH}{j:Nat}{o:aE}(h:H[j]?=some o):H.set j o=H:=by
 refine List.ext_getElem? fun i=>?_
 by_cases e:j=i
 ·subst e;rw[List.getElem?_set_self (c_ h).1,h]
 ·exact List.getElem?_set_ne e
theorem HY(H xs:AH)(i:Nat):(H++xs)[H.length+i]?=xs[i]?:=by rw[List.getElem?_append_right (Nat.le_add_right ..),Nat.add_sub_cancel_left]
abbrev HZ(e:Expr)(i:Nat):Expr:=eJ e i
abbrev MS:Expr:=HZ (dQ (bR (bd 16) 0)) 2
abbrev g0:V:=.lG [] (AO MS) (AP MS) []
section
variable{d n:Nat}{l:List Nat}{H:AH}
abbrev Jd(H:AH)(l:List Nat):AH:=H++[.lst (l.map aV)]
abbrev DS(H:AH)(l:List Nat):AH:=Jd H l++[.lst []]
abbrev B9(H:AH)(l:List Nat):AH:=(DS H l++[aE.oq g0 []]).set (DS H l).length (.oq g0 [(T "read",o9 H.length)])
abbrev tH(H:AH)(l:List Nat):AH:=(B9 H l++[k6 1 (DS H l).length ((B9 H l).length+1)])++[.lst []]
theorem uJ:tH H l=H++[.lst (l.map aV),.lst [],.oq g0 [(T "read",o9 H.length)],k6 1 (H.length+2) (H.length+4),.lst []]:=by unfold tH B9;rw[dK];simp only[List.length_append,List.length_cons,List.length_nil,List.append_assoc];rfl
theorem RJ:(Jd H l).length=H.length+1∧(DS H l).length=H.length+2∧(B9 H l).length=H.length+3:=by simp only[List.length_set,List.length_append,List.length_cons,List.length_nil,and_self,Nat.add_assoc]
theorem AY(n:Nat)(hn:n<1000)(hz:l.length+2<2^20):∃(a:Lx) (kT:Nat) (B:AH),iM a B kT∧(∀j,j<H.length→B[j]?=H[j]?)∧H.length≤a.k∧
  aC (d+8) (.fn 195) [.str (sL l),.int n] H (.tup [.ref a.k,.ref a.kS,.ref kT]) (wu a kT (1+dX l) B (lexN n l).1 (lexN n l).2):=by
 obtain⟨e1,e2,e4⟩:=RJ;let a:Lx:=⟨(B9 H l).length,(DS H l).length,(B9 H l).length+1,H.length⟩
 have g:∀i,(tH H l)[H.length+i]?=([.lst (l.map aV),.lst [],.oq g0 [(T "read",o9 H.length)],k6 1 (H.length+2) (H.length+4),.lst []]:AH)[i]?:=fun i=>by rw[uJ];exact HY ..
 have AZ:(tH H l).length=H.length+5:=by rw[uJ,List.length_append];rfl
 have A:iM a (tH H l) (Jd H l).length:=by
  have h4:=e4;have h2:a.ks=H.length+2:=e2
  have hp:=congrArg (·+1) e4;have hS:a.kS=H.length:=rfl
  refine⟨⟨?_,?_,?_,⟨g0,by rw[h2];exact g 2⟩,?_,?_,?_,?_,?_,?_⟩,?_,?_,?_,?_,?_⟩<;>(first|exact aQ (nat_lit 0x20115918231391802102) ae h4 AZ|exact aQ (nat_lit 0x20115918231491802102) ae hp AZ|exact aA (nat_lit 18784333082881) ae AZ|exact aQ (nat_lit 0x9096102213918231291802103) ae h2 h4|exact aQ (nat_lit 0x9096102313918221491803103) ae hp h4|exact aA (nat_lit 0x909611021391803102) ae h4|exact aQ (nat_lit 0x9096120212918221491803103) ae hp h2|exact aA (nat_lit 0x909610131291803102) ae h2|exact aA (nat_lit 0x909611021491803102) ae hp|exact aQ (nat_lit 0x2115918031191822102) ae e1 AZ|exact aQ (nat_lit 0x9096120211918221391803103) ae h4 e1|exact aQ (nat_lit 0x9096120211918221491803103) ae hp e1|exact aA (nat_lit 0x909610131191803102) ae e1|exact aQ (nat_lit 0x9096120211918221291803103) ae h2 e1)
 have eq:wu a (Jd H l).length (1+dX l) (tH H l) [] l=tH H l:=by
  show a.hp ((tH H l).set (Jd H l).length (.lst [])) (1+dX l-dX l) [] l=_;rw[set_same (by rw[e1];exact g 1),Int.add_sub_cancel];have s1:=set_same (by show(tH H l)[(B9 H l).length]?=some (k6 1 (DS H l).length ((B9 H l).length+1));rw[e4,e2];exact g 3)
  have s2:=set_same (by show(tH H l)[(B9 H l).length+1]?=_;rw[e4];exact g 4);have s3:(tH H l).set a.kS (.lst (l.map aV))=tH H l:=set_same (g 0)
  unfold Lx.hp;rw[s1,s2,s3]
 obtain⟨t,q⟩:=AX (d:=d+1) (l:=l) (m:=n) n A hz hn;rw[eq] at q;refine⟨a,(Jd H l).length,tH H l++t,?_,fun j hj=>?_,?_,?_⟩
 ·have le:∀{i},i<(tH H l).length→i<(tH H l++t).length:=fun q=>by rw[List.length_append];exact aQ (nat_lit 36833925796097) ae q
  obtain⟨f,hf⟩:=A.ok.AQ;exact⟨⟨le A.ok.lk,le A.ok.lp,le A.ok.lS,⟨f,by rw[List.getElem?_append_left (c_ hf).1];exact hf⟩,A.ok.d1,A.ok.d2,A.ok.d3,A.ok.d4,A.ok.d5,A.ok.d6⟩,le A.lt,A.n1,A.n2,A.n3,A.n4⟩
 ·rw[List.getElem?_append_left (by rw[AZ];exact aA (nat_lit 0x5918011101101) ae hj),uJ,List.getElem?_append_left hj]
 ·dsimp only[a];rw[e4];exact aJ (nat_lit 15309209856) ae
 ·have u0:=HX l H (aJ (nat_lit 0x1000006f0111000006f29081101) ae hz);have r0:=iy n (tH H l) (aJ (nat_lit 0x1000000000000000100f0113e83f01101) ae hn);have f0:(DS H l++[aE.oq g0 []])[(DS H l).length]?=some (.oq g0 []):=dJ
  have nw:=x_ (d:=d+4) (ks:=(DS H l).length) (H:=B9 H l) (g:=.none);exact aS (.upd 2 u0 (.obj f0 (.call nw (.upd 9 r0 (.loop q .nil)))))
end
noncomputable def g_(q:Bool)(i:Nat)(c:Nat):Bool:=bif q then c==34||c==92 else(c==32||(c==9||(c==13||(c==10||c==92))))||(i==0&&c==34)
noncomputable def escL(q all:Bool):Nat→List Nat→List Nat|aM,[]=>[]|i,c::r=>(bif g_ q i c||all then [92,c] else [c])++escL q all (i+1) r
noncomputable def allB(way:Int):Bool:=(way.fdiv 2).fmod 2!=0
abbrev wE(raw:List Nat)(way e:Int)(q:Bool)(acc:List Nat):ah:=[(T "raw",.str (sL raw)),(T "way",.int way),(T "end",.int e),(T "quoted",.bool q),(T "text",.str (sL acc))]
abbrev wK:List Str:=[T "raw",T "way",T "end",T "quoted",T "text"]
abbrev Od:Expr:=c8 (bR (bd 15) 2)
abbrev Oe:List Stmt:=c9 (bR (bd 15) 2)
section
variable{d:Nat}{H:AH}{raw acc:List Nat}{way e:Int}
theorem in_str{c:Nat}{x:Str}{b:Bool}(h:x.cps.toList.contains c=b):bI H .In (.str (bx c)) (.str x)=some (.bool b):=congrArg (fun b=>some (V.bool b)) ((m8 c x).trans h)
theorem eq_int{i j:Int}{b:Bool}(h:(i==j)=b):bI H .Eq (.int i) (.int j)=some (.bool b):=congrArg (fun b=>some (V.bool b)) h
theorem eq_str{x y:Str}{b:Bool}(h:(x==y)=b):bI H .Eq (.str x) (.str y)=some (.bool b):=congrArg (fun b=>some (V.bool b)) h
theorem H6(q:Bool)(i c:Nat)(hz:acc.length+2<2^20):Turn (d+1) (oh 15) Od Oe (.tup [.int i,aV c]) (wE raw way e q acc) H .next (wE raw way e q (acc++(bif g_ q i c||allB way then [92,c] else [c]))) H:=by
 obtain a2:=HP (b:=[92,c]) hz;have a1:=HP (b:=[c]) (Nat.lt_of_succ_lt hz)
 induction q with
 |true=>
  refine(?_:Turn (d+1) (oh 15) Od Oe _ _ H .next (wE raw way e true (acc++(bif (c==34||c==92)||allB way then [92,c] else [c]))) H);have h0:(T "\"\\").cps.toList.contains c=(c==34||c==92):=by show((c==34)||((c==92)||false))=_;rw[Bool.or_false]
  induction hb:(c==34||c==92) with |true=>exact az wK (.val 3 (in_str (H:=H) (h0.trans hb)) (.val 10 a2 .nil))|false=>induction ha:allB way with |true=>exact az wK (.val 3 (in_str (H:=H) (h0.trans hb)) (.no 10 ha (.val 14 a2 .nil)))|false=>exact az wK (.val 3 (in_str (H:=H) (h0.trans hb)) (.no 10 ha (.val 13 a1 .nil)))
 |false=>
  refine(?_:Turn (d+1) (oh 15) Od Oe _ _ H .next (wE raw way e false (acc++(bif ((c==32||(c==9||(c==13||(c==10||c==92))))||(i==0&&c==34))||allB way then [92,c] else [c]))) H);have h0:(T " \t\r\n\\").cps.toList.contains c=(c==32||(c==9||(c==13||(c==10||c==92)))):=by show((c==32)||((c==9)||((c==13)||((c==10)||((c==92)||false)))))=_;rw[Bool.or_false]
  induction hb:(c==32||(c==9||(c==13||(c==10||c==92)))) with
  |true=>exact az wK (.val 3 (in_str (H:=H) (h0.trans hb)) (.val 11 a2 .nil))|false=>
   have hi:((i:Int)==0)=(i==0):=by lia
   induction hp:i==0 with
   |false=>induction ha:allB way with |true=>exact az wK (.val 3 (in_str (H:=H) (h0.trans hb)) (.val 6 (eq_int (H:=H) (hi.trans hp)) (.no 14 ha (.val 18 a2 .nil))))|false=>exact az wK (.val 3 (in_str (H:=H) (h0.trans hb)) (.val 6 (eq_int (H:=H) (hi.trans hp)) (.no 14 ha (.val 17 a1 .nil))))
   |true=>induction hs:c==34 with |true=>exact az wK (.val 3 (in_str (H:=H) (h0.trans hb)) (.val 6 (eq_int (H:=H) (hi.trans hp)) (.val 9 (eq_str (H:=H) ((bC c 34).trans hs)) (.val 16 a2 .nil))))|false=>induction ha:allB way with |true=>exact az wK (.val 3 (in_str (H:=H) (h0.trans hb)) (.val 6 (eq_int (H:=H) (hi.trans hp)) (.val 9 (eq_str (H:=H) ((bC c 34).trans hs)) (.no 16 ha (.val 20 a2 .nil)))))|false=>exact az wK (.val 3 (in_str (H:=H) (h0.trans hb)) (.val 6 (eq_int (H:=H) (hi.trans hp)) (.val 9 (eq_str (H:=H) ((bC c 34).trans hs)) (.no 16 ha (.val 19 a1 .nil)))))
end
noncomputable def endsL(q:Bool):Nat→List Nat|0=>bif q then [34] else [32]|1=>bif q then [34,32] else [10]|2=>bif q then [34,10] else [13]|_=>bif q then [34,9,13,10] else [9,32,10]
def MT(q:Bool):V:=.lst (bif q then [.str (T "\""),.str (T "\" "),.str (T "\"\n"),.str (T "\"\t\r\n")] else [.str (T " "),.str (T "\n"),.str (T "\r"),.str (T "\t \n")])
noncomputable def A0(way:Int):Nat:=((way.fdiv 4).fmod 4).toNat
def tailL(q:Bool)(way:Int):Nat→List Nat|0=>endsL q (A0 way)|1=>[]|_=>[92]
def fQ(raw:List Nat)(way:Int):Bool:=(way.fmod 2==0)||(sL raw==T "")
def wB(raw:List Nat)(way:Int)(e:Nat):List Nat:=((bif fQ raw way then [34] else [])++escL (fQ raw way) (allB way) 0 raw)++tailL (fQ raw way) way e
theorem j5(H:AH)(q:Bool)(way:Int):item H (MT q) (.int ((way.fdiv 4).fmod 4))=some (.str (sL (endsL q (A0 way)))):=by
 have h0:0≤(way.fdiv 4).fmod 4:=Int.fmod_nonneg_of_pos _ (by decide);have h4:(way.fdiv 4).fmod 4<4:=Int.fmod_lt_of_pos _ (by decide)
 unfold A0;generalize (way.fdiv 4).fmod 4=j at h0 h4;have :j=0∨j=1∨j=2∨j=3:=by lia
 induction q<;>rcases this with rfl|rfl|rfl|rfl<;>kernel_rfl
theorem ng(q a:Bool):∀(raw:List Nat) (i:Nat),(escL q a i raw).length≤2* raw.length
|[],i=>Nat.le_refl _|c::r,i=>by
 obtain ih:=ng q a r (i+1);unfold escL;simp only[List.length_append,List.length_cons];induction g_ q i c||a
 ·refine(?_:1+_≤_);omega
 ·refine(?_:2+_≤_);omega
theorem sI(q a:Bool):∀(raw acc:List Nat) (i:Nat),(raw.zipIdx i).foldl (fun acc p=>acc++(bif g_ q p.2 p.1||a then [92,p.1] else [p.1])) acc=acc++escL q a i raw|[],acc,i=>(List.append_nil acc).symm|c::r,acc,i=>by simp only[List.zipIdx_cons,List.foldl_cons,sI q a r];exact List.append_assoc ..
section
variable{d:Nat}{H:AH}{raw:List Nat}{way:Int}{e:Nat}
theorem uK(q:Bool)(b0:List Nat)(e:Int)(hb:b0.length≤1)(hr:raw.length<1000):bX (d+1) (oh 15) Od Oe (aR 0 ((sL raw).cps.toList.map fun c=>V.str ⟨#[c]⟩)) (wE raw way e q b0) H .next (wE raw way e q (b0++escL q (allB way) 0 raw)) H:=by
 obtain l:=bX.fold (fun p:Nat×Nat=>V.tup [.int p.2,aV p.1]) (fun acc=>wE raw way e q acc) (fun a=>H) (fun acc p=>acc++(bif g_ q p.2 p.1||allB way then [92,p.1] else [p.1])) (fun xs acc=>acc.length+2* xs.length<3000)
  (fun p xs acc h=>by
   rw[List.length_append];simp only[List.length_cons] at h;induction g_ q p.2 p.1||allB way
   ·refine(?_:acc.length+1+_<_);omega
   ·refine(?_:acc.length+2+_<_);omega)
  (fun p xs acc h=>H6 q p.2 p.1 (by simp only[List.length_cons] at h;exact aA (nat_lit 0x1000006f290811bb83f19182a081101) ae h)) (raw.zipIdx 0) b0 (by rw[List.length_zipIdx];exact aA (nat_lit 0xbb83f02a1811191013e83f01202) ae hr hb)
 rw[sI,←sD,←sE] at l;exact l
theorem H7{a b:List Nat}(h:a.length+b.length<2^20):binop .Add (.str (sL a)) (.str (sL b))=some (.str (sL (a++b))):=by show(if sizeOk ((sL a).length+(sL b).length) then some (V.str (sL a++sL b)) else none)=_;rw[fy,fy,show sizeOk (a.length+b.length)=true from decide_eq_true h,uG];rfl
theorem uL(he:e<3)(hr:raw.length<1000):aC (d+2) (.fn 188) [.str (sL raw),.int way,.int e] H (.str (sL (wB raw way e))) H:=by
 have hlen:∀q b0,b0.length≤1→∀t:List Nat,t.length≤4→(b0++escL q (allB way) 0 raw).length+t.length<2^20:=fun q b0 hb t ht=>by obtain this:=ng q (allB way) raw 0;rw[List.length_append];exact eO (nat_lit 0x1000006f203881119301492013e83f11212a00104) ae this hr ht hb
 have ht:∀q,(tailL q way e).length≤4:=fun q=>by
  unfold tailL;split
  ·unfold endsL;split<;>induction q<;>decide
  ·decide
  ·decide
 unfold wB;induction hw:(way.fmod 2==0) with
 |true=>
  rw[show fQ raw way=true by unfold fQ;rw[hw];rfl];have it:=j5 H true way
  have ad:=H7 (hlen true [34] (Nat.le_refl _) _ (ht true));have lp:=uK (d:=d) (H:=H) (way:=way) true [34] e (Nat.le_refl _) hr
  obtain rfl|rfl|rfl:e=0∨e=1∨e=2:=by omega
  ·exact aS (.val 2 (eq_int (H:=H) hw) (.loop lp (.val 15 it (.val 18 ad .nil))))
  ·exact aS (.val 2 (eq_int (H:=H) hw) (.loop lp (.val 15 it (.val 18 ad .nil))))
  ·exact aS (.val 2 (eq_int (H:=H) hw) (.loop lp (.val 15 it (.val 18 ad .nil))))
 |false=>
  induction hq:sL raw==T "" with
  |true=>
   rw[show fQ raw way=true by unfold fQ;rw[hw,hq];rfl];have it:=j5 H true way
   have ad:=H7 (hlen true [34] (Nat.le_refl _) _ (ht true));have lp:=uK (d:=d) (H:=H) (way:=way) true [34] e (Nat.le_refl _) hr
   obtain rfl|rfl|rfl:e=0∨e=1∨e=2:=by omega
   ·exact aS (.val 2 (eq_int (H:=H) hw) (.val 5 (eq_str (H:=H) hq) (.loop lp (.val 17 it (.val 20 ad .nil)))))
   ·exact aS (.val 2 (eq_int (H:=H) hw) (.val 5 (eq_str (H:=H) hq) (.loop lp (.val 17 it (.val 20 ad .nil)))))
   ·exact aS (.val 2 (eq_int (H:=H) hw) (.val 5 (eq_str (H:=H) hq) (.loop lp (.val 17 it (.val 20 ad .nil)))))
  |false=>
   rw[show fQ raw way=false by unfold fQ;rw[hw,hq];rfl];have it:=j5 H false way
   have ad:=H7 (hlen false [] (Nat.zero_le _) _ (ht false));have lp:=uK (d:=d) (H:=H) (way:=way) false [] e (Nat.zero_le _) hr
   obtain rfl|rfl|rfl:e=0∨e=1∨e=2:=by omega
   ·exact aS (.val 2 (eq_int (H:=H) hw) (.val 5 (eq_str (H:=H) hq) (.loop lp (.val 17 it (.val 20 ad .nil)))))
   ·exact aS (.val 2 (eq_int (H:=H) hw) (.val 5 (eq_str (H:=H) hq) (.loop lp (.val 17 it (.val 20 ad .nil)))))
   ·exact aS (.val 2 (eq_int (H:=H) hw) (.val 5 (eq_str (H:=H) hq) (.loop lp (.val 17 it (.val 20 ad .nil)))))
end
def GT(cs tok rest:List Nat):Prop:=(gTok cs).1=tok∧(gTok cs).2.1=rest
theorem qw{st:Nat→Bool}{q all b:Bool}{tl r:List Nat}(HU:st 92=false)(hh:∀i c,(g_ q i c||all)=false→st c=false∧(c==92)=false)(ht:tk st tl=([],r,b)):∀(raw:List Nat) (i:Nat),tk st (escL q all i raw++tl)=(raw,r,b)
|[],aM=>ht|c::raw,i=>by
 obtain ih:=qw HU hh ht raw (i+1);unfold escL;induction hb:g_ q i c||all with |true=>refine(?_:tk st (92::c::(escL q all (i+1) raw++tl))=_);rw[MJ HU,ih]|false=>refine(?_:tk st (c::(escL q all (i+1) raw++tl))=_);rw[HS (hh i c hb).1 (hh i c hb).2,ih]
theorem H8{all:Bool}(i c:Nat)(h:(g_ true i c||all)=false):(c==34)=false∧(c==92)=false:=nP (nP h).1
theorem A1{all:Bool}(i c:Nat)(h:(g_ false i c||all)=false):isWs c=false∧(c==92)=false:=by obtain h1:=nP (nP (nP h).1).1;obtain h2:=nP h1.2;obtain h3:=nP h2.2;obtain h4:=nP h3.2;refine⟨?_,h4.2⟩;unfold isWs;simp only[h4.1,h2.1,h3.1,h1.1];rfl
theorem A2{all b:Bool}{raw tl r:List Nat}(ht:tk (·==34) tl=([],r,b)):GT (34::(escL true all 0 raw++tl)) raw r:=by obtain e:gTok (34::(escL true all 0 raw++tl))=tk (·==34) (escL true all 0 raw++tl):=rfl;unfold GT;rw[e,qw rfl H8 ht];exact⟨rfl,rfl⟩
theorem DT{all b:Bool}{c:Nat}{raw tl r:List Nat}(ht:tk isWs tl=([],r,b)):GT (escL false all 0 (c::raw)++tl) (c::raw) r:=by
 obtain ih:=qw rfl A1 ht raw 1;unfold escL GT;induction hb:g_ false 0 c||all with
 |true=>obtain e:gTok ((92::c::[])++escL false all 1 raw++tl)=([c]++(tk isWs (escL false all 1 raw++tl)).1,(tk isWs (escL false all 1 raw++tl)).2):=rfl;rw[ih] at e;exact⟨congrArg (·.1) e,congrArg (·.2.1) e⟩
 |false=>
  obtain h:=A1 0 c hb;obtain Jb:(c==34)=false:=(nP (nP hb).1).2;obtain e:gTok (c::(escL false all 1 raw++tl))=(c::(tk isWs (escL false all 1 raw++tl)).1,(tk isWs (escL false all 1 raw++tl)).2):=by rw[gTok,h.1,Jb,h.2];rfl
  rw[ih] at e;exact⟨congrArg (·.1) e,congrArg (·.2.1) e⟩
theorem pg(X:List Nat):∀(left:List Nat),left.all isWs=true→gTok (left++X)=gTok X|[],aM=>rfl|c::r,h=>by obtain h:=bj h;refine(?_:gTok (c::(r++X))=_);rw[gTok,h.1];exact pg X r h.2
theorem H9(j:Nat):∃left,left.all isWs=true∧endsL true j=34::left:=by
 unfold endsL;split
 ·exact⟨[],rfl,rfl⟩
 ·exact⟨[32],rfl,rfl⟩
 ·exact⟨[10],rfl,rfl⟩
 ·exact⟨[9,13,10],rfl,rfl⟩
theorem H_(j:Nat):∃w left,isWs w=true∧left.all isWs=true∧endsL false j=w::left:=by
 unfold endsL;split
 ·exact⟨32,[],rfl,rfl,rfl⟩
 ·exact⟨10,[],rfl,rfl,rfl⟩
 ·exact⟨13,[],rfl,rfl,rfl⟩
 ·exact⟨9,[32,10],rfl,rfl,rfl⟩
theorem qx{raw tl left r:List Nat}{way:Int}(hq:∀b,fQ raw way=b→∃c,tk (bif b then(·==34) else isWs) tl=([],r,c)):GT (((bif fQ raw way then [34] else [])++escL (fQ raw way) (allB way) 0 raw)++tl) raw r:=by
 induction hb:fQ raw way with
 |true=>exact(hq true hb).elim fun c h=>A2 h|false=>
  induction raw with |nil=>exact nomatch (show fQ [] way=true by unfold fQ;simp only[show(sL []==T "")=true by kernel_rfl,Bool.or_true]).symm.trans hb|cons c r'=>exact(hq false hb).elim fun c h=>DT h
theorem pn(raw rest:List Nat)(way:Int):∃left,left.all isWs=true∧GT (wB raw way 0++rest) raw (left++rest):=by
 unfold wB;induction hq:fQ raw way with
 |true=>
  obtain⟨left,h1,h2⟩:=H9 (A0 way);refine⟨left,h1,?_⟩;obtain this:=qx (tl:=34::(left++rest)) (left:=left) fun b hb=>⟨true,by rw[←hb,hq];exact DI rfl⟩
  rw[hq] at this;rw[List.append_assoc,show tailL true way 0=34::left from h2];exact this
 |false=>
  refine(H_ (A0 way)).elim fun w WM=>?_;refine WM.elim fun left RK=>?_;obtain h0:=RK.1;obtain h1:=RK.2.1;obtain h2:=RK.2.2
  refine⟨left,h1,?_⟩;obtain this:=qx (left:=left) (r:=left++rest) fun b hb=>⟨true,by rw[←hb,hq];exact DI h0⟩
  rw[hq] at this;rw[List.append_assoc,show tailL false way 0=w::left from h2];exact this
theorem Ia(raw:List Nat)(way:Int)(e:Nat)(he:e<3):∃left,left.all isWs=true∧GT (wB raw way e) raw left:=by
 obtain rfl|rfl|rfl:e=0∨e=1∨e=2:=by lia
 ·obtain⟨left,h1,h2⟩:=pn raw [] way;rw[List.append_nil,List.append_nil] at h2;exact⟨left,h1,h2⟩
 ·exact⟨[],rfl,qx (left:=[]) fun b a=>⟨false,rfl⟩⟩
 ·exact⟨[],rfl,qx (left:=[]) fun b a=>⟨false,by induction b<;>exact FZ rfl⟩⟩
theorem j6(X left:List Nat)(h:left.all isWs=true)(m:Nat):lexN (m+1) (left++X)=lexN (m+1) X:=by unfold lexN;rw[pg X left h]
theorem A3(m:Nat):lexN m []=(List.replicate m [],[]):=by
 induction m with |zero=>rfl|succ m ih=>show([]::(lexN m []).1,(lexN m []).2)=_;rw[ih];rfl
theorem A4(m:Nat)(left:List Nat)(h:left.all isWs=true):lexN (m+1) left=(List.replicate (m+1) [],[]):=by obtain e:=j6 [] left h m;rw[List.append_nil] at e;simp only[e,A3]
theorem wC{m:Nat}{cs tok rest:List Nat}(h:GT cs tok rest):lexN (m+1) cs=(tok::(lexN m rest).1,(lexN m rest).2):=by show((gTok cs).1::(lexN m (gTok cs).2.1).1,(lexN m (gTok cs).2.1).2)=_;rw[h.1,h.2]
noncomputable def txtL:List (List Nat×Int)→Nat→List Nat|[],aM=>[]|[p],e=>wB p.1 p.2 e|p::q::rest,e=>wB p.1 p.2 0++txtL (q::rest) e
theorem wD(e:Nat)(he:e<3):∀(ws:List (List Nat×Int)),ws≠[]→∀left:List Nat,left.all isWs=true→lexN (ws.length+2) (left++txtL ws e)=(ws.map (·.1)++[[],[]],[])
|[],h,aM,bL=>absurd rfl h|[p],aM,left,hl=>by obtain⟨l2,h2,h3⟩:=Ia p.1 p.2 e he;refine(?_:lexN 3 (left++wB p.1 p.2 e)=_);rw[j6 _ _ hl,wC h3,A4 1 l2 h2];rfl
|p::q::rest,aM,left,hl=>by
 refine(pn p.1 (txtL (q::rest) e) p.2).elim fun l2 TR=>?_;obtain h2:=TR.1;obtain h3:=TR.2
 refine(?_:lexN ((q::rest).length+2+1) (left++(wB p.1 p.2 0++txtL (q::rest) e))=_);rw[j6 _ _ hl,wC h3,wD e he (q::rest) (List.cons_ne_nil _ _) l2 h2];rfl
noncomputable def A5:List Nat:=(List.range 12).map fun k=>119823+52* (k+k/6)
noncomputable def lA:List Nat:=[173,847,6150,6155,6156,6157,8203,8204,8205,8288,65279,65024,65025,65026,65027,65028,65029,65030,65031,65032,65033,65034,65035,65036,65037,65038,65039]
noncomputable def lB:List Nat:=[172,174,846,848,6149,6151,6154,6158,8202,8206,8287,8289,65023,65040,65278,65280,11,12,28,160]
def sJ(p:Nat×List Nat):Bool:=Nat.ble p.2.length 3&&(bif cz.contains (p.1:Int) then p.2.isEmpty else kJ p.1==sL p.2)
noncomputable def SG(m u o:Nat):List (Nat×List Nat):=[(107,[107]),(77,[109]),(m,[112]),(65,[97]),(86,[118]),(13262,[107,109]),(13225,[112,97]),(13226,[107,112,97]),(35,[35]),(13240,[107,118]),(32,[32]),(34,[34]),(92,[92]),(10,[10]),(u,[]),(o,[o])]
theorem uM:(A5.all fun m=>sJ (m,[112]))=true∧(lA.all fun u=>sJ (u,[]))=true∧(lB.all fun o=>sJ (o,[o]))=true:=by refine⟨by kernel_rfl,by kernel_rfl,by kernel_rfl⟩
theorem DU:([(107,[107]),(77,[109]),(65,[97]),(86,[118]),(13262,[107,109]),(13225,[112,97]),(13226,[107,112,97]),(35,[35]),(13240,[107,118]),(32,[32]),(34,[34]),(92,[92]),(10,[10])]:List (Nat×List Nat)).all sJ=true:=by kernel_rfl
theorem MU{m u o:Nat}(hm:m∈A5)(hu:u∈lA)(ho:o∈lB):(SG m u o).all sJ=true:=by obtain f:=DU;obtain a:=cO uM.1 m hm;obtain b:=cO uM.2.1 u hu;obtain c:=cO uM.2.2 o ho;unfold SG;simp only[List.all_cons,List.all_nil,Bool.and_true,Bool.and_eq_true] at f⊢;exact⟨f.1,f.2.1,a,f.2.2.1,f.2.2.2.1,f.2.2.2.2.1,f.2.2.2.2.2.1,f.2.2.2.2.2.2.1,f.2.2.2.2.2.2.2.1,f.2.2.2.2.2.2.2.2.1,f.2.2.2.2.2.2.2.2.2.1,f.2.2.2.2.2.2.2.2.2.2.1,f.2.2.2.2.2.2.2.2.2.2.2.1,f.2.2.2.2.2.2.2.2.2.2.2.2,b,c⟩
theorem sM(H:AH)(l:List Nat)(f:Nat→Int)(m:Nat)(x:Int)(hm:l.length=m)(h0:0<m)(h1:m<100):∃v∈l,item H (.lst (l.map fun c=>.int (f c))) (.int (x.fmod m))=some (.int (f v)):=by
 obtain a0:0≤x.fmod m:=Int.fmod_nonneg_of_pos _ (by simp_all);obtain a1:x.fmod m<m:=Int.fmod_lt_of_pos _ (Cu (nat_lit 0x709910091101) ae h0)
 revert a0 a1
 generalize x.fmod m=j;intro a0 a1;obtain bT:j.toNat<l.length:=by exact Iz.go (nat_lit 0x1211013107091027a103) [_,_,_] [_] ae (Int.toNat_of_nonneg (yJ (nat_lit 653104087297) ae a0)) a1 hm
 refine⟨l[j.toNat],List.getElem_mem bT,?_⟩;show(bV (l.map fun c=>V.int (f c)).length j).bind (fun k=>(l.map fun c=>V.int (f c))[k]?)=_;rw[jv (k:=j.toNat) (.inl (by exact IX (nat_lit 7740873749777) ae (Int.toNat_of_nonneg (yJ (nat_lit 653104087297) ae a0)))) (by rw[List.length_map];exact bT) (by rw[List.length_map];exact aA (nat_lit 0x1000000000000000100f11164e011012102) ae hm h1)];show(l.map fun c=>V.int (f c))[j.toNat]?=_;simp only[List.getElem?_map,List.getElem?_eq_getElem bT];rfl
theorem MV{H:AH}{i:Int}(h0:0≤i)(h1:i<0x110000):i_ "chr" [.int i] H=some (.str ⟨#[i.toNat]⟩,H):=congrArg (fun c=>bif c then some (V.str ⟨#[i.toNat]⟩,H) else none) (dB ⟨decide_eq_true h0,decide_eq_true h1⟩)
theorem A6{H:AH}(c:Nat)(h:c<0x110000):i_ "chr" [.int c] H=some (.str (bx c),H):=MV (i:=c) (Int.natCast_nonneg c) (Int.ofNat_lt.mpr h)
theorem sN:∀(l:List (List Nat)) (acc:Array Nat),(l.map sL).foldl (fun acc p=>acc++(T "").cps++p.cps) acc=acc++l.flatten.toArray|[],acc=>(Array.append_empty ..).symm|q::r,acc=>by simp only[List.map_cons,List.foldl_cons,sN r];refine Array.append_assoc.trans ?_;exact congrArg (acc++·) (List.append_toArray ..)
theorem A7:∀l:List (List Nat),Txt.join (T "") (l.map sL)=sL l.flatten|[]=>rfl|q::r=>(congrArg Str.mk (sN r (sL q).cps)).trans (congrArg Str.mk (List.append_toArray ..))
theorem pq:∀l:List (List Nat),qO (l.map fun q=>.str (sL q))=some (l.map sL)|[]=>rfl|q::r=>congrArg (Option.map (sL q::·)) (pq r)
theorem DV(l:List (List Nat)):((l.map sL).map (·.length)).sum=l.flatten.length:=by simp only[List.map_map,List.length_flatten];exact congrArg List.sum (List.map_congr_left fun q a=>fy q)
theorem iZ{H:AH}{l:List (List Nat)}(h:l.flatten.length<2^20):iF (T "") (T "join") [.lst (l.map fun q=>.str (sL q))] H=some (.str (sL l.flatten),H):=by show(qO (l.map fun q=>.str (sL q))).bind (fun ys=>bif sizeOk (ys.map (·.length)).sum&&sizeOk (Txt.join (T "") ys).length then some (V.str (Txt.join (T "") ys),H) else none)=_;rw[pq];show(bif sizeOk ((l.map sL).map (·.length)).sum&&sizeOk (Txt.join (T "") (l.map sL)).length then some (V.str (Txt.join (T "") (l.map sL)),H) else none)=_;simp only[DV,A7,fy,show sizeOk l.flatten.length=true from decide_eq_true h];rfl
section
variable{d:Nat}{H:AH}
abbrev TS:Expr:=dQ (bR (bd 14) 5)
noncomputable def MW(x:Int)(i:Nat):Nat:=(((x.fdiv 4).fdiv (16^i)).fmod 16).toNat
theorem MX(x:Int)(i:Nat):MW x i<16:=by obtain h1:((x.fdiv 4).fdiv (16^i)).fmod 16<16:=Int.fmod_lt_of_pos _ (by simp_all);exact IX (nat_lit 0x10e0111002e091007a102) ae (Int.toNat_of_nonneg (yJ (nat_lit 653104087297) ae (Int.fmod_nonneg_of_pos ((x.fdiv 4).fdiv (16^i)) (by decide:(0:Int)<16)))) h1
theorem Ib(x:Int)(i:Nat):binop .Mod (.int ((x.fdiv 4).fdiv (16^i))) (.int 16)=some (.int (MW x i)):=by obtain h0:0≤((x.fdiv 4).fdiv (16^i)).fmod 16:=Int.fmod_nonneg_of_pos _ (by simp_all);show some (V.int (((x.fdiv 4).fdiv (16^i)).fmod 16))=_;unfold MW;rw[Int.toNat_of_nonneg h0]
theorem DW(x:Int)(i:Nat)(hi:i<4)(vs:List V)(hz:vs.length+1<ak):uH (d+1) TS (.int (0+(i:Int))) [(T "number",.int x)] (.l vs) H (.l (vs++[.int (MW x i)])) H:=by
 obtain e:=Ib x i;obtain rfl|rfl|rfl|rfl:i=0∨i=1∨i=2∨i=3:=by lia
 ·exact aF [T "number"] (.val 5 e (.no 6 (aD hz) .nil))
 ·exact aF [T "number"] (.val 5 e (.no 6 (aD hz) .nil))
 ·exact aF [T "number"] (.val 5 e (.no 6 (aD hz) .nil))
 ·exact aF [T "number"] (.val 5 e (.no 6 (aD hz) .nil))
end
abbrev fR(e:Expr)(i:Nat):Expr:=eJ e (i+1)
theorem aB.all{d:Nat}{au:Scope}{g:Comprehension}{T:iW}{α:Type}{env:ah}{H:AH}(enc f:α→V)(xs:List α)(hz:xs.length<ak)(h:∀x∈xs,∀vs:List V,vs.length+1<ak→fN d au g T (enc x) env (.l vs) H env (.l (vs++[f x])) H):aB d au g T (xs.map enc) env (.l []) H env (.l (xs.map f)) H:=by obtain q:=aB.pick enc f (fun a=>true) xs [] (by simp only[List.length_nil,Nat.zero_add];exact hz) h;rw[List.filter_eq_self.mpr fun a a=>rfl,List.nil_append] at q;exact q
section
variable{d:Nat}{H:AH}{m u o:Nat}{x:Int}
abbrev TU(i:Nat):Expr:=fR (HZ (DM (bR (bd 14) 6)) i) 0
abbrev F1(m u o:Nat):List Nat:=(SG m u o).map (·.1)
theorem A8(ps:List Nat)(h:∀p∈ps,p<16)(hz:ps.length<ak):bS (d+1) (TU 0) (ps.map fun(p:Nat)=>.int p) [(T "signs",.str (sL (F1 m u o)))] (.l []) H (.l ((ps.map fun p=>[(F1 m u o).getD p 0]).map fun q=>.str (sL q))) H:=by
 simp only[List.map_map];refine aB.all _ _ ps hz fun p hp vs hv=>?_
 obtain hl:=h p hp;obtain e:=lz (H:=H) (l:=F1 m u o) (d:=(F1 m u o).getD p 0) (.inl rfl) (by rw[List.getD_eq_getElem?_getD,List.getElem?_eq_getElem hl];rfl) (show 16<2^60 by decide);exact aF [T "signs"] (.val 2 e (.no 3 (aD hv) .nil))
abbrev A9(m u o:Nat):V:=.lst ((SG m u o).map fun p=>.str (sL p.2))
theorem yb(ps:List Nat)(h:∀p∈ps,p<16)(hz:ps.length<ak):bS (d+1) (TU 1) (ps.map fun(p:Nat)=>.int p) [(T "folds",A9 m u o)] (.l []) H (.l ((ps.map fun p=>((SG m u o).getD p (0,[])).2).map fun q=>.str (sL q))) H:=by
 simp only[List.map_map];refine aB.all _ _ ps hz fun p hp vs hv=>?_
 obtain hl:=h p hp;obtain e:item H (A9 m u o) (.int p)=some (.str (sL ((SG m u o).getD p (0,[])).2)):=by
  obtain hz:=(show 16<2^60 by decide);obtain key:∀L:List (Nat×List Nat),L.length<2^60→p<L.length→item H (.lst (L.map fun p=>.str (sL p.2))) (.int p)=some (.str (sL (L.getD p (0,[])).2)):=fun L h1 h2=>by refine m_ (.inl rfl) ?_ (by rw[List.length_map];exact h1);simp only[List.getElem?_map,List.getElem?_eq_getElem h2,List.getD_eq_getElem?_getD,List.getElem?_eq_getElem h2];rfl
  exact key _ hz hl
 exact aF [T "folds"] (.val 2 e (.no 3 (aD hv) .nil))
structure c5(raw fold:List Nat):Prop where
 TV:∃ps:List (Nat×List Nat),ps.length≤3∧raw=ps.map (·.1)∧fold=(ps.map (·.2)).flatten∧ps.all sJ=true
theorem DX(x:Int):∃raw fold,c5 raw fold∧aC (d+2) (.fn 181) [.int x] H (.tup [.str (sL raw),.str (sL fold)]) H:=by
 obtain⟨k,hk,em⟩:∃k:Nat,k<12∧binop .Mod (.int (x.fdiv 16384)) (.int 12)=some (.int k):=by
  have h0:0≤(x.fdiv 16384).fmod 12:=Int.fmod_nonneg_of_pos _ (by decide);have h1:(x.fdiv 16384).fmod 12<12:=Int.fmod_lt_of_pos _ (by decide)
  refine⟨((x.fdiv 16384).fmod 12).toNat,IX (nat_lit 0xc9011c9091007a102) ae (Int.toNat_of_nonneg (yJ (nat_lit 653104087297) ae h0)) h1,?_⟩;show some (V.int ((x.fdiv 16384).fmod 12))=_;rw[Int.toNat_of_nonneg h0]
 obtain⟨u,hu,iu⟩:=sM H lA (fun c=>(c:Int)) 27 (x.fdiv 16384) rfl (by decide) (by decide);obtain⟨o,ho,io⟩:=sM H lB (fun c=>(c:Int)) 20 (x.fdiv 16384) rfl (by decide) (by decide);have uB:=of_decide_eq_true (cO (by kernel_rfl:(lA.all fun u=>decide (u<0x110000))=true) u hu)
 have oB:=of_decide_eq_true (cO (by kernel_rfl:(lB.all fun u=>decide (u<0x110000))=true) o ho);have hm:119823+52* (k+k/6)∈A5:=yQ ⟨k,List.mem_range.mpr hk,rfl⟩
 have e6:=congrArg (fun i=>some (V.int i)) (Int.ofNat_fdiv k 6).symm;have eA:binop .Add (.int k) (.int ((k/6:Nat):Int))=some (.int ((k+k/6:Nat):Int)):=rfl
 have WN:binop .Mult (.int 52) (.int ((k+k/6:Nat):Int))=some (.int ((52* (k+k/6):Nat):Int)):=by show(if(small 52&&small ((k+k/6:Nat):Int))=true then some (V.int (52* ((k+k/6:Nat):Int))) else none)=_;rw[if_pos (by unfold small;rw[Bool.and_eq_true,decide_eq_true_eq,decide_eq_true_eq];omega),Int.natCast_mul];rfl
 have RM:binop .Add (.int 119823) (.int ((52* (k+k/6):Nat):Int))=some (.int ((119823+52* (k+k/6):Nat):Int)):=congrArg (fun i=>some (V.int i)) (by rfl);have c1:=A6 (H:=H) (119823+52* (k+k/6)) (by omega)
 have c2:=A6 (H:=H) u uB;have c3:=A6 (H:=H) o oB
 revert c1 RM hm
 generalize 119823+52* (k+k/6)=m;intro hm RM c1;have hS:=MU hm hu ho
 have n0:0≤x.fmod 4:=Int.fmod_nonneg_of_pos _ (by decide);have n4:x.fmod 4<4:=Int.fmod_lt_of_pos _ (by decide)
 obtain⟨ps,RN⟩:∃ps:List Nat,ps=(List.range (x.fmod 4-0).toNat).map (MW x):=⟨_,rfl⟩;have vU:∀p∈ps,p<16:=fun p hp=>by rw[RN] at hp;obtain⟨i,_,rfl⟩:=tJ hp;exact MX x i
 have MY:ps.length≤3:=by rw[RN,List.length_map,List.length_range];exact IX (nat_lit 0x3900149091090c07a102) ae (Int.toNat_of_nonneg (yJ (nat_lit 0x90c09810098101) ae n0)) n4
 have pk:bS (d+1) TS ((List.range (x.fmod 4-0).toNat).map fun(i:Nat)=>.int (0+(i:Int))) [(T "number",.int x)] (.l []) H (.l (ps.map fun(p:Nat)=>.int p)) H:=by rw[RN,List.map_map];exact aB.all _ _ _ (by rw[List.length_range];unfold ak;exact IX (nat_lit 0x1000006f01149091090c07a102) ae (Int.toNat_of_nonneg (yJ (nat_lit 0x90c09810098101) ae n0)) n4) fun i hi vs hv=>DW x i (by have :=tL hi;exact Iz.go (nat_lit 0x4901149091090c17a1101103) [_,_] [_] ae this (Int.toNat_of_nonneg (yJ (nat_lit 0x90c09810098101) ae n0)) n4) vs hv
 have r1:=A8 (d:=d) (H:=H) (m:=m) (u:=u) (o:=o) ps vU (Nat.lt_of_le_of_lt MY (by decide));have r2:=yb (d:=d) (H:=H) (m:=m) (u:=u) (o:=o) ps vU (Nat.lt_of_le_of_lt MY (by decide))
 have rg:gF false "range" [.int (x.fmod 4)] H=some (.nK 0 (x.fmod 4),H):=wA (decide_eq_true (by omega));have f3:∀l:List Nat,((l.map fun p=>((SG m u o).getD p (0,[])).2).flatten).length≤3* l.length:=fun l=>by
  induction l with
  |nil=>exact Nat.le_refl _|cons a r ih=>
   rw[List.map_cons,List.flatten_cons,List.length_append,List.length_cons];have :((SG m u o).getD a (0,[])).2.length≤3:=by
    rw[List.getD_eq_getElem?_getD];induction hq:(SG m u o)[a]? with |none=>exact Nat.zero_le _|some p=>exact Nat.le_of_ble_eq_true (bj (cO hS p (List.mem_of_getElem? hq))).1
   exact aQ (nat_lit 0x19283a1080123a1013900102) ae this ih
 have f1:∀l:List Nat,(l.map fun p=>[(F1 m u o).getD p 0]).flatten=l.map fun p=>(F1 m u o).getD p 0:=fun l=>by
  induction l with |nil=>rfl|cons a r ih=>exact congrArg ((F1 m u o).getD a 0::·) ih
 have j1:=iZ (H:=H) (by rw[f1,List.length_map];exact aJ (nat_lit 0x1000006f0113900101) ae MY);have j2:=iZ (H:=H) (by have :=f3 ps;exact aA (nat_lit 0x1000006f0113910313a00102) ae this MY)
 refine⟨(ps.map fun p=>[(F1 m u o).getD p 0]).flatten,(ps.map fun p=>((SG m u o).getD p (0,[])).2).flatten,⟨ps.map fun p=>(SG m u o).getD p (0,[]),by rw[List.length_map];exact MY,?_,?_,?_⟩,aS (.val 9 em (.val 11 em (.val 12 e6 (.val 13 eA (.val 14 WN (.val 15 RM (.upd 16 c1 (.val 23 iu (.upd 24 c2 (.val 30 io (.upd 31 c3 (.upd 38 rg (.cmp pk (.cmp r1 (.upd 40 j1 (.cmp r2 (.upd 42 j2 .nil)))))))))))))))))⟩
 ·rw[f1,List.map_map];refine List.map_congr_left fun p b=>?_
  show((SG m u o).map (·.1)).getD p 0=((SG m u o).getD p (0,[])).1;rw[List.getD_eq_getElem?_getD,List.getD_eq_getElem?_getD,List.getElem?_map];induction (SG m u o)[p]?<;>rfl
 ·rw[List.map_map];rfl
 ·refine List.all_eq_true.mpr fun q hq=>?_
  obtain⟨p,hp,rfl⟩:=tJ hq;have hl:=vU p hp
  rw[List.getD_eq_getElem?_getD,List.getElem?_eq_getElem hl];exact cO hS _ (List.getElem_mem hl)
end
end Mine
end
noncomputable section
open PySem PySem.W PySem.Builtin PySem.Builtin.Str PyProof.Rows
namespace Mine
theorem eE{α:Type}{gq:Nat→Nat→Option Bool}{i j:Nat}{k:Bool→KasT α}{b:Bool}(h:gq i j=some b):runK gq (.ask i j k)=runK gq (k b):=by rw[runK,h]
theorem pA{α:Type}{gq:Nat→Nat→Option Bool}{i j:Nat}{k:Bool→KasT α}(h:gq i j=none):runK gq (.ask i j k)=none:=by rw[runK,h]
theorem pB{α β:Type}{gq:Nat→Nat→Option Bool}{f:α→KasT β}:∀t:KasT α,runK gq (t.bind f)=(runK gq t).bind fun a=>runK gq (f a)
|.ret a=>rfl|.ask i j k=>by
 refine(show(KasT.ask i j k).bind f=KasT.ask i j fun b=>(k b).bind f from rfl)▸?_;induction h:gq i j with |none=>rw[pA h,pA h];rfl|some b=>rw[eE h,eE h];exact pB (k b)
theorem c7{α β:Type}{gq:Nat→Nat→Option Bool}{f:α→KasT β}{t:KasT α}{a:α}(h:runK gq t=some a):runK gq (t.bind f)=runK gq (f a):=by rw[pB,h];rfl
noncomputable def gp(p:Array Nat)(i:Nat):Nat:=p.getD i 0
theorem nh(p:Array Nat)(i:Nat):gp p i=(p[i]?).getD 0:=by simp[gp,Array.getD_eq_getD_getElem?]
theorem eF{p:Array Nat}{i j:Nat}(h:j≤p.size)(k:Nat):gp (kas_rev p i j) k=if i≤k∧k<j then gp p (i+j-1-k) else gp p k:=by rw[nh];unfold kas_rev;rw[getElem?_mirror_all h];split<;>simp only[nh]
theorem yc{p:Array Nat}{src d:Nat}(hs:src<p.size)(hd:d≤src)(k:Nat):gp (bubble p src d) k=if k=src-d then gp p src else if src-d<k∧k≤src then gp p (k-1) else gp p k:=by
 simp only[nh,getElem?_bubble hs d hd,nh,nh,nh];by_cases h1:k=src-d
 ·rw[if_pos h1,if_pos h1]
 ·rw[if_neg h1,if_neg h1];by_cases h2:src-d<k∧k≤src
  ·rw[if_pos h2,if_pos h2]
  ·rw[if_neg h2,if_neg h2]
structure TX(lt:Nat→Nat→Bool):Prop where
 Of:∀i,lt i i=false
 tr:∀i j k,lt i j=true→lt j k=true→lt i k=true
 nt:∀i j k,lt i j=false→lt j k=false→lt i k=false
section
variable{lt:Nat→Nat→Bool}(O:TX lt){gq:Nat→Nat→Option Bool}{N:Nat}(ha:∀i j,i<N→j<N→gq i j=some (lt i j))
def A_(lt:Nat→Nat→Bool)(a b:Nat):Prop:=lt a b=true∨(lt b a=false∧a<b)
include O
theorem MZ{i j:Nat}(h:lt i j=true):lt j i=false:=by
 induction e:lt j i with |false=>rfl|true=>have :=O.tr i j i h e;rw[O.Of] at this;exact bE this
theorem jw{i j:Nat}(h:A_ lt i j):lt j i=false:=h.elim (MZ O) (·.1)
theorem Ic{i j k:Nat}(h:lt i j=true)(h2:lt k j=false):lt i k=true:=by
 induction e:lt i k with |true=>rfl|false=>have :=O.nt _ _ _ e h2;rw[h] at this;exact nomatch this
theorem RO{i j k:Nat}(h:lt j i=false)(h2:lt j k=true):lt i k=true:=by
 induction e:lt i k with |true=>rfl|false=>have :=O.nt _ _ _ h e;rw[h2] at this;exact nomatch this
omit O
structure Cut(p:Array Nat)(N k:Nat):Prop where
 sz:p.size=N
 le:k≤N
 lo:∀i,i<k→gp p i<k
 hi:∀i,k≤i→i<N→gp p i=i
def iN(lt:Nat→Nat→Bool)(p:Array Nat)(k:Nat):Prop:=∀i j,i<j→j<k→A_ lt (gp p i) (gp p j)
theorem Cut.aK{p:Array Nat}{k i:Nat}(C:Cut p N k)(h:i<N):gp p i<N:=by
 by_cases q:i<k
 ·have :=C.lo i q;have :=C.le;lia
 ·rw[C.hi i (aA (nat_lit 4312813825) ae q) h];exact h
theorem Cut.rev{p:Array Nat}{k i j:Nat}(C:Cut p N k)(h:j≤k):Cut (kas_rev p i j) N k:=by
 have hs:j≤p.size:=by rw[C.sz];obtain this:=C.le;exact aQ (nat_lit 5067717828804866) ae h this
 refine⟨by unfold kas_rev;rw[mirror_size];exact C.sz,C.le,fun a ha=>?_,fun a h1 h2=>?_⟩
 ·rw[eF hs];split
  ·exact C.lo _ (by omega)
  ·exact C.lo _ ha
 ·rw[eF hs,if_neg (fun x'=>aQ (nat_lit 0x9096102012101101103) ae x'.2 h h1)];exact C.hi a h1 h2
theorem Cut.succ{p:Array Nat}{k:Nat}(C:Cut p N k)(h:k<N):Cut p N (k+1):=by
 refine⟨C.sz,h,fun i hi=>?_,fun i h1 h2=>C.hi i (aA (nat_lit 281548411109633) ae h1) h2⟩;by_cases q:i<k
 ·obtain this:=C.lo i q;exact aA (nat_lit 441454204817665) ae this
 ·rw[C.hi i (aA (nat_lit 4312813825) ae q) (aQ (nat_lit 0x20112111191801102) ae hi h)];exact hi
include O ha
theorem uN{p:Array Nat}:∀(f n:Nat),1≤n→n+f=N→Cut p N n→iN lt p n→∃m,n≤m∧runK gq (kas_asc p f n)=some m∧Cut p N m∧iN lt p m∧(m<N→lt (gp p m) (gp p (m-1))=true)
|0,n,h1,h2,C,S=>⟨n,Nat.le_refl _,rfl,C,S,fun h=>by lia⟩|f+1,n,h1,h2,C,S=>by
 obtain e:gq (p.getD n 0) (p.getD (n-1) 0)=some (lt (gp p n) (gp p (n-1))):=ha _ _ (C.aK (by lia)) (C.aK (eO (nat_lit 0x2311219180821030102) ae (Nat.sub_le (n) (1)) h2));refine(eE e)▸?_;induction hc:lt (gp p n) (gp p (n-1)) with
 |true=>exact⟨n,Nat.le_refl _,rfl,C,S,fun a=>hc⟩|false=>
  obtain S':iN lt p (n+1):=fun i j gB hj=>by
   by_cases q:j<n
   ·exact S i j gB q
   ·obtain WO:j=n:=by exact aA (nat_lit 0x10251054191801112) ae hj q
    subst WO;obtain hn:gp p j=j:=C.hi j (aJ (nat_lit 256) ae) (by lia);obtain Fy:=C.lo i gB;refine .inr ⟨?_,aQ (nat_lit 9025969084961026) ae Fy hn⟩;by_cases q2:i=j-1
    ·exact q2▸(hc)
    ·exact O.nt _ _ _ hc (jw O (S i (j-1) (aA (nat_lit 69005742337) ae (Nat.lt_of_le_of_ne (aQ (nat_lit 0x20011928101101102) ae gB (Ln.aY (j) (1))) q2)) (aA (nat_lit 282647922745601) ae (Nat.sub_add_cancel (aA (nat_lit 1206903640321) ae Fy:1≤j)))))
  obtain⟨m,h3,h4⟩:=uN f (n+1) (aJ (nat_lit 107510038784) ae) (aQ (nat_lit 0x21190882521918082511) ae h2) (C.succ (by lia)) S';exact⟨m,aA (nat_lit 281548411109633) ae h3,h4⟩
omit O ha
structure Ie(lt:Nat→Nat→Bool)(p:Array Nat)(n q:Nat):Prop where
 hq:q<n
 a:∀i j,i<j→j<n-1-q→A_ lt (gp p j) (gp p i)
 b:∀i j,i<n-1-q→n-1-q≤j→j<n→lt (gp p j) (gp p i)=true
 c:∀i j,n-1-q≤i→i<j→j<n→A_ lt (gp p i) (gp p j)∧lt (gp p i) (gp p j)=false
theorem Ie.turned{p:Array Nat}{n q:Nat}(D:Ie lt p n q)(hs:n≤p.size):∀i j,i<j→j<n→A_ lt (gp (kas_rev p (n-(q+1)) n) j) (gp (kas_rev p (n-(q+1)) n) i):=by
 intro i j gB hj;simp only[eF hs,eF hs];by_cases h2:n-(q+1)≤j
 ·rw[if_pos ⟨h2,hj⟩];by_cases h1:n-(q+1)≤i
  ·rw[if_pos ⟨h1,aQ (nat_lit 5085310283288834) ae gB hj⟩];exact(D.c _ _ (by omega) (by exact Ln.go (nat_lit 0x3211101103840141282103) [_,_,_,_,_,0,0,0] ae (Nat.sub_add_cancel (Ln.go (nat_lit 0x2001192813801101102) [_,_,_,_,0] ae hj (Ln.aY (n-(q+1)+n) (1)):j≤n-(q+1)+n-1)) (Ln.aY (n-(q+1)+n-1) (i)) gB) (by exact Ln.go (nat_lit 0x3211100130819582151282103) [_,_,_,_,0,_] ae (Nat.sub_add_cancel (Ln.go (nat_lit 0x32011938148011011021103) [_,_,_,_,_,0] ae gB hj (Ln.aY (n-(q+1)+n) (1)):i≤n-(q+1)+n-1)) (Nat.sub_add_cancel (aQ (nat_lit 325562833834241) ae hj:1≤n-(q+1)+n)) h1)).1
  ·rw[if_neg (by lia)];exact .inl (D.b _ _ (by lia) (by omega) (Ln.go (nat_lit 0x3211100130819582151282103) [_,_,_,_,0,_] ae (Nat.sub_add_cancel (Ln.go (nat_lit 0x2001192813801101102) [_,_,_,_,0] ae hj (Ln.aY (n-(q+1)+n) (1)):j≤n-(q+1)+n-1)) (Nat.sub_add_cancel (aQ (nat_lit 571853438468353) ae h1:1≤n-(q+1)+n)) h2))
 ·rw[if_neg (by lia),if_neg (fun x'=>aQ (nat_lit 0x9096120412111100103) ae x'.1 gB h2)];exact D.a _ _ gB (by lia)
theorem Ie.plain{p:Array Nat}{n:Nat}(D:Ie lt p n 0):∀i j,i<j→j<n→A_ lt (gp p j) (gp p i):=by
 intro i j gB hj;by_cases h:j<n-1-0
 ·exact D.a i j gB h
 ·exact .inl (D.b i j (vj (nat_lit 0x3211093840119481011011021104) ae gB hj (Ln.aY (n) (1)) (Ln.aY (n-1) (0))) (aA (nat_lit 4312813825) ae h) hj)
include O ha
theorem qy:∀(f:Nat) (p:Array Nat) (n q:Nat),1≤n→n+f=N→Cut p N n→Ie lt p n q→∃p' n' q',runK gq (kas_desc f p n q)=some (p',n',q')∧1≤n'∧n'≤N∧Cut p' N n'∧Ie lt p' n' q'∧p'.Perm p
|0,p,n,q,h1,h2,C,D=>⟨p,n,q,rfl,h1,aA (nat_lit 281548142682369) ae h2,C,D,Array.Perm.refl _⟩|f+1,p,n,q,h1,h2,C,D=>by
 have e:gq (p.getD n 0) (p.getD (n-1) 0)=some (lt (gp p n) (gp p (n-1))):=ha _ _ (C.aK (by exact aQ (nat_lit 0x201121918082101) ae h2)) (C.aK (by exact eO (nat_lit 0x2311219180821030102) ae (Nat.sub_le (n) (1)) h2));have e2:gq (p.getD (n-1) 0) (p.getD n 0)=some (lt (gp p (n-1)) (gp p n)):=ha _ _ (C.aK (by exact eO (nat_lit 0x2311219180821030102) ae (Nat.sub_le (n) (1)) h2)) (C.aK (by exact aQ (nat_lit 0x201121918082101) ae h2))
 have hq:=D.hq;have hs:n≤p.size:=by rw[C.sz];exact aQ (nat_lit 0x200121918082101) ae h2
 unfold kas_desc;simp only[eE e];induction hc:lt (gp p n) (gp p (n-1)) with
 |true=>
  obtain low:∀i,i<n→lt (gp p n) (gp p i)=true:=fun i hi=>by
   by_cases q1:i=n-1
   ·refine q1▸?_;exact hc
   ·refine Ic O hc ?_;by_cases q2:i<n-1-q
    ·exact MZ O (D.b i (n-1) q2 (by simp_all) (by exact aA (nat_lit 282647922745601) ae (Nat.sub_add_cancel (aA (nat_lit 1206903640321) ae hi:1≤n))))
    ·exact(D.c i (n-1) (aA (nat_lit 4312813825) ae q2) (by lia) (by exact aA (nat_lit 282647922745601) ae (Nat.sub_add_cancel (aA (nat_lit 1206903640321) ae hi:1≤n)))).2
  have mk:∀p':Array Nat,Cut p' N n→p'.Perm p→(∀i j,i<j→j<n→A_ lt (gp p' j) (gp p' i))→(∀i,i<n→∃k,k<n∧gp p' i=gp p k)→∃E7 n' q',runK gq (kas_desc f p' (n+1) 0)=some (E7,n',q')∧1≤n'∧n'≤N∧Cut E7 N n'∧Ie lt E7 n' q'∧E7.Perm p:=fun p' C' hp hd hk=>by
   obtain e1:gp p' n=gp p n:=by simp only[C'.hi n (Nat.le_refl _) (by exact aQ (nat_lit 0x201121918082101) ae h2),C.hi n (Nat.le_refl _) (by exact aQ (nat_lit 0x201121918082101) ae h2)]
   obtain⟨E7,n',q',a1,a2,a3,a4,a5,a6⟩:=qy f p' (n+1) 0 (by lia) (by lia) (C'.succ (by exact aQ (nat_lit 0x201121918082101) ae h2)) ⟨aJ (nat_lit 107508994304) ae,fun i j gB hj=>hd i j gB (by assumption),fun i j hi hj RP=>by
    have :j=n:=by exact eO (nat_lit 0x1025020409283041938191804191801114) ae RP (Ln.aY (n+1) (1)) (Ln.aY (n+1-1) (0)) hj
    cases this;obtain⟨k,nO,I5⟩:=hk i (by assumption);simp only[e1,I5];exact low k nO,fun i j h1 h2 h3=>by lia⟩
   exact⟨E7,n',q',a1,a2,a3,a4,a5,a6.trans hp⟩
  by_cases TY:q>0
  ·refine(if_pos TY)▸?_;refine mk _ (C.rev (Nat.le_refl _)) (mirror_perm _ _ _ _) (D.turned hs) (fun i hi=>?_);rw[eF hs];split
   ·exact⟨_,by omega,rfl⟩
   ·exact⟨i,hi,rfl⟩
  ·skip
   obtain RQ:q=0:=by exact aJ (nat_lit 9905537372433) ae TY
   subst RQ;exact mk _ C (Array.Perm.refl _) D.plain (fun i hi=>⟨i,hi,rfl⟩)
 |false=>
  rw[if_neg (by decide),eE e2];induction hd:lt (gp p (n-1)) (gp p n) with
  |true=>exact⟨p,n,q,rfl,h1,by exact aQ (nat_lit 0x200121918082101) ae h2,C,D,Array.Perm.refl _⟩|false=>
   have hn:gp p n=n:=C.hi n (Nat.le_refl _) (by exact aQ (nat_lit 0x201121918082101) ae h2);have RT:∀j,n-1-q≤j→j<n→lt (gp p j) (gp p n)=false∧lt (gp p n) (gp p j)=false:=fun j h3 h4=>by
    by_cases q1:j=n-1
    ·exact q1▸(⟨hd,hc⟩)
    ·obtain this:=D.c j (n-1) h3 (by lia) (by lia);exact⟨O.nt _ _ _ this.2 hd,O.nt _ _ _ hc (jw O this.1)⟩
   refine qy f p (n+1) (q+1) (by lia) (by lia) (C.succ (by exact aQ (nat_lit 0x201121918082101) ae h2)) ⟨aA (nat_lit 0x1918190811101101) ae hq,fun i j gB hj=>D.a i j gB (by lia),fun i j h3 h4 h5=>?_,fun i j h3 h4 h5=>?_⟩
   ·by_cases q1:j<n
    ·exact D.b i j (by lia) (by lia) q1
    ·have :j=n:=by omega
     subst this;exact RO O hd (D.b i (j-1) (Ln.go (nat_lit 0x201142850119586011968193821319481821101105) [_,_,_,_,_,_,_] ae h3 (Nat.sub_add_cancel (aQ (nat_lit 0x21908011928191801101102) ae hq (Ln.aY (j+1) (1)):q+1≤j+1-1)) (Nat.sub_add_cancel (aJ (nat_lit 107510038784) ae:1≤j+1)) (Ln.aY (j) (1)) (Ln.aY (j-1) (q))) (Ln.go (nat_lit 68737302785) [_,_,0,0] ae (Nat.sub_le (j-1) (q))) (by lia))
   ·by_cases q1:j<n
    ·exact D.c i j (by lia) h4 q1
    ·have :j=n:=by omega
     cases this;have :=RT i (by lia) h4
     exact⟨.inr ⟨this.2,by obtain this:=C.lo i h4;exact aQ (nat_lit 9025969084961026) ae this hn⟩,this.1⟩
theorem sO{p:Array Nat}{n:Nat}(h1:1≤n)(hn:n≤N)(C:Cut p N n)(hd:∀i j,i<j→j<n→A_ lt (gp p j) (gp p i)):∃m p',runK gq (kas_tail3 n N p)=some (m,p')∧1≤m∧Cut p' N m∧iN lt p' m∧p'.Perm p:=by
 obtain hs:n≤p.size:=by exact C.sz▸(hn)
 obtain⟨m,a1,a2,a3,a4,_⟩:=uN O ha (p:=kas_rev p 0 n) (N-n) n h1 (aQ (nat_lit 0x21082501820420182112) ae (Nat.sub_add_cancel (aA (nat_lit 68737302785) ae hn:n≤N)) (Ln.aY (N) (n))) (C.rev (Nat.le_refl _)) (fun i j gB hj=>by rw[eF hs,eF hs,if_pos ⟨by lia,aQ (nat_lit 5085310283288834) ae gB hj⟩,if_pos ⟨by lia,by omega⟩];exact hd _ _ (by omega) (Ln.go (nat_lit 0x10111098192821200102) [_,_,_,0] ae (Nat.sub_le (0+n-1) (i)) (Nat.sub_add_cancel (aA (nat_lit 4670832786804993) ae hj:1≤0+n))));refine⟨m,kas_rev p 0 n,?_,aA (nat_lit 0x1190110010190102) ae h1 a1,a3,a4,mirror_perm _ _ _ _⟩;refine(c7 a2).trans ?_;rfl
theorem kL{p:Array Nat}{n:Nat}(h1:1≤n)(hn:n<N)(C:Cut p N n)(hd:∀i j,i<j→j<n→A_ lt (gp p j) (gp p i))(hl:∀i,i<n→lt (gp p n) (gp p i)=true):∃m p',runK gq (kas_descPart n N p)=some (m,p')∧1≤m∧Cut p' N m∧iN lt p' m∧p'.Perm p:=by
 obtain⟨p',n',q',a1,a2,a3,a4,a5,a6⟩:=qy O ha (N-(n+1)) p (n+1) 0 (by lia) (by grind) (C.succ hn) ⟨aJ (nat_lit 107508994304) ae,fun i j gB hj=>hd i j gB (by assumption),fun i j hi hj RP=>by
  have :j=n:=by exact eO (nat_lit 0x1025020409283041938191804191801114) ae RP (Ln.aY (n+1) (1)) (Ln.aY (n+1-1) (0)) hj
  cases this;exact hl i (by assumption),fun i j h1 h2 h3=>by lia⟩
 unfold kas_descPart;rw[c7 a1];obtain hs:n'≤p'.size:=by exact a4.sz▸(a3)
 dsimp only;by_cases hq:q'>0
 ·rw[if_pos hq];refine(sO O ha a2 a3 (a4.rev (i:=n'-(q'+1)) (Nat.le_refl _)) (a5.turned hs)).elim fun m Tc=>?_;refine Tc.elim fun p2 GQ=>?_;obtain b1:=GQ.1;obtain b2:=GQ.2.1;obtain b3:=GQ.2.2.1;obtain b4:=GQ.2.2.2.1;obtain b5:=GQ.2.2.2.2
  exact⟨m,p2,b1,b2,b3,b4,b5.trans ((mirror_perm _ _ _ _).trans a6)⟩
 ·rw[if_neg hq];obtain RQ:q'=0:=by exact aJ (nat_lit 9905537372433) ae hq
  subst RQ;refine(sO O ha a2 a3 a4 a5.plain).elim fun m RU=>?_;refine RU.elim fun p2 Ba=>?_;obtain b1:=Ba.1;obtain b2:=Ba.2.1;obtain b3:=Ba.2.2.1;obtain b4:=Ba.2.2.2.1;obtain b5:=Ba.2.2.2.2
  exact⟨m,p2,b1,b2,b3,b4,b5.trans a6⟩
theorem Bb{p:Array Nat}(hN:1≤N)(C:Cut p N 1):∃m p',runK gq (kas_count N p)=some (m,p')∧1≤m∧Cut p' N m∧iN lt p' m∧p'.Perm p:=by
 obtain⟨n,a1,a2,a3,a4,a5⟩:=uN O ha (p:=p) (N-1) 1 (Nat.le_refl _) (by exact aA (nat_lit 0x10198251908104119082112) ae (Nat.sub_add_cancel (aJ (nat_lit 1718256992513) ae hN:1≤N)) (Ln.aY (N) (1))) C (fun i j h1 h2=>by omega);unfold kas_count;simp only[c7 a2];by_cases hn:n=N
 ·rw[if_pos (by simpa using hn)];exact⟨n,p,rfl,a1,a3,a4,Array.Perm.refl _⟩
 ·rw[if_neg (by simpa using hn)];obtain M0:n<N:=by obtain this:=a3.le;exact aA (nat_lit 69005742337) ae (Nat.lt_of_le_of_ne (aA (nat_lit 68737302785) ae this) hn)
  obtain hl:=a5 M0;by_cases h1:n>1
  ·refine(if_pos h1)▸?_;obtain e:gq (p.getD 0 0) (p.getD (n-1) 0)=some (lt (gp p 0) (gp p (n-1))):=ha _ _ (a3.aK (by assumption)) (a3.aK (aQ (nat_lit 5085310283284738) ae (Nat.sub_le (n) (1)) M0));refine(eE e)▸?_;induction hc:lt (gp p 0) (gp p (n-1)) with
   |true=>exact⟨n,p,rfl,a1,a3,a4,Array.Perm.refl _⟩|false=>
    obtain le:∀i j,i≤j→j<n→lt (gp p j) (gp p i)=false:=fun i j gB hj=>by
     by_cases q:i=j
     ·refine q▸?_;exact O.Of _
     ·exact jw O (a4 i j (aA (nat_lit 69005742337) ae (Nat.lt_of_le_of_ne (aA (nat_lit 68737302785) ae gB) q)) hj)
    obtain hs:n≤p.size:=by refine a3.sz▸?_;exact aA (nat_lit 68737306881) ae M0
    obtain⟨m,p2,b1,b2,b3,b4,b5⟩:=kL O ha a1 M0 (a3.rev (i:=0) (Nat.le_refl _)) (fun i j gB hj=>by
     rw[eF hs,eF hs,if_pos ⟨by lia,by omega⟩,if_pos ⟨by lia,aQ (nat_lit 5085310283288834) ae gB hj⟩];exact a4 _ _ (by omega) (Ln.go (nat_lit 0x10111098192821200102) [_,_,_,0] ae (Nat.sub_le (0+n-1) (i)) (Nat.sub_add_cancel (aA (nat_lit 4670832786804993) ae hj:1≤0+n)))) (fun i hi=>by
     rw[eF hs,eF hs,if_neg (fun x'=>aJ (nat_lit 9935886749953) ae x'.2),if_pos ⟨by lia,by omega⟩];obtain h2:lt (gp p (0+n-1-i)) (gp p (n-1))=false:=O.nt _ _ _ (le 0 _ (aJ (nat_lit 590080) ae) (Ln.go (nat_lit 0x10111098192821200102) [_,_,_,0] ae (Nat.sub_le (0+n-1) (i)) (Nat.sub_add_cancel (aA (nat_lit 4670832786804993) ae hi:1≤0+n)))) hc;exact Ic O hl h2)
    exact⟨m,p2,b1,b2,b3,b4,b5.trans (mirror_perm _ _ _ _)⟩
  ·skip
   obtain WQ:n=1:=by exact aJ (nat_lit 0x19025019040195112) ae h1 a1
   subst WQ;exact kL O ha a1 M0 a3 (fun i j h1 h2=>by omega) (fun i hi=>by
    have :i=0:=by exact aJ (nat_lit 9905562980625) ae hi
    subst this;exact hl)
theorem nj{p:Array Nat}{k:Nat}(hk:k<N)(C:Cut p N k)(S:iN lt p k):∀(f l r:Nat),r-l≤f→l≤r→r≤k→(∀i,i<l→lt (gp p k) (gp p i)=false)→(∀i,r≤i→i<k→lt (gp p k) (gp p i)=true)→
  ∃m,runK gq (kas_place p k f l r)=some m∧m≤k∧(∀i,i<m→lt (gp p k) (gp p i)=false)∧(∀i,m≤i→i<k→lt (gp p k) (gp p i)=true)
 |0,l,r,h1,h2,h3,h4,h5=>⟨l,rfl,aQ (nat_lit 5067717828804866) ae h2 h3,h4,fun i hi hk=>h5 i (eO (nat_lit 0x130109201100102830103) ae (Ln.aY (r) (l)) hi h1) hk⟩|f+1,l,r,h1,h2,h3,h4,h5=>by
  unfold kas_place;by_cases q:l≥r
  ·rw[if_pos q];exact⟨l,rfl,aQ (nat_lit 5067717828804866) ae h2 h3,h4,fun i hi hk=>h5 i (aQ (nat_lit 5067717828804866) ae q hi) hk⟩
  ·rw[if_neg q];obtain e:gq (p.getD k 0) (p.getD ((l+r)/2) 0)=some (lt (gp p k) (gp p ((l+r)/2))):=ha _ _ (C.aK hk) (C.aK (Ln.go (nat_lit 0x3412104132122002018542a82104) [_,_,_,_,_,_] ae (Nat.div_add_mod (l+r) 2) h3 hk q));refine(eE e)▸?_;induction hc:lt (gp p k) (gp p ((l+r)/2)) with
   |true=>
    refine nj hk C S f l ((l+r)/2) (Ln.go (nat_lit 0x12021918001408301348652a82154282204) [_,_,_,_,_,_,_] ae (Nat.sub_add_cancel (eO (nat_lit 0x210229311018322a831104103) ae q (Nat.div_add_mod (l+r) 2) (Nat.mod_lt (l+r) (by decide:0<2)):l≤(l+r)/2)) (Nat.div_add_mod (l+r) 2) (Ln.aY (r) (l)) h1) (eO (nat_lit 0x210229311018322a831104103) ae q (Nat.div_add_mod (l+r) 2) (Nat.mod_lt (l+r) (by decide:0<2))) (vj (nat_lit 0x230210412002018432a82103) ae (Nat.div_add_mod (l+r) 2) h3 q) h4 (fun i hi WR=>?_);by_cases q2:i=(l+r)/2
    ·refine q2▸?_;exact hc
    ·exact Ic O hc (jw O (S _ i (aA (nat_lit 4580249857) ae (Nat.lt_of_le_of_ne (aA (nat_lit 68737302785) ae hi) (Ne.symm q2))) WR))
   |false=>
    refine nj hk C S f ((l+r)/2+1) r (Ln.go (nat_lit 0x120129611348652a831191800140830131958282205) [_,_,_,_,_,_,_] ae (Nat.sub_add_cancel (eO (nat_lit 0x1928021041018322a82102) ae (Nat.div_add_mod (l+r) 2) q:(l+r)/2+1≤r)) (Ln.aY (r) (l)) h1 (Nat.div_add_mod (l+r) 2) (Nat.mod_lt (l+r) (by decide:0<2))) (eO (nat_lit 0x1928021041018322a82102) ae (Nat.div_add_mod (l+r) 2) q) h3 (fun i hi=>?_) h5;by_cases q2:i=(l+r)/2
    ·exact q2▸(hc)
    ·exact O.nt _ _ _ hc (jw O (S i _ (aA (nat_lit 69005742337) ae (Nat.lt_of_le_of_ne (aA (nat_lit 281550432243969) ae hi) q2)) (vj (nat_lit 0x231210412002018432a82103) ae (Nat.div_add_mod (l+r) 2) h3 q)))
theorem Bc:∀(f:Nat) (p:Array Nat) (k:Nat),k+f=N→Cut p N k→iN lt p k→∃p',runK gq (kas_bin f p k)=some p'∧iN lt p' N∧p'.Perm p
|0,p,k,h,C,S=>by
 have :k=N:=by omega
 subst this;exact⟨p,rfl,S,Array.Perm.refl _⟩
|f+1,p,k,h,C,S=>by
 have hk:k<N:=by lia
 obtain⟨l,a1,a2,a3,a4⟩:=nj O ha hk C S k 0 k (aA (nat_lit 68737302785) ae (Nat.sub_le (k) (0))) (by lia) (Nat.le_refl _) (fun i hi=>by lia) (fun i h1 h2=>by lia);refine(c7 a1)▸?_;obtain hs:k<p.size:=by exact C.sz▸(hk)
 have hb:=fun i=>yc (p:=p) (src:=k) (d:=k-l) hs (Ln.go (nat_lit 68737302785) [_,_,0] ae (Nat.sub_le (k) (l))) i
 have Ku:gp p k=k:=C.hi k (Nat.le_refl _) hk;obtain⟨p',b1,b2,b3⟩:=Bc f (bubble p k (k-l)) (k+1) (by lia) ⟨by rw[bubble_size];exact C.sz,hk,fun i hi=>by
   rw[hb];split
   ·rw[Ku];exact aJ (nat_lit 6719279360) ae
   ·split
    ·have :=C.lo (i-1) (by lia);exact aA (nat_lit 441454204817665) ae this
    ·obtain this:=C.lo i (by lia);exact aA (nat_lit 441454204817665) ae this,fun i h1 h2=>by
   rw[hb,if_neg (by exact Ln.go (nat_lit 0x9096121210201119080103) [_,_,_,0,0] ae h1 (Nat.sub_le (k) (k-l))),if_neg (fun x'=>aA (nat_lit 0x909610191801100102) ae x'.2 h1)];exact C.hi i (aA (nat_lit 281548411109633) ae h1) h2⟩ (fun i j gB hj=>by
  obtain low:∀i,i<l→A_ lt (gp p i) (gp p k):=fun i hi=>.inr ⟨a3 i hi,by have :=C.lo i (aQ (nat_lit 9026032704164098) ae hi a2);exact aQ (nat_lit 9025969084961026) ae this Ku⟩
  obtain high:∀i,l≤i→i<k→A_ lt (gp p k) (gp p i):=fun i h1 h2=>.inl (a4 i h1 h2)
  simp only[hb,hb];by_cases c1:i=k-(k-l)
  ·rw[if_pos c1,if_neg (by exact aQ (nat_lit 0x9096112212011103103) ae c1 gB),if_pos ⟨aQ (nat_lit 9307503654351106) ae c1 gB,aA (nat_lit 281550432243969) ae hj⟩];exact high _ (Ln.go (nat_lit 0x430119482012011103161850153682105) [_,_,_,_,_,_,_] ae (Nat.sub_add_cancel (aA (nat_lit 68737302785) ae a2:l≤k)) (Ln.aY (k) (k-l)) c1 gB (Ln.aY (j) (1))) (aQ (nat_lit 0x12111918011019282102) ae (Nat.sub_add_cancel (aA (nat_lit 1206903640321) ae gB:1≤j)) hj)
  ·rw[if_neg c1];by_cases c2:j=k-(k-l)
   ·rw[if_pos c2,if_neg (fun x'=>aA (nat_lit 0x909610111101102) ae x'.1 (Nat.lt_of_le_of_ne (aQ (nat_lit 5067718365679874) ae gB c2) c1))];exact low _ (vj (nat_lit 0x2011248301341821101103) ae (Nat.lt_of_le_of_ne (aQ (nat_lit 5067718365679874) ae gB c2) c1) (Nat.sub_add_cancel (Ln.go (nat_lit 68737302785) [_,_,0] ae (Nat.sub_le (k) (l)):k-l≤k)) (Ln.aY (k) (l)))
   ·skip
    repeat' split
    all_goals exact S _ _ (by(first|exact eO (nat_lit 0x321119381011011019282103) ae (Nat.sub_add_cancel (Ln.go (nat_lit 2306416316673) [_,0,_] ae ‹_›.1:1≤i)) gB (Ln.aY (j) (1))|exact aQ (nat_lit 5085310283284738) ae (Nat.sub_le (i) (1)) gB|exact aA (nat_lit 69005742337) ae gB|lia)) (by lia))
 exact⟨p',b1,b2,b3.trans (bubble_perm _ _ _)⟩
theorem DY(hN:1≤N):∃p',runK gq (kas_sort N)=some p'∧iN lt p' N∧p'.Perm (List.range N).toArray:=by
 have hg:∀i,i<N→gp (List.range N).toArray i=i:=fun i hi=>by simp[gp,hi]
 obtain⟨m,p,a1,a2,a3,a4,a5⟩:=Bb O ha (p:=(List.range N).toArray) hN ⟨by simp,hN,fun i hi=>by rw[hg i (aA (nat_lit 0x1011119011901102) ae hi hN)];exact hi,fun i a h=>hg i h⟩;refine(c7 a1)▸?_;dsimp only;by_cases h:m<N
 ·rw[if_pos h,show max m 1=m by lia];refine(Bc O ha (N-m) p m (aQ (nat_lit 0x21082501820420182112) ae (Nat.sub_add_cancel (aA (nat_lit 68737306881) ae h:m≤N)) (Ln.aY (N) (m))) a3 a4).elim fun p' Ig=>?_;obtain b1:=Ig.1;obtain b2:=Ig.2.1;obtain b3:=Ig.2.2
  exact⟨p',b1,b2,b3.trans a5⟩
 ·rw[if_neg h];have :m=N:=by obtain this:=a3.le;exact aA (nat_lit 4544351687409938) ae this h
  subst this;exact⟨p,rfl,a4,a5⟩
end
theorem range_getD{α:Type}(as:List α)(d:α):(List.range as.length).map (fun i=>as.getD i d)=as:=by apply List.ext_getElem (by grind);intro i h1 h2;simp[h2]
theorem Be{α κ:Type}(as:List α)(enc:α→V)(key:α→κ)(uO:κ→V)(lt:κ→κ→Bool)(hv:∀a∈as,∀b∈as,NK bB (uO (key a)) (uO (key b))=some (lt (key a) (key b)))
  (Of:∀a,lt a a=false)(tr:∀a b c,lt a b=true→lt b c=true→lt a c=true)(nt:∀a b c,lt a b=false→lt b c=false→lt a c=false)
  (hs:sortable (as.map fun a=>uO (key a))=true)(hl:as.length<64):
  ∃bs:List α,cR (as.map fun a=>uO (key a)) (as.map enc)=some (.lst (bs.map enc))∧bs.Perm as∧∀R:α→α→Prop,as.Pairwise R→bs.Pairwise (fun a b=>lt (key a) (key b)=true∨(lt (key b) (key a)=false∧R a b)):=by
 unfold cR;rw[List.length_map];by_cases h2:as.length<2
 ·rw[if_pos h2];refine⟨as,rfl,List.Perm.refl _,fun R d=>?_⟩;induction as using List.casesOn with |nil=>exact .nil|cons a r=>induction r using List.casesOn with |nil=>exact List.pairwise_singleton ..|cons _ _=>exact absurd h2 (Nat.not_lt_of_le (Nat.le_add_left ..))
 ·rw[if_neg h2,if_pos (by simp_all)];obtain⟨a0,QI⟩:∃a0,a0∈as:=⟨as[0]'(aJ (nat_lit 623081705729) ae h2),List.getElem_mem _⟩;let lt':Nat→Nat→Bool:=fun i j=>lt (key (as.getD i a0)) (key (as.getD j a0))
  obtain O:TX lt':=⟨fun d=>Of _,fun d d d=>tr _ _ _,fun d d d=>nt _ _ _⟩;obtain mem:∀i,as.getD i a0∈as:=fun i=>by
   rw[List.getD_eq_getElem?_getD];cases h:as[i]? with |none=>exact QI|some x=>exact List.mem_of_getElem? h
  obtain ha:∀i j,i<as.length→j<as.length→sortAns (as.map fun a=>uO (key a)) i j=some (lt' i j):=fun i j hi hj=>by
   unfold sortAns;rw[List.getElem?_map,List.getElem?_map,List.getElem?_eq_getElem hi,List.getElem?_eq_getElem hj];obtain e1:as.getD i a0=as[i]:=by simp[hi]
   obtain e2:as.getD j a0=as[j]:=by simp[hj]
   show NK bB (uO (key as[i])) (uO (key as[j]))=some (lt (key (as.getD i a0)) (key (as.getD j a0)));rw[e1,e2];exact hv _ (List.getElem_mem _) _ (List.getElem_mem _)
  refine(DY O ha (aJ (nat_lit 1718298366209) ae h2)).elim fun p z2=>?_;obtain b1:=z2.1;obtain b2:=z2.2.1;obtain b3:=z2.2.2
  obtain hp:p.toList.Perm (List.range as.length):=by exact b3.toList
  have hm:∀i∈p.toList,i<as.length:=fun i hi=>by simpa using hp.mem_iff.mp hi
  refine⟨p.toList.map fun i=>as.getD i a0,?_,?_,fun R hR=>?_⟩
  ·rw[b1];show some (V.lst _)=_;congr 2;rw[List.map_map];refine List.map_congr_left fun i hi=>?_
   obtain this:=hm i hi;simp[this]
  ·obtain this:=hp.map fun i=>as.getD i a0
   rwa [range_getD] at this
  ·rw[List.pairwise_map,List.pairwise_iff_getElem];intro i j hi hj gB;obtain hz:p.toList.length=as.length:=by simpa using hp.length_eq
   obtain g:∀k (hk:k<p.toList.length),gp p k=p.toList[k]:=fun k hk=>by
    rw[nh];have :k<p.size:=by exact hk
    simp[this]
   obtain this:=b2 i j gB (aQ (nat_lit 5085310551724290) ae hj hz);rw[g i hi,g j hj] at this;rcases this with h|⟨h,h3⟩
   ·exact .inl h
   ·refine .inr ⟨h,?_⟩;have i1:=hm _ (List.getElem_mem hi);obtain j1:=hm _ (List.getElem_mem hj);obtain this:=List.pairwise_iff_getElem.mp hR _ _ i1 j1 h3;rw[show as.getD (p.toList[i]) a0=as[p.toList[i]] by simp only[List.getD_eq_getElem?_getD,List.getElem?_eq_getElem i1,Option.getD_some],show as.getD (p.toList[j]) a0=as[p.toList[j]] by simp only[List.getD_eq_getElem?_getD,List.getElem?_eq_getElem j1,Option.getD_some]];exact this
end Mine
end
noncomputable section
open PySem PySem.W PySem.Builtin PySem.Builtin.Str
namespace Mine
section
variable{X H:AH}{d:Nat}
theorem Ih{a b:List Nat}(h:sL a=sL b):a=b:=by simpa [sL] using h
theorem Ii(a b:List Nat):(sL a==sL b)=decide (a=b):=by rw[Bool.eq_iff_iff];simp only[beq_iff_eq,decide_eq_true_eq];exact⟨Ih,fun e=>e▸rfl⟩
theorem i3(x:Str):∀ys:List Str,eqRow (.str x) (ys.map .str)=some (ys.map (·==x))|[]=>rfl|y::r=>congrArg (fun o=>match some (y==x),o with |some p,some q=>some (p::q)|_,_=>none) (i3 x r)
theorem uP(x:Str)(ys:List Str):(eqRow (.str x) (ys.map .str)).map (·.any id)=some (ys.any (·==x)):=by rw[i3];exact congrArg some List.any_map
theorem qA(x:Str)(ys:List Str):ic (.str x) (ys.map .str)=ys.findIdx? (·==x):=by unfold ic;rw[i3];exact List.findIdx?_map ..
theorem jx:∀l:List Int,sumInts (l.map .int)=some l.sum|[]=>rfl|i::r=>by show(sumInts (r.map .int)).map (i+·)=_;rw[jx r];rfl
abbrev Ij(e:Expr):Expr:=eJ e 0
theorem yd{a b:List V}(h:a.length+b.length<2^20):binop .Add (.lst a) (.lst b)=some (.lst (a++b)):=by show(if sizeOk (a.length+b.length) then some (V.lst (a++b)) else none)=_;refine(show sizeOk (a.length+b.length)=true from decide_eq_true h).symm▸?_;rfl
theorem gj{xs:List V}{i:Nat}{v:V}(h:xs[i]?=some v)(hn:xs.length<2^60):item X (.lst xs) (.int i)=some v:=m_ (.inl rfl) h hn
theorem Bf{β:Type}(f:β→V)(o:Option β)(d:β):(o.map f).getD (f d)=f (o.getD d):=by induction o<;>rfl
theorem sP(n:Nat)(v:V)(h:n<1000):binop .Mult (.lst [v]) (.int n)=some (.lst (List.replicate n v)):=by obtain e:=dB ⟨decide_eq_true (Int.natCast_nonneg n),decide_eq_true (Int.ofNat_lt.mpr h)⟩;show(if(decide ((0:Int)≤(n:Int))&&decide ((n:Int)<1000))=true then some (V.lst (List.replicate (n:Int).toNat v)) else none)=_;refine e.symm▸?_;rfl
theorem DZ{xs:List V}{v:V}{n:Nat}(h:i9 v xs=some n):vy xs (T "count") [v] X=some (.int n,X):=congrArg (Option.map fun(n:Nat)=>(V.int n,X)) h
theorem j7(f:V→V→Option Bool):∀l:List V,(∀v∈l,f v v=some true)→lH f l l=some true|[],aM=>rfl|x::xs,h=>by show(match f x x,lH f xs xs with |some p,some q=>some (p&&q)|_,_=>none)=_;rw[h x (.head _),j7 f xs (fun v hv=>h v (.tail _ hv))];rfl
theorem jy(H:AH)(l:List V)(h:∀v∈l,jC 9 H v v=some true):jC bB H (.lst l) (.lst l)=some true:=by show alt (bif l.length==l.length then lH (jC 9 H) l l else some false) none=_;rw[beq_self_eq_true,j7 _ l h];rfl
theorem Bg(H:AH)(i:Int):jC 9 H (.int i) (.int i)=some true:=by show some (i==i)=_;simp
theorem Bh(H:AH)(i:Str):jC 9 H (.str i) (.str i)=some true:=by show some (i==i)=_;simp
theorem D0(x:List Nat)(l:List (List Nat)):(l.map sL).any (·==sL x)=decide (x∈l):=by
 rw[Bool.eq_iff_iff];simp only[List.any_eq_true,List.mem_map,decide_eq_true_eq];constructor
 ·rintro⟨_,⟨y,hy,rfl⟩,h⟩;rw[Ii] at h;refine(of_decide_eq_true h)▸?_;exact hy
 ·intro h;exact⟨sL x,⟨x,h,rfl⟩,by simp⟩
theorem D3(H:AH)(x:List Nat)(l:List (List Nat)):bI H .In (bk x) (.lst (l.map bk))=some (.bool (decide (x∈l))):=by
 obtain h1:(eqRow (bk x) (l.map bk)).map (·.any id)=some (decide (x∈l)):=by simp only[show l.map bk=(l.map sL).map .str by rw[List.map_map];rfl,show bk x=.str (sL x) from rfl,uP,D0]
 show(alt ((eqRow (bk x) (l.map bk)).map (·.any id)) _).map V.bool=_;rw[h1];rfl
theorem wF{X:AH}{xs:List V}{v:V}{i:Nat}(hi:ic v xs=some i):vy xs (T "index") [v] X=some (.int i,X):=congrArg (Option.map fun(n:Nat)=>(V.int n,X)) hi
theorem sQ{X:AH}(l:List Int):i_ "sum" [.lst (l.map .int)] X=some (.int l.sum,X):=congrArg (Option.map fun i=>(V.int i,X)) (jx l)
noncomputable def idxG{β:Type}:Nat→List β→List (Nat×β)|aM,[]=>[]|i,c::r=>(i,c)::idxG (i+1) r
theorem pC{β:Type}(f:β→V):∀(i:Nat) (l:List β),aR (i:Int) (l.map f)=(idxG i l).map fun(p:Nat×β)=>V.tup [.int (p.1:Int),f p.2]|aM,[]=>rfl|i,c::r=>by refine(?_:V.tup [.int i,f c]::aR ((i:Int)+1) (r.map f)=_);obtain this:=pC f (i+1) r;rw[show(((i+1:Nat):Int))=(i:Int)+1 by exact Cu (nat_lit 7045127474750736) ae] at this;rw[this];rfl
theorem hU{β:Type}:∀(i:Nat) (l:List β),(idxG i l).length=l.length|aM,[]=>rfl|i,c::r=>by simp[idxG,hU (i+1) r]
theorem nk{β:Type}:∀{i:Nat} {l:List β} {p:Nat×β},p∈idxG i l→i≤p.1∧p.1<i+l.length∧p.2∈l∧l[p.1-i]?=some p.2
|i,c::r,p,h=>by
 rcases bz h with rfl|h
 ·simp
 ·obtain z1:=nk h;obtain h1:=z1.1;obtain h3:=z1.2.2.1;obtain h4:=z1.2.2.2;refine⟨by solve_by_elim [Nat.le_refl,Nat.le_of_lt,Nat.lt_of_lt_of_le,Nat.le_trans,Nat.lt_of_le_of_lt,Nat.lt_trans],by exact aQ (nat_lit 0x19281801121918801101) ae z1.2.1,.tail _ h3,?_⟩;simp only[show p.1-i=(p.1-(i+1))+1 by exact eO (nat_lit 0x191802530820421938183419381820123082114) ae (Nat.sub_add_cancel (aA (nat_lit 281548411109633) ae h1:i≤p.fst)) (Ln.aY (p.fst) (i+1)) (Nat.sub_add_cancel (aA (nat_lit 0x1190801119080101) ae h1:i+1≤p.fst)) (Ln.aY (p.fst) (i)),List.getElem?_cons_succ];exact h4
theorem j8(l:List (List Nat)):jC bB H (.lst (l.map bk)) (.lst (l.map bk))=some true:=jy H _ fun v hv=>by obtain⟨x,_,rfl⟩:=tJ hv;exact Bh H _
theorem Bj{α:Type}(l:List α)(k:Nat):l.take (min k l.length)=l.take k:=by
 rcases Nat.le_total k l.length with h|h
 ·rw[Nat.min_eq_left h]
 ·rw[Nat.min_eq_right h,List.take_length,List.take_of_length_le h]
theorem nq{α:Type}(l:List α)(k:Nat):cut l none (some (k:Int))=l.take k:=by show(l.drop 0).take (clipAt l.length (k:Int)-0)=_;simp only[List.drop_zero,Nat.sub_zero,clipAt_nat,Bj]
theorem sR(c6:Int)(e cnt:Nat):∀(ws:List (List Nat×List Nat)) (i:Nat),ws≠[]→i+ws.length=cnt→
  ((idxG i ws).map fun p=>wB p.2.1 (c6.fdiv (16^p.1)) (if p.1+1=cnt then e else 0)).flatten=txtL ((idxG i ws).map fun p=>(p.2.1,c6.fdiv (16^p.1))) e
 |[],i,h,aM=>absurd rfl h|[p],i,aM,h=>by simp only[idxG,List.map_cons,List.map_nil,List.flatten_cons,List.flatten_nil,List.append_nil,txtL];exact congrArg _ (if_pos (h))|p::q::r,i,aM,h=>by obtain ih:=sR c6 e cnt (q::r) (i+1) (by simp) (aQ (nat_lit 0x21918190882521919188082511) ae h);rw[show idxG i (p::q::r)=(i,p)::idxG (i+1) (q::r) from rfl,List.map_cons,List.flatten_cons,ih,if_neg (by exact aQ (nat_lit 0x90961219083121919188082102) ae h)];rfl
theorem Bk(q:Bool)(way:Int)(e:Nat):(tailL q way e).length≤4:=by
 unfold tailL;split
 ·unfold endsL;split<;>induction q<;>decide
 ·decide
 ·decide
theorem wG(raw:List Nat)(way:Int)(e:Nat):(wB raw way e).length≤2* raw.length+5:=by
 obtain h1:=ng (fQ raw way) (allB way) raw 0;obtain h2:=Bk (fQ raw way) way e;unfold wB;simp only[List.length_append,List.length_append];obtain h3:(bif fQ raw way then [34] else([]:List Nat)).length≤1:=by induction fQ raw way<;>decide
 exact eO (nat_lit 0x5932a8120880132a201491011900103) ae h3 h2 h1
theorem D4{p:Nat×List Nat}(h:sJ p=true):p.2.length≤3:=Nat.le_of_ble_eq_true (bj h).1
theorem lC{α:Type}(f:α→List Nat)(m:Nat):∀qs:List α,(∀p∈qs,(f p).length≤m)→((qs.map f).flatten).length≤m* qs.length
|[],aM=>Nat.zero_le _|p::r,h=>by
 obtain h1:=lC f m r fun q hq=>h q (.tail _ hq)
 obtain h2:=h p (.head _);simp only[List.map_cons,List.flatten_cons,List.length_append,List.length_cons,Nat.mul_succ];exact eO (nat_lit 0x138208013201100102) ae h2 h1
theorem fT{raw fold:List Nat}(W:c5 raw fold):raw.length≤3∧fold.length≤9:=by
 obtain⟨ps,h1,rfl,rfl,hg⟩:=W.TV;refine⟨by rw[List.length_map];exact h1,?_⟩;obtain this:=lC (·.2) 3 ps fun p hp=>D4 (cO hg p hp)
 exact aA (nat_lit 0x990013910313a00102) ae this h1
abbrev Je(ws:List (List Nat×List Nat))(c6:Int):List (List Nat×Int):=(idxG 0 ws).map fun p=>(p.2.1,c6.fdiv (16^p.1))
theorem wH(e:Nat):∀(l:List (List Nat×Int)),(∀p∈l,p.1.length≤3)→(txtL l e).length≤11* l.length
|[],aM=>by simp[txtL]|[p],h=>by obtain this:=wG p.1 p.2 e;simp[txtL] at *;exact aA (nat_lit 0xb9101390025902a810102) ae this h
|p::q::r,h=>by
 obtain h1:=wH e (q::r) fun q hq=>h q (.tail _ hq)
 obtain h2:=h p (.head _);obtain this:=wG p.1 p.2 0;refine(?_:(wB p.1 p.2 0++txtL (q::r) e).length≤_);rw[List.length_append];exact eO (nat_lit 0x1919388ba208011938ba201391025912a800103) ae this h2 h1
theorem wI{ws:List (List Nat×List Nat)}{c6:Int}{e:Nat}(hw:ws.length≤6)(hW:∀p∈ws,c5 p.1 p.2):(txtL (Je ws c6) e).length<100:=by
 obtain this:=wH e (Je ws c6) fun q hq=>by obtain⟨p,hp,rfl⟩:=tJ hq;exact(fT (hW _ (nk hp).2.2.1)).1
 simp only[List.length_map,hU] at this;omega
theorem D5(ws:List (List Nat×List Nat))(c6:Int):(Je ws c6).map (·.1)=ws.map (·.1):=by
 have :∀i,((idxG i ws).map fun p=>(p.2.1,c6.fdiv (16^p.1))).map (·.1)=ws.map (·.1):=by
  induction ws with |nil=>intro i;rfl|cons p r ih=>intro i;simp[idxG,ih (i+1)]
 exact this 0
theorem uQ{raw fold:List Nat}(W:c5 raw fold):∃fs:List (List Nat),((raw.filter fun(c:Nat)=>!cz.contains (c:Int)).map fun c=>V.str (kJ c))=fs.map (fun q=>.str (sL q))∧fs.flatten=fold:=by
 obtain⟨ps,_,rfl,rfl,hg⟩:=W.TV;obtain key:∀qs:List (Nat×List Nat),qs.all sJ=true→∃fs:List (List Nat),(((qs.map (·.1)).filter fun(c:Nat)=>!cz.contains (c:Int)).map fun c=>V.str (kJ c))=fs.map (fun q=>.str (sL q))∧fs.flatten=(qs.map (·.2)).flatten:=by
  intro qs;induction qs with
  |nil=>intro _;exact⟨[],rfl,rfl⟩|cons p r ih=>
   intro h;obtain h:=bj h;obtain⟨fs,h1,h2⟩:=ih h.2;obtain h3:=(bj h.1).2;simp only[List.map_cons,List.map_cons,List.flatten_cons];induction hc:cz.contains (p.1:Int) with |true=>rw[hc] at h3;rw[List.isEmpty_iff.mp h3,List.filter_cons_of_neg (by rw[hc];exact Bool.false_ne_true)];exact⟨fs,h1,h2⟩|false=>rw[hc] at h3;rw[List.filter_cons_of_pos (by rw[hc];rfl)];exact⟨p.2::fs,by rw[List.map_cons,List.map_cons,h1,eq_of_beq h3],by simp only[List.flatten_cons,h2]⟩
 exact key ps hg
noncomputable abbrev h_(ws:List (List Nat×List Nat)):List (List Nat):=ws.map Prod.fst++[[],[]]
theorem Bl{ws:List (List Nat×List Nat)}(hw:ws.length≤6)(hW:∀p∈ws,c5 p.1 p.2):(h_ ws).flatten.length≤18:=by
 obtain this:=lC Prod.fst 3 ws fun p hp=>(fT (hW p hp)).1
 simp only[List.flatten_append,List.length_append];exact aA (nat_lit 0x12e0908016910313a00102) ae this hw
theorem D6{ws:List (List Nat×List Nat)}(hw:ws.length≤6)(hW:∀p∈ws,c5 p.1 p.2):(ws.map Prod.snd).flatten.length≤54:=by
 obtain this:=lC Prod.snd 9 ws fun p hp=>(fT (hW p hp)).2
 exact aA (nat_lit 0x36e0016910919a00102) ae this hw
theorem jz(a b:Int)(h:(small a&&small b)=true):binop .Mult (.int a) (.int b)=some (.int (a* b)):=by show(if small a&&small b then some (V.int (a* b)) else none)=_;refine h.symm▸?_;rfl
theorem D7{X:AH}{xs:List V}{i:Int}{k:Nat}{v:V}(e:i=k)(h:xs[k]?=some v)(hn:xs.length<2^60):item X (.lst xs) (.int i)=some v:=e▸gj h hn
abbrev yO(p:List Nat×List Nat):V:=.tup [bk p.1,bk p.2]
abbrev M1(s:Stmt):Expr:=DC s
abbrev Jf(e:Expr)(i:Nat):Expr:=eJ e i
abbrev D8(e:Expr):Expr:=eJ e 1
theorem dN{a b:V}(h:jC bB X a b=some true):bI X .NotEq a b=some (.bool false):=by show(jC bB X a b).map (fun r=>V.bool !r)=_;rw[h];rfl
theorem eq_true{a b:V}(h:jC bB X a b=some true):bI X .Eq a b=some (.bool true):=by show(jC bB X a b).map V.bool=_;rw[h];rfl
theorem sS{k:Nat}{xs ys:List V}(h:X[k]?=some (.lst xs)):jC bB X (.ref k) (.lst ys)=jC bB X (.lst xs) (.lst ys):=congrArg (fun v=>alt (cM v fun xs=>cM (V.lst ys) fun ys=>bif xs.length==ys.length then lH (jC 9 X) xs ys else some false) (gD v fun kx=>gD (V.lst ys) fun ky=>bif kx.length==ky.length then veqd (jC 9 X) ky kx else some false)) (ly h)
theorem Bm(x:List Nat):iF (sL x) (T "count") [.str (T "\n")] X=some (.int (dX x),X):=by
 obtain e:∀o,ou (T "\n")=o→iF (sL x) (T "count") [.str (T "\n")] X=(match o with |some c=>pure (V.int (lJ c (sL x)))|none=>M.fail:M V) X:=fun o h=>by cases h;kernel_rfl
 show some (V.int (lJ 10 (sL x)),X)=_;rfl
theorem aB.skip{au:Scope}{g:Comprehension}{Tl:iW}{α:Type}{env:ah}(enc:α→V):∀(xs:List α),(∀x∈xs,fN d au g Tl (enc x) env (.l []) H env (.l []) H)→aB d au g Tl (xs.map enc) env (.l []) H env (.l []) H|[],aM=>.nil|x::xs,h=>(h x (.head _)).go (aB.skip enc xs fun y hy=>h y (.tail _ hy))
theorem joinR{k:Nat}{l:List (List Nat)}(hk:X[k]?=some (.lst (l.map bk)))(h:l.flatten.length<2^20):iF (T "") (T "join") [.ref k] X=some (.str (sL l.flatten),X):=(show qP (T "") (.ref k) X=qP (T "") (.lst (l.map bk)) X by unfold qP;rw[ly hk];rfl).trans (iZ h)
abbrev Jg(e:Expr):Expr:=eJ e 0
theorem uR{k:Nat}{xs:List V}{lo hi:Option Int}(h:X[k]?=some (.lst xs)):slice X (.ref k) lo hi=some (.lst (cut xs lo hi)):=by unfold slice;rw[ly h]
noncomputable def D9(e:Expr):Expr:=by induction e using Expr.casesOn with |Call f as ks p=>exact(ks.head?.map (·.value)).getD f|_=>exact .Constant .none 0 default
abbrev WS(e:Expr):Expr:=eJ e 2
theorem ye{xs:List V}{i:Int}{j:Nat}{v:V}(e:i+xs.length=j)(h0:i<0)(h:xs[j]?=some v)(hn:xs.length<2^60):item X (.lst xs) (.int i)=some v:=m_ (.inr ⟨e,h0⟩) h hn
end
abbrev iL:Scope:=oh 23
abbrev lS(i:Nat):Stmt:=bR (bd 23) i
abbrev LX(d:Nat)(i:Nat)(env:ah)(H:AH)(fl:Fl)(aj:ah)(H':AH):Prop:=kH (d+8) iL env (lS i) H fl aj H'
abbrev TZ(ns:List Int):ah:=[(T "script",.lst (ns.map .int))]
abbrev T3(ns cs:List Int):ah:=[(T "script",.lst (ns.map .int)),(T "cells",.lst (cs.map .int))]
abbrev Og(ns cs:List Int)(way:Int)(cnt:Nat):ah:=[(T "script",.lst (ns.map .int)),(T "cells",.lst (cs.map .int)),(T "way",.int way),(T "count",.int cnt)]
abbrev M3(ns cs:List Int)(way:Int)(cnt:Nat)(mk:List Nat):ah:=Og ns cs way cnt++[(T "marks",.lst (mk.map fun(m:Nat)=>V.int m))]
abbrev Jh(ns cs:List Int)(way:Int)(cnt:Nat)(mk od:List Nat):ah:=Og ns cs way cnt++[(T "marks",.lst (mk.map fun(m:Nat)=>V.int m)),(T "order",.lst (od.map fun(m:Nat)=>V.int m))]
abbrev T4(ns cs:List Int)(way:Int)(cnt:Nat)(mk od:List Nat)(ws:List (List Nat×List Nat)):ah:=Jh ns cs way cnt mk od++[(T "drawn",.lst (ws.map yO))]
noncomputable abbrev pD(cnt e:Nat):V:=.lst (List.replicate (cnt-1) (.int 0)++[.int e])
section
variable{d:Nat}{H:AH}{ns cs:List Int}{way:Int}{cnt e:Nat}{mk od:List Nat}{ws:List (List Nat×List Nat)}
theorem RW:∃cs:List Int,cs.length=8∧LX d 0 (TZ ns) H .next (T3 ns cs) (H++[.gone]):=by
 refine(AU (d:=d+6) (ns:=ns) (k:=H.length) (H:=H++[.gone]) (cs:=[109463,734,29059,13603,130631,81927,89342480,33801505]) (List.length_append▸(Nat.lt_succ_self _)) (Nat.succ_pos _) (by decide) rfl).elim fun cs z2=>?_;obtain hl:=z2.1;obtain hc:=z2.2
 simp only[dK,dK] at hc;exact⟨cs,hl,bK (.call hc .nil)⟩
theorem jA(i6:cs.length=8)(k:Nat)(hk:k<8)(X:AH):∃c,cs[k]?=some c∧item X (.lst (cs.map .int)) (.int k)=some (.int c):=by obtain h:=i6▸hk;refine⟨cs[k],List.getElem?_eq_getElem h,gj ?_ (by rw[List.length_map,i6];decide)⟩;simp only[List.getElem?_map,List.getElem?_eq_getElem h];rfl
theorem jB(x:Int)(m:Nat)(h:0<m):∃j:Nat,j<m∧x.fmod m=j:=by obtain h0:=Int.fmod_nonneg_of_pos _ (Int.ofNat_lt.mpr h);obtain h1:=Int.fmod_lt_of_pos _ (Int.ofNat_lt.mpr h);exact⟨(x.fmod m).toNat,Iz.go (nat_lit 76850404148093186) [_,_] [_] ae (Int.toNat_of_nonneg (yJ (nat_lit 653104087297) ae h0)) h1,(Int.toNat_of_nonneg h0).symm⟩
abbrev T5(ns cs:List Int)(way:Int):ah:=[(T "script",.lst (ns.map .int)),(T "cells",.lst (cs.map .int)),(T "way",.int way)]
theorem RX(i6:cs.length=8):∃way:Int,(way=1∨way=-1)∧LX d 1 (T3 ns cs) H .next (T5 ns cs way) H:=by
 refine(jA i6 6 (by simp_all) H).elim fun c z=>z.elim fun a hc=>?_
 obtain⟨j,hj,ej⟩:=jB (c.fdiv (16^6)) 2 (by decide);obtain m1:=congrArg (fun i=>some (V.int i)) ej;exact⟨1-(j:Int)* 2,by lia,bK (.val 1 hc (.val 4 m1 (.val 5 (jz j 2 (dB ⟨decide_eq_true (by omega),by kernel_rfl⟩)) .nil)))⟩
theorem RY(i6:cs.length=8):∃cnt:Nat,3≤cnt∧cnt≤6∧LX d 2 (T5 ns cs way) H .next (Og ns cs way cnt) H:=by
 refine(jA i6 6 (by simp_all) H).elim fun c z=>z.elim fun a hc=>?_
 obtain⟨q,hq,eq⟩:=jB ((c.fdiv (16^6)).fdiv 2) 4 (Nat.succ_pos _);obtain m2:=congrArg (fun i=>some (V.int i)) eq;exact⟨q+3,aJ (nat_lit 244951089408) ae,aJ (nat_lit 0x693908014901101) ae hq,bK (.val 1 hc (.val 5 m2 .nil))⟩
abbrev WT:Expr:=dQ (lS 3)
theorem F2(i:Nat)(hi:i<8):binop .Pow (.int 16) (.int (0+(i:Int)))=some (.int (16^i)):=by
 obtain h|h|h|h|h|h|h|h:i=0∨i=1∨i=2∨i=3∨i=4∨i=5∨i=6∨i=7:=by lia
 all_goals rw[h];kernel_rfl
theorem F3(c:Int)(i:Nat)(hi:i<8):binop .FloorDiv (.int c) (.int (16^i))=some (.int (c.fdiv (16^i))):=by
 obtain h|h|h|h|h|h|h|h:i=0∨i=1∨i=2∨i=3∨i=4∨i=5∨i=6∨i=7:=by lia
 all_goals rw[h];kernel_rfl
theorem RZ(i6:cs.length=8)(h6:cnt≤6):∃mk:List Nat,mk.length=cnt∧(∀m∈mk,m<16)∧LX d 3 (Og ns cs way cnt) H .next (M3 ns cs way cnt mk) H:=by
 refine(jA i6 6 (by simp_all) H).elim fun c z=>z.elim fun a hc=>?_
 let f:Nat→Nat:=fun i=>((c.fdiv (16^i)).fmod 16).toNat
 have hf:∀i,f i<16∧(c.fdiv (16^i)).fmod 16=(f i:Nat):=fun i=>by
  obtain⟨j,hj,ej⟩:=jB (c.fdiv (16^i)) 16 (Nat.succ_pos _);obtain e:f i=j:=by show((c.fdiv (16^i)).fmod ((16:Nat):Int)).toNat=j;rw[ej];rfl
  rw[e];exact⟨hj,ej⟩
 obtain lp:bS (d+8) WT ((List.range cnt).map fun(i:Nat)=>.int (0+(i:Int))) [(T "cells",.lst (cs.map .int))] (.l []) H (.l (((List.range cnt).map f).map fun(m:Nat)=>V.int m)) H:=by rw[List.map_map];exact aB.all _ _ _ (by rw[List.length_range];exact aJ (nat_lit 0x1000006f0116900101) ae h6) fun i hi vs hz=>by obtain hi:=tL hi;obtain md:=congrArg (fun i=>some (V.int i)) (hf i).2;exact aF [T "cells"] (.val 1 hc (.val 3 (F2 i (aA (nat_lit 0x8901169101101102) ae hi h6)) (.val 4 (F3 c i (aA (nat_lit 0x8901169101101102) ae hi h6)) (.val 5 md (.no 6 (aD hz) .nil)))))
 refine⟨(List.range cnt).map f,by rw[List.length_map,List.length_range],fun m hm=>?_,?_⟩
 ·obtain⟨i,_,rfl⟩:=tJ hm;exact(hf i).1
 ·exact bK (.upd 2 (iy cnt H (aJ (nat_lit 0x1000000000000000100f0116900101) ae h6)) (.cmp lp .nil))
end
section
variable{d:Nat}{H X:AH}{ns cs:List Int}{way:Int}{cnt e:Nat}{mk od:List Nat}{ws:List (List Nat×List Nat)}
noncomputable abbrev nu(mk:List Nat):V:=.lst (mk.map fun(m:Nat)=>V.int m)
abbrev Oh:Expr:=dQ (lS 4)
abbrev Oi(mk:List Nat):V:=.lG [T "place"] (AO (D9 Oh)) (AP (D9 Oh)) [(T "marks",nu mk)]
theorem qB(mk:List Nat)(i:Nat)(hi:i<mk.length)(hz:mk.length<100):item X (nu mk) (.int i)=some (.int ((mk.getD i 0:Nat):Int)):=by refine gj ?_ (by rw[List.length_map];exact aJ (nat_lit 0x1000000000000000100f01164e01101) ae hz);simp only[List.getElem?_map,List.getElem?_eq_getElem hi,List.getD_eq_getElem?_getD,List.getElem?_eq_getElem hi];rfl
theorem yf(hz:mk.length<100)(i:Nat)(hi:i<mk.length):aC (d+2) (Oi mk) [.int (0+(i:Int))] X (.int ((mk.getD i 0:Nat):Int)) X:=by
 obtain it:item X (nu mk) (.int (0+(i:Int)))=some (.int ((mk.getD i 0:Nat):Int)):=by rw[Int.zero_add];exact qB mk i hi hz
 obtain q:=e_ (.val 2 it .nil);exact wg (by kernel_rfl) (by kernel_rfl) q
theorem sU(hz:mk.length<100):∀xs:List Nat,(∀i∈xs,i<mk.length)→iD (d+2) (Oi mk) (xs.map fun(i:Nat)=>.int (0+(i:Int))) X (xs.map fun i=>.int ((mk.getD i 0:Nat):Int)) X|[],aM=>.nil|x::xs,h=>.cons (yf hz x (h x (.head _))) (sU hz xs fun i hi=>h i (.tail _ hi))
theorem nv{α:Type}(as:List α)(enc:α→V)(key:α→Nat)(hl:as.length<64):
  ∃bs:List α,cR (as.map fun a=>.int (key a:Int)) (as.map enc)=some (.lst (bs.map enc))∧bs.Perm as∧∀R:α→α→Prop,as.Pairwise R→bs.Pairwise fun a b=>key a<key b∨(key a=key b∧R a b):=by
 obtain⟨bs,h1,h2,h3⟩:=Be as enc (fun x=>(key x:Int)) V.int (fun a b=>decide (a<b)) (fun a d b d=>rfl) (by simp) (by intro a b c h k;simp only[decide_eq_true_eq] at *;exact Iz.go (nat_lit 5225989790535938) [] [_,_,_] ae k h) (by intro a b c h k;simp only[decide_eq_false_iff_not] at *;exact Iz.go (nat_lit 0x90961129102d110d103) [] [_,_,_] ae k h) (by
  have :(as.map fun a=>V.int (key a:Int)).all Cg=true:=by rw[List.all_map];exact List.all_eq_true.mpr fun d d=>rfl
  unfold sortable;rw[this];rfl) hl
 refine⟨bs,h1,h2,fun R h=>(h3 R h).imp fun{a b} h=>?_⟩;rcases h with h|⟨h4,h5⟩
 ·exact .inl (by simp_all)
 ·simp only[decide_eq_false_iff_not] at h4;by_cases h6:key a<key b
  ·exact .inl h6
  ·exact .inr ⟨BZ (nat_lit 0x102510540717d112) ae h4 h6,h5⟩
theorem R0(hm:mk.length=cnt)(h6:cnt≤6):∃od:List Nat,od.Perm (List.range cnt)∧LX d 4 (M3 ns cs way cnt mk) H .next (Jh ns cs way cnt mk od) H:=by
 refine(nv (List.range cnt) (fun(i:Nat)=>V.int (0+(i:Int))) (fun i=>mk.getD i 0) (by exact List.length_range▸(aJ (nat_lit 0x40e0116900101) ae h6))).elim fun od BY=>?_;obtain h1:=BY.1;obtain h2:=BY.2.1
 refine⟨od,h2,?_⟩;obtain arg:bN (d+7) iL (M3 ns cs way cnt mk) (fR Oh 0) H (.nK 0 cnt) H:=e_ (.upd 2 (iy cnt H (aJ (nat_lit 0x1000000000000000100f0116900101) ae h6)) .nil);obtain nm:bN (d+7) iL (M3 ns cs way cnt mk) (.Name (T "sorted") ⟨159,12,159,18⟩) H (.blt "sorted") H:=e_ .nil;obtain kf:bN (d+7) iL (M3 ns cs way cnt mk) (D9 Oh) H (Oi mk) H:=e_ .nil;obtain h0:od.map (fun(i:Nat)=>V.int (0+(i:Int)))=od.map fun(i:Nat)=>V.int i:=List.map_congr_left fun i a=>by rw[Int.zero_add]
 rw[h0] at h1
 obtain so:=qp (kp:=⟨159,33,159,63⟩) (p:=⟨159,12,159,64⟩) (by kernel_rfl) nm arg kf rfl rfl
  (show iD (d+7) (Oi mk) ((List.range ((cnt:Int)-0).toNat).map fun(i:Nat)=>V.int (0+(i:Int))) H ((List.range cnt).map fun i=>.int ((mk.getD i 0:Nat):Int)) H by exact sU (aA (nat_lit 0x64e11169001012102) ae hm h6) _ fun i hi=>by exact hm▸(tL hi)) (by exact h1)
 exact bK (.ev so .nil)
end
section
variable{d:Nat}{H X:AH}{ns cs:List Int}{way:Int}{cnt e:Nat}{mk od:List Nat}{ws:List (List Nat×List Nat)}{t:List Nat}
abbrev T6:Expr:=dQ (lS 5)
theorem D_(hc:cs.length<100)(is:List Nat)(vs:List V)(hi:∀i∈is,i<cs.length)(hz:vs.length+is.length<200):∃ws:List (List Nat×List Nat),ws.length=is.length∧(∀p∈ws,c5 p.1 p.2)∧
  bS (d+8) T6 (is.map fun(i:Nat)=>.int (0+(i:Int))) [(T "cells",.lst (cs.map .int))] (.l vs) H (.l (vs++ws.map yO)) H:=by
 induction is generalizing vs with |nil=>exact⟨[],rfl,(fun a h=>nomatch h),by rw[show vs++([]:List (List Nat×List Nat)).map yO=vs from List.append_nil vs];exact .nil⟩|cons i is ih=>simp only[List.length_cons] at hz;obtain WU:=hi i (.head _);obtain⟨raw,fold,W,q⟩:=DX (d:=d+6) (H:=H) cs[i];obtain⟨ws,hl,hW,lp⟩:=ih (vs++[yO (raw,fold)]) (fun j h=>hi j (.tail _ h)) (by rw[List.length_append];show vs.length+1+_<_;exact aA (nat_lit 0xc8e11908811c8e1918081101) ae hz);obtain it:=D7 (X:=H) (xs:=cs.map V.int) (i:=0+(i:Int)) (k:=i) (v:=.int cs[i]) (Int.zero_add _) (by simp only[List.getElem?_map,List.getElem?_eq_getElem WU];rfl) (by rw[List.length_map];exact aJ (nat_lit 0x1000000000000000100f01164e01101) ae hc);refine⟨(raw,fold)::ws,congrArg (·+1) hl,fun p hp=>(bz hp).elim (fun e=>e▸W) (hW p),?_⟩;obtain tn:uH (d+8) T6 (.int (0+(i:Int))) [(T "cells",.lst (cs.map .int))] (.l vs) H (.l (vs++[yO (raw,fold)])) H:=aF [T "cells"] (.val 3 it (.call q (.no 4 (aD (show vs.length+1<ak by unfold ak;exact aA (nat_lit 0x1000006f190811c8e1918081101) ae hz)) .nil)));rw[List.append_assoc] at lp;exact tn.go lp
theorem R1(i6:cs.length=8)(h:cnt≤6):∃ws:List (List Nat×List Nat),ws.length=cnt∧(∀p∈ws,c5 p.1 p.2)∧LX d 5 (Jh ns cs way cnt mk od) H .next (T4 ns cs way cnt mk od ws) H:=by
 refine(D_ (d:=d) (H:=H) (aJ (nat_lit 0x64e0118902101) ae i6) (List.range cnt) [] (fun i hi=>by have :=tL hi;exact aQ (nat_lit 0x20118923169101101103) ae this h i6) (by simp only[List.length_range,List.length_nil];exact aJ (nat_lit 0xc8e0098116900101) ae h)).elim fun ws z2=>?_;obtain hl:=z2.1;obtain hW:=z2.2.1;obtain lp:=z2.2.2
 rw[List.length_range] at hl;exact⟨ws,hl,hW,bK (.upd 2 (iy cnt H (aJ (nat_lit 0x1000000000000000100f0116900101) ae h)) (.cmp lp .nil))⟩
abbrev T7(ns cs:List Int)(way:Int)(cnt:Nat)(mk od:List Nat)(ws:List (List Nat×List Nat))(e:Nat):ah:=Jh ns cs way cnt mk od++[(T "drawn",.lst (ws.map yO)),(T "ends",pD cnt e)]
theorem R2(i6:cs.length=8)(h3:3≤cnt)(h6:cnt≤6):∃e,e<3∧LX d 6 (T4 ns cs way cnt mk od ws) H .next (T7 ns cs way cnt mk od ws e) H:=by
 refine(jA i6 7 (Nat.le_refl _) H).elim fun c z=>z.elim fun f hc=>?_
 obtain⟨j,hj,ej⟩:=jB (c.fdiv (16^6)) 3 (Nat.succ_pos _);refine⟨j,hj,?_⟩;obtain sb:binop .Sub (.int cnt) (.int 1)=some (.int ((cnt-1:Nat):Int)):=by rw[show((cnt-1:Nat):Int)=(cnt:Int)-1 by exact BZ (nat_lit 0x1917c07a51908104119082112) ae (Nat.sub_add_cancel (aJ (nat_lit 1718259089665) ae h3:1≤cnt)) (Ln.aY (cnt) (1))];rfl
 obtain m:=sP (cnt-1) (.int 0) (aA (nat_lit 0x3e83f11169001010102) ae (Nat.sub_le (cnt) (1)) h6);obtain md:=congrArg (fun i=>some (V.int i)) ej;obtain ad:=yd (a:=List.replicate (cnt-1) (.int 0)) (b:=[.int (j:Int)]) (by rw[List.length_replicate];show _+1<_;lia);exact bK (.val 1 sb (.val 2 m (.val 4 hc (.val 7 md (.val 8 ad .nil)))))
abbrev T8:Expr:=fR (dQ (lS 7)) 0
abbrev Oj(c6:Int)(e cnt:Nat)(p:Nat×(List Nat×List Nat)):List Nat:=wB p.2.1 (c6.fdiv (16^p.1)) (if p.1+1=cnt then e else 0)
theorem Ea{c:Int}(hc:item H (.lst (cs.map .int)) (.int 7)=some (.int c))(h6:cnt≤6)(hw:ws.length=cnt)(hW:∀p∈ws,c5 p.1 p.2)(he:e<3)(p:Nat×(List Nat×List Nat))(hp:p∈idxG 0 ws)(vs:List V)(hz:vs.length+1<ak):
  uH (d+8) T8 (.tup [.int (p.1:Int),yO p.2]) [(T "cells",.lst (cs.map .int)),(T "ends",pD cnt e)] (.l vs) H (.l (vs++[bk (Oj c e cnt p)])) H:=by
 obtain z1:=nk hp;obtain hm:=z1.2.2.1;obtain bT:p.1<cnt:=by exact aQ (nat_lit 0x20112121109801102) ae z1.2.1 hw
 obtain R3:=(fT (hW _ hm)).1;obtain Ak:(if p.1+1=cnt then e else 0)<3:=by split<;>(first|exact aJ (nat_lit 62676785959169) ae he|exact Ln.go (nat_lit 956895488) [] ae)
 obtain WV:=uL (d:=d+6) (H:=H) (way:=c.fdiv (16^p.1)) Ak (aJ (nat_lit 0x3e83f0113900101) ae R3);obtain pw:=F2 p.1 (aA (nat_lit 0x8901169101101102) ae bT h6);rw[Int.zero_add] at pw;obtain en:item H (pD cnt e) (.int (p.1:Int))=some (.int ((if p.1+1=cnt then e else 0:Nat):Int)):=by
  refine gj ?_ (by rw[List.length_append,List.length_replicate];show _+1<_;lia);by_cases hl:p.1+1=cnt
  ·rw[if_pos hl,List.getElem?_append_right (by exact List.length_replicate▸(aQ (nat_lit 0x2011190831119282102) ae (Nat.sub_add_cancel (aA (nat_lit 4943477712888065) ae hl:1≤cnt)) hl)),List.length_replicate,show p.1-(cnt-1)=0 by lia];rfl
  ·rw[if_neg hl,List.getElem?_append_left (by refine List.length_replicate▸?_;exact aQ (nat_lit 0x20111928101119081102) ae (Nat.lt_of_le_of_ne (aA (nat_lit 308997144973569) ae bT) hl) (Ln.aY (cnt) (1))),List.getElem?_replicate_of_lt (by exact aQ (nat_lit 0x20111928101119081102) ae (Nat.lt_of_le_of_ne (aA (nat_lit 308997144973569) ae bT) hl) (Ln.aY (cnt) (1)))];rfl
 exact aF [T "cells",T "ends"] (.val 4 hc (.val 6 pw (.val 7 (F3 c p.1 (aA (nat_lit 0x8901169101101102) ae bT h6)) (.val 10 en (.call WV (.no 11 (aD hz) .nil))))))
abbrev T9(ns cs:List Int)(way:Int)(cnt:Nat)(mk od:List Nat)(ws:List (List Nat×List Nat))(e:Nat)(t:List Nat):ah:=Jh ns cs way cnt mk od++[(T "drawn",.lst (ws.map yO)),(T "ends",pD cnt e),(T "text",bk t)]
theorem R4(i6:cs.length=8)(h3:3≤cnt)(h6:cnt≤6)(hw:ws.length=cnt)(hW:∀p∈ws,c5 p.1 p.2)(he:e<3):∃c:Int,LX d 7 (T7 ns cs way cnt mk od ws e) H .next (T9 ns cs way cnt mk od ws e (txtL (Je ws c) e)) H:=by
 refine(jA i6 7 (Nat.le_refl _) H).elim fun c WW=>?_;obtain hc:=WW.2
 refine⟨c,?_⟩;obtain lp:bS (d+8) T8 (aR ((0:Nat):Int) (ws.map yO)) [(T "cells",.lst (cs.map .int)),(T "ends",pD cnt e)] (.l []) H (.l (((idxG 0 ws).map (Oj c e cnt)).map bk)) H:=by rw[pC,List.map_map];exact aB.all _ _ (idxG 0 ws) (by rw[hU];exact aA (nat_lit 0x1000006f01169101102102) ae hw h6) fun p hp vs hz=>Ea hc h6 hw hW he p hp vs hz
 obtain fl:=sR c e cnt ws 0 (fun h=>by rw[h] at hw;exact absurd hw (by exact aJ (nat_lit 0x90961009310390102) ae h3)) (aA (nat_lit 282128433554705) ae hw);obtain j:=iZ (H:=H) (by rw[show((idxG 0 ws).map (Oj c e cnt)).flatten=_ from fl];exact Nat.lt_trans (wI (aA (nat_lit 0x6900169101102102) ae hw h6) hW) (by decide));rw[show((idxG 0 ws).map (Oj c e cnt)).flatten=_ from fl] at j;exact bK (.cmp lp (.upd 2 j .nil))
abbrev Ji(ns cs:List Int)(way:Int)(cnt:Nat)(mk od:List Nat)(ws:List (List Nat×List Nat))(e:Nat)(t:List Nat)(a:Lx)(kT:Nat):ah:=Jh ns cs way cnt mk od++[(T "drawn",.lst (ws.map yO)),(T "ends",pD cnt e),(T "text",bk t),(T "lexer",.ref a.k),(T "signs",.ref a.kS),(T "tokens",.ref kT)]
theorem R6(ht:t.length<1000)(hc:cnt≤6):∃(a:Lx) (kT:Nat) (B:AH),iM a B kT∧LX d 8 (T9 ns cs way cnt mk od ws e t) H .next (Ji ns cs way cnt mk od ws e t a kT) (wu a kT (1+dX t) B (lexN (cnt+2) t).1 (lexN (cnt+2) t).2):=by
 refine(AY (d:=d) (H:=H) (cnt+2) (aJ (nat_lit 0x3e83f2908116900101) ae hc) (aJ (nat_lit 0x1000006f2908113e83f01101) ae ht)).elim fun a WX=>?_;refine WX.elim fun kT WY=>?_;refine WY.elim fun B T_=>?_;obtain hT:=T_.1;obtain q:=T_.2.2.2
 obtain ad:binop .Add (.int cnt) (.int 2)=some (.int ((cnt+2:Nat):Int)):=by rfl
 exact⟨a,kT,B,hT,bK (.val 3 ad (.call q .nil))⟩
theorem R7{a:Lx}{kT:Nat}{B:AH}(hw:ws.length≤6)(hT:iM a B kT):LX d 9 (Ji ns cs way cnt mk od ws e t a kT) (wu a kT (1+dX t) B (h_ ws) []) .next (Ji ns cs way cnt mk od ws e t a kT) (wu a kT (1+dX t) B (h_ ws) []):=by
 let X:AH:=wu a kT (1+dX t) B (h_ ws) [];obtain ok:=hT.ok.AJ hT.n4;obtain kt:=(Lx.HO hT.n1 hT.n2 hT.n3).trans (List.getElem?_set_self hT.lt);obtain ks:=ok.signs;obtain kl:X[a.k]?=some (k6 (1+dX t-dX []) a.ks a.kp):=ok.self;obtain lp:bS (d+8) (Ij (D8 (Jf (M1 (lS 9)) 0))) (ws.map yO) [] (.l []) X (.l ((ws.map Prod.fst).map bk)) X:=by rw[List.map_map];exact aB.all _ _ ws (by exact aJ (nat_lit 0x1000006f0116900101) ae hw) fun p hp vs hz=>aF [] (.no 2 (aD hz) .nil)
 obtain ad:=yd (a:=(ws.map Prod.fst).map bk) (b:=[.str (T ""),.str (T "")]) (by rw[List.length_map,List.length_map];exact aJ (nat_lit 0x1000006f2908116900101) ae hw);obtain n1:bI X .NotEq (.ref kT) (.lst ((ws.map Prod.fst).map bk++[.str (T ""),.str (T "")]))=some (.bool false):=by exact(show(ws.map Prod.fst).map bk++[V.str (T ""),.str (T "")]=(h_ ws).map bk by simp only[List.map_append];rfl)▸(dN ((sS kt).trans (j8 _)))
 obtain n2:bI X .NotEq (.ref a.kS) (.lst [])=some (.bool false):=dN ((sS ks).trans rfl);obtain n3:bI X .NotEq (.int (1+dX t-dX [])) (.int (dX t+1))=some (.bool false):=dN (by show some (1+dX t-dX []==dX t+1)=_;simp only[show 1+dX t-dX []=dX t+1 by exact yJ (nat_lit 0x1908090198ca510) ae,beq_self_eq_true]);exact bK (.cmp lp (.val 2 ad (.val 3 n1 (.val 6 n2 (.obj kl (.upd 11 (Bm (X:=X) t) (.val 13 n3 .nil)))))))
end
section
variable{d:Nat}{H X:AH}{ns cs:List Int}{way:Int}{cnt e:Nat}{mk od:List Nat}{ws:List (List Nat×List Nat)}{t:List Nat}{a:Lx}{kT:Nat}
abbrev M4(J:List Nat):V:=.lst (J.map fun(c:Nat)=>.bool (cz.contains (c:Int)))
abbrev M5(ns cs:List Int)(way:Int)(cnt:Nat)(mk od:List Nat)(ws:List (List Nat×List Nat))(e:Nat)(t:List Nat)(a:Lx)(kT:Nat):ah:=Ji ns cs way cnt mk od ws e t a kT++[(T "flags",M4 (h_ ws).flatten)]
abbrev WZ:Expr:=dQ (lS 10)
theorem M6(hw:ws.length≤6)(hW:∀p∈ws,c5 p.1 p.2)(kt:X[kT]?=some (.lst ((h_ ws).map bk))):LX d 10 (Ji ns cs way cnt mk od ws e t a kT) X .next (M5 ns cs way cnt mk od ws e t a kT) X:=by
 obtain hl:=Bl hw hW;obtain j:=joinR kt (aJ (nat_lit 0x1000006f01112e00101) ae hl);obtain lp:bS (d+8) WZ ((h_ ws).flatten.map aV) [] (.l []) X (.l ((h_ ws).flatten.map fun(c:Nat)=>.bool (cz.contains (c:Int)))) X:=aB.all aV _ _ (aJ (nat_lit 0x1000006f01112e00101) ae hl) fun c b vs hz=>aF [] (.call (F0 (d:=d+6) c X) (.no 2 (aD hz) .nil))
 exact bK (.upd 1 j (.cmp lp .nil))
abbrev kM(nm:List (List Nat)):V:=.lst (nm.map bk)
noncomputable abbrev uS(ws:List (List Nat×List Nat)):List (List Nat):=ws.map Prod.snd
abbrev yg(ns cs:List Int)(way:Int)(cnt:Nat)(mk od:List Nat)(ws:List (List Nat×List Nat))(e:Nat)(t:List Nat)(a:Lx)(kT:Nat):ah:=Ji ns cs way cnt mk od ws e t a kT++[(T "flags",M4 (h_ ws).flatten),(T "names",kM (uS ws))]
abbrev Ua:Expr:=dQ (lS 11)
abbrev W2:Expr:=fR (Jg Ua) 0
theorem Eb{raw fold:List Nat}(W:c5 raw fold):bS (d+8) W2 (raw.map aV) [] (.l []) X (.l ((raw.filter fun(c:Nat)=>!cz.contains (c:Int)).map fun c=>.str (kJ c))) X:=by
 obtain hl:=(fT W).1;refine aB.pick aV (fun c=>.str (kJ c)) (fun(c:Nat)=>!cz.contains (c:Int)) raw [] (aJ (nat_lit 0x1000006f0098113900101) ae hl) fun c a vs hz=>?_
 obtain q:=F0 (d:=d+6) c X;induction hb:cz.contains (c:Int) with |true=>rw[hb] at q;exact aF [] (.call q .nil)|false=>rw[hb] at q;exact aF [] (.call q (.call (ML (d:=d+6) c X) (.no 5 (aD hz) .nil)))
theorem M7(hw:ws.length≤6)(hc:ws.length=cnt)(hW:∀p∈ws,c5 p.1 p.2)(kt:X[kT]?=some (.lst ((h_ ws).map bk))):LX d 11 (M5 ns cs way cnt mk od ws e t a kT) X .next (yg ns cs way cnt mk od ws e t a kT) X:=by
 obtain sl:=uR kt;rw[nq,←List.map_take,List.take_append_of_le_length (by simp only[List.length_map,hc];exact Nat.le_refl _),List.take_of_length_le (by simp only[List.length_map,hc];exact Nat.le_refl _),List.map_map] at sl;obtain lp:bS (d+8) Ua (ws.map (bk∘Prod.fst)) [] (.l []) X (.l ((uS ws).map bk)) X:=by
  rw[List.map_map];exact aB.all _ _ ws (aJ (nat_lit 0x1000006f0116900101) ae hw) fun p hp vs hz=>by
   obtain W:=hW p hp;obtain j:iF (T "") (T "join") [.lst ((p.1.filter fun(c:Nat)=>!cz.contains (c:Int)).map fun c=>.str (kJ c))] X=some (.str (sL p.2),X):=by
    refine(uQ W).elim fun fs z=>z.elim fun e1 e2=>?_
    rw[e1,←e2];exact iZ (by refine e2▸?_;obtain this:=(fT W).2;exact aJ (nat_lit 0x1000006f0119900101) ae this)
   obtain ni:=Eb (d:=d) (X:=X) W;exact aF [] (.cmp ni (.upd 1 j (.no 2 (aD hz) .nil)))
 exact bK (.val 2 sl (.cmp lp .nil))
theorem M8(hw:ws.length≤6):LX d 12 (yg ns cs way cnt mk od ws e t a kT) X .next (yg ns cs way cnt mk od ws e t a kT) X:=by
 obtain l1:bS (d+8) (D8 (Jf (M1 (lS 12)) 0)) (ws.map yO) [] (.l []) X (.l ((uS ws).map bk)) X:=by rw[List.map_map];exact aB.all _ _ ws (aJ (nat_lit 0x1000006f0116900101) ae hw) fun p hp vs hz=>aF [] (.no 2 (aD hz) .nil)
 obtain n1:bI X .NotEq (kM (uS ws)) (kM (uS ws))=some (.bool false):=dN (j8 (uS ws));obtain l2:bS (d+8) (MP (Jf (M1 (lS 12)) 1)) ((h_ ws).flatten.map fun(c:Nat)=>.bool (cz.contains (c:Int))) [] (.l []) X (.l []) X:=aB.skip _ _ fun c b=>by induction cz.contains (c:Int)<;>exact aF [] .nil
 exact bK (.cmp l1 (.val 2 n1 (.cmp l2 .nil)))
noncomputable def k7(nm:List (List Nat)):List Nat:=[107,109,112,97,118].filter fun c=>nm.flatten.contains c
abbrev mE(cs:List Int)(way:Int)(cnt:Nat)(mk od:List Nat)(k:Nat)(nm:List (List Nat)):ah:=[(T "cells",.lst (cs.map .int)),(T "way",.int way),(T "count",.int cnt),(T "marks",nu mk),(T "order",nu od),(T "lexer",.ref k),(T "names",kM nm)]
abbrev ltV(lt:List Nat):V:=.lst (lt.map aV)
abbrev R8(cs:List Int)(way:Int)(cnt:Nat)(mk od:List Nat)(k:Nat)(nm:List (List Nat))(lt:List Nat):ah:=mE cs way cnt mk od k nm++[(T "letters",ltV lt)]
abbrev W3:Expr:=dQ (lS 13)
theorem M9(hw:ws.length≤6)(hW:∀p∈ws,c5 p.1 p.2):LX d 13 (yg ns cs way cnt mk od ws e t a kT) X .next (R8 cs way cnt mk od a.k (uS ws) (k7 (uS ws))) X:=by
 obtain hl:=D6 hw hW;obtain j:=iZ (H:=X) (aJ (nat_lit 0x1000006f01136e00101) ae hl)
 obtain lp:bS (d+8) W3 ([107,109,112,97,118].map aV) [(T "names",kM (uS ws))] (.l []) X (.l ((k7 (uS ws)).map aV)) X:=
  aB.pick aV aV (fun c=>(uS ws).flatten.contains c) [107,109,112,97,118] [] (by decide) fun c f vs hz=>by
   obtain i:=in_str (H:=X) (b:=(uS ws).flatten.contains c) (congrArg _ (List.toList_toArray ..));induction hb:(uS ws).flatten.contains c with |true=>rw[hb] at i;exact aF [T "names"] (.upd 2 j (.val 3 i (.no 6 (aD hz) .nil)))|false=>rw[hb] at i;exact aF [T "names"] (.upd 2 j (.val 3 i .nil))
 obtain q:LX d 13 (yg ns cs way cnt mk od ws e t a kT) X .next (yg ns cs way cnt mk od ws e t a kT++[(T "letters",ltV (k7 (uS ws)))]) X:=bK (.cmp lp .nil);exact q.keep (ks:=[T "cells",T "way",T "count",T "marks",T "order",T "lexer",T "names",T "letters"]) (by kernel_rfl)
end
section
variable{d:Nat}{H X:AH}
noncomputable def knd(x y:Nat)(n:List Nat):Bool×Bool:=(n.contains x,n.contains y)
noncomputable abbrev pV(p:Bool×Bool):V:=.tup [.bool p.1,.bool p.2]
theorem uT(ks:List (Bool×Bool)):lI (ks.map pV)=some ks:=by
 induction ks with |nil=>rfl|cons p r ih=>exact congrArg (Option.map (p::·)) ih
theorem nA(p:Bool×Bool)(ks:List (Bool×Bool)):bI X .In (pV p) (.lst (ks.map pV))=some (.bool (ks.any (·==p))):=by
 obtain e:∀l:List V,eqRow (pV p) l=none∨l=[]:=fun l=>by
  induction l with
  |nil=>exact .inr rfl|cons v r=>
   refine .inl ?_;show(match IW v (pV p),eqRow (pV p) r with |some p,some q=>some (p::q)|_,_=>none)=none;have :IW v (pV p)=none:=by induction v using V.casesOn<;>rfl
   rw[this]
 show(alt ((eqRow (pV p) (ks.map pV)).map (·.any id)) ((lI (ks.map pV)).map (·.any (·==p)))).map V.bool=_;rcases e (ks.map pV) with e|e
 ·rw[e,uT];rfl
 ·have :ks=[]:=List.map_eq_nil_iff.mp e;subst this;rfl
abbrev W4:Expr:=dQ (bR (bd 21) 0)
def qC(x y:Nat)(nm:List (List Nat)):Bool:=(nm.map (knd x y)).any (·==(true,true))&&((nm.map (knd x y)).any (·==(true,false))&&(nm.map (knd x y)).any (·==(false,true)))
theorem uU(x y:Nat)(nm:List (List Nat))(hz:nm.length<100):aC (d+2) (.fn 222) [aV x,aV y,kM nm] X (.bool (qC x y nm)) X:=by
 have lp:bS (d+1) W4 (nm.map bk) [(T "one",aV x),(T "other",aV y)] (.l []) X (.l ((nm.map (knd x y)).map pV)) X:=by
  simp only[List.map_map];refine aB.all _ _ nm (aJ (nat_lit 0x1000006f01164e01101) ae hz) fun n a vs hv=>?_
  obtain i1:=in_str (H:=X) (b:=n.contains x) (congrArg _ (List.toList_toArray ..));obtain i2:=in_str (H:=X) (b:=n.contains y) (congrArg _ (List.toList_toArray ..));exact aF [T "one",T "other"] (.val 2 i1 (.val 5 i2 (.no 6 (aD hv) .nil)))
 obtain a1:=nA (X:=X) (true,true) (nm.map (knd x y));obtain a2:=nA (X:=X) (true,false) (nm.map (knd x y));obtain a3:=nA (X:=X) (false,true) (nm.map (knd x y));unfold qC;induction h1:(nm.map (knd x y)).any (·==(true,true)) with
 |false=>rw[h1] at a1;exact aS (.cmp lp (.val 2 a1 .nil))|true=>
  rw[h1] at a1;induction h2:(nm.map (knd x y)).any (·==(true,false)) with |false=>rw[h2] at a2;exact aS (.cmp lp (.val 2 a1 (.val 5 a2 .nil)))|true=>rw[h2] at a2;exact aS (.cmp lp (.val 2 a1 (.val 5 a2 (.val 8 a3 .nil))))
end
section
variable{d:Nat}{H X:AH}{us vs:List V}{f g:Nat→Int}
noncomputable def cmpK(f g:Nat→Int):List (Nat×Int)→Int|[]=>0|p::r=>if f p.1<g p.1 then -p.2 else if g p.1<f p.1 then p.2 else cmpK f g r
noncomputable abbrev Ol(ks:List (Nat×Int)):V:=.lst (ks.map fun p=>.tup [.int p.1,.int p.2])
abbrev yP(ks:List (Nat×Int)):aE:=.inst 144 [(T "comp_select_list",Ol ks)]
theorem yh{k:Nat}(ks:List (Nat×Int))(hu:∀p∈ks,item H (.tup us) (.int p.1)=some (.int (f p.1)))(hv:∀p∈ks,item H (.tup vs) (.int p.1)=some (.int (g p.1))):
  bX (d+1) (N6 8 1) RB RC (ks.map fun p=>.tup [.int p.1,.int p.2]) (cE k us vs) H (.ret (.int (cmpK f g ks))) (cE k us vs) H∨(cmpK f g ks=0∧bX (d+1) (N6 8 1) RB RC (ks.map fun p=>.tup [.int p.1,.int p.2]) (cE k us vs) H .next (cE k us vs) H):=by
 induction ks with
 |nil=>exact .inr ⟨rfl,.nil⟩|cons p r ih=>
  obtain u0:=hu p (.head _);obtain v0:=hv p (.head _);unfold cmpK;by_cases h1:f p.1<g p.1
  ·rw[if_pos h1];exact .inl (Turn.ret (az cK (.val 2 u0 (.val 5 v0 (.no 9 (decide_eq_true h1) .nil)))))
  ·rw[if_neg h1];by_cases h2:g p.1<f p.1
   ·rw[if_pos h2];exact .inl (Turn.ret (az cK (.val 2 u0 (.val 5 v0 (.no 9 (decide_eq_false h1) (.no 13 (decide_eq_true h2) .nil))))))
   ·rw[if_neg h2];have n1:Turn (d+1) (N6 8 1) RB RC (.tup [.int p.1,.int p.2]) (cE k us vs) H .next (cE k us vs) H:=az cK (.val 2 u0 (.val 5 v0 (.no 9 (decide_eq_false h1) (.no 13 (decide_eq_false h2) .nil))));rcases ih (fun p hp=>hu p (.tail _ hp)) (fun p hp=>hv p (.tail _ hp)) with h|⟨h0,h⟩
    ·exact .inl (n1.next (.inl rfl) h)
    ·exact .inr ⟨h0,n1.next (.inl rfl) h⟩
theorem sV{k:Nat}{ks:List (Nat×Int)}(hk:H[k]?=some (yP ks))(hu:∀p∈ks,item H (.tup us) (.int p.1)=some (.int (f p.1)))(hv:∀p∈ks,item H (.tup vs) (.int p.1)=some (.int (g p.1))):
  aC (d+2) (.fn 141) [.ref k,.tup us,.tup vs] H (.int (cmpK f g ks)) H:=by
 rcases yh (d:=d) (k:=k) ks hu hv with h|⟨h0,h⟩
 ·exact aS (.obj hk (.loop h .nil))
 ·refine h0▸?_;exact aS (.obj hk (.loop h .nil))
theorem Bo(ks:List (Nat×Int)):aC (d+3) (.cls 144) [Ol ks] X (.ref X.length) (X++[yP ks]):=by obtain q:=AV (v:=Ol ks) rfl dJ;simp only[dK] at q;exact FH (cd:=((G.C.fW.lookup 144).getD ⟨[],[]⟩)) (by kernel_rfl) (by kernel_rfl) q
end
section
variable{d:Nat}{H X:AH}{mk:List Nat}{nm:List (List Nat)}{lt:List Nat}
noncomputable def Ec(mk:List Nat)(c:Nat)(p:List Nat×Nat):Int:=3* (if p.1.contains c==decide (mk.getD p.2 0 %2=0) then 1 else 0)
abbrev Ik:Expr:=dQ (bR (bd 17) 1)
abbrev uV(mk:List Nat)(nm:List (List Nat))(c:Nat):List Int:=(nm.zipIdx 0).map (Ec mk c)
abbrev sW(mk:List Nat)(nm:List (List Nat))(c:Nat):V:=.tup (aV c::(uV mk nm c).map .int)
def Ub(e:Expr):Expr:=match Jc e with |.kv _ v=>v|.e v=>v
abbrev Uc:Expr:=eJ (eJ (Ub Ik) 1) 1
theorem Ed(hm:mk.length<100)(c:Nat)(p:List Nat×Nat)(hp:p.2<mk.length)(vs:List V)(hv:vs.length+1<ak):
  uH (d+1) Uc (.tup [.int p.2,bk p.1]) [(T "letter",aV c),(T "marks",nu mk)] (.l vs) H (.l (vs++[.int (Ec mk c p)])) H:=by
 obtain i1:=in_str (H:=H) (b:=p.1.contains c) (by exact congrArg _ (show(sL p.1).cps.toList=p.1 from List.toList_toArray ..));obtain it:=qB (X:=H) mk p.2 hp hm;obtain md:binop .Mod (.int ((mk.getD p.2 0:Nat):Int)) (.int 2)=some (.int ((mk.getD p.2 0 %2:Nat):Int)):=by show some (V.int (((mk.getD p.2 0:Nat):Int).fmod 2))=_;rw[Int.fmod_eq_emod_of_nonneg _ (by simp_all)];rfl
 obtain e8:bI H .Eq (.int ((mk.getD p.2 0 %2:Nat):Int)) (.int 0)=some (.bool (decide (mk.getD p.2 0 %2=0))):=eq_int (by rw[Bool.eq_iff_iff,beq_iff_eq,decide_eq_true_iff];omega);unfold Ec;induction h1:p.1.contains c<;>induction h2:decide (mk.getD p.2 0 %2=0)<;>rw[h1] at i1<;>rw[h2] at e8
 ·exact aF [T "letter",T "marks"] (.val 3 i1 (.val 6 it (.val 7 md (.val 8 e8 (.no 12 (aD hv) .nil)))))
 ·exact aF [T "letter",T "marks"] (.val 3 i1 (.val 6 it (.val 7 md (.val 8 e8 (.no 12 (aD hv) .nil)))))
 ·exact aF [T "letter",T "marks"] (.val 3 i1 (.val 6 it (.val 7 md (.val 8 e8 (.no 12 (aD hv) .nil)))))
 ·exact aF [T "letter",T "marks"] (.val 3 i1 (.val 6 it (.val 7 md (.val 8 e8 (.no 12 (aD hv) .nil)))))
theorem R9{a b:List V}(ha:a.length≠0)(hb:b.length≠0)(h:a.length+b.length<2^20):binop .Add (.tup a) (.tup b)=some (.tup (a++b)):=by show(if a.length !=0&&b.length !=0&&sizeOk (a.length+b.length) then some (V.tup (a++b)) else none)=_;refine(show(a.length !=0&&b.length !=0&&sizeOk (a.length+b.length))=true from dB ⟨dB ⟨bne_iff_ne.mpr ha,bne_iff_ne.mpr hb⟩,decide_eq_true h⟩).symm▸?_;rfl
theorem M_{b:Bool}(xs:List V):gF b "tuple" [.lst xs] X=some (.tup xs,X):=rfl
theorem Bp(hm:mk.length<100)(hn:nm.length=mk.length)(h0:0<mk.length)(c:Nat)(kvs:List (Str×V))(hz:kvs.length+1<ak):
  uH (d+1) Ik (aV c) [(T "marks",nu mk),(T "names",kM nm)] (.d kvs) H (.d (aP kvs (bx c) (sW mk nm c))) H:=by
 obtain lp:bS (d+1) Uc (aR 0 (nm.map bk)) [(T "letter",aV c),(T "marks",nu mk)] (.l []) H (.l ((uV mk nm c).map .int)) H:=by simp only[show aR 0 (nm.map bk)=_ from dM bk 0 nm,List.map_map];exact aB.all (fun(p:List Nat×Nat)=>.tup [.int p.2,bk p.1]) _ _ (by rw[List.length_zipIdx];exact aA (nat_lit 0x1000006f01164e111102102) ae hn hm) fun p hp vs hv=>Ed hm c p (by have :=(List.mem_zipIdx hp).2.1;exact aQ (nat_lit 0x20112121109801102) ae this hn) vs hv
 obtain hl:((uV mk nm c).map V.int).length=nm.length:=by simp only[List.length_map,List.length_map,List.length_zipIdx]
 obtain ad:=R9 (a:=[aV c]) (Nat.succ_ne_zero 0) (aQ (nat_lit 0x9096109021213120911103104) ae hl h0 hn) (by refine(?_:1+_<_);lia);exact aF [T "marks",T "names"] (.cmp lp (.upd 5 (M_ (X:=H) (b:=false) ((uV mk nm c).map .int)) (.val 6 ad (.no 7 (aD hz) .nil))))
def kN(mk:List Nat)(nm:List (List Nat))(lt:List Nat):List (Str×V):=lt.foldl (fun D c=>aP D (bx c) (sW mk nm c)) []
theorem pF{β:Type}(F:Nat→β)(l:List Nat)(D:List (Str×β))(c:Nat):(l.foldl (fun D c=>aP D (bx c) (F c)) D).lookup (bx c)=if c∈l then some (F c) else D.lookup (bx c):=by
 induction l generalizing D with
 |nil=>rfl|cons a r ih=>
  simp only[List.foldl_cons,ih,cS,bC];by_cases h1:c∈r
  ·rw[if_pos h1,if_pos (.tail _ h1)]
  ·rw[if_neg h1];by_cases h2:c=a
   ·subst h2;rw[if_pos (beq_self_eq_true c),if_pos (.head _)]
   ·rw[if_neg ((beq_false_of_ne h2)▸(Bool.false_ne_true)),if_neg (fun h=>(bz h).elim h2 h1)]
theorem nB{c:Nat}(h:c∈lt):(kN mk nm lt).lookup (bx c)=some (sW mk nm c):=by unfold kN;rw[pF,if_pos h]
theorem Ef(hm:mk.length<100)(hn:nm.length=mk.length)(h0:0<mk.length)(hl:lt.length<100):bS (d+1) Ik (lt.map aV) [(T "marks",nu mk),(T "names",kM nm)] (.d []) H (.d (kN mk nm lt)) H:=
 aB.fold aV (fun s=>.d s) (fun a=>H) (fun s c=>aP s (bx c) (sW mk nm c)) (fun xs s=>s.length+xs.length<200)
  (fun c cs s hh=>by obtain this:=cG s (bx c) (sW mk nm c);exact aQ (nat_lit 0xc8e20811c8e19281811191800102) ae this hh)
  (fun c cs s hh=>Bp hm hn h0 c s (aA (nat_lit 0x1000006f190811c8e1918081101) ae hh)) lt [] (aJ (nat_lit 0xc8e00981164e01101) ae hl)
abbrev uW(mk:List Nat)(nm:List (List Nat))(c i:Nat):Int:=(uV mk nm c).getD (i-1) 0
theorem Eg{xs:List V}{i:Int}{k:Nat}{v:V}(e:bV xs.length i=some k)(h:xs[k]?=some v):item X (.tup xs) (.int i)=some v:=by show((bV xs.length i).bind fun k=>xs[k]?)=_;refine e▸?_;exact h
theorem Il{xs:List V}{i:Nat}{v:V}(h:xs[i]?=some v)(hn:xs.length<2^60):item X (.tup xs) (.int i)=some v:=Eg (jv (.inl rfl) (c_ h).1 hn) h
theorem sX(hn:nm.length<100)(c i:Nat)(h1:1≤i)(h2:i≤nm.length):item X (sW mk nm c) (.int i)=some (.int (uW mk nm c i)):=by
 have hl:(uV mk nm c).length=nm.length:=by simp only[List.length_map,List.length_zipIdx]
 refine Il ?_ (by rw[List.length_cons,List.length_map];exact aA (nat_lit 0x1000000000000000100f19081164e111102102) ae hl hn);obtain⟨j,rfl⟩:∃j,i=j+1:=⟨i-1,aA (nat_lit 0x19180250191834191800112) ae (Ln.aY (i) (1)) (Nat.sub_add_cancel (aJ (nat_lit 1718256992513) ae h1:1≤i))⟩;rw[List.getElem?_cons_succ,List.getElem?_map,show uW mk nm c (j+1)=(uV mk nm c).getD j 0 from rfl,List.getD_eq_getElem?_getD,List.getElem?_eq_getElem (by exact aQ (nat_lit 0x20111231119080102) ae h2 hl)];rfl
def Om(mk:List Nat)(nm:List (List Nat))(ks:List (Nat×Int))(a b:Nat):Int:=cmpK (uW mk nm a) (uW mk nm b) ks
abbrev R_(mk:List Nat)(nm:List (List Nat))(ks:List (Nat×Int))(lt:List Nat):V:=.lst (lt.map fun a=>.lst (lt.map fun b=>.int (Om mk nm ks a b)))
abbrev Sa:Expr:=DM (bR (bd 17) 2)
theorem Eh{kq:Nat}{ks:List (Nat×Int)}(hq:X[kq]?=some (yP ks))(hn:nm.length<100)(hk:∀p∈ks,1≤p.1∧p.1≤nm.length){a b:Nat}(ha:a∈lt)(hb:b∈lt)(vs:List V)(hv:vs.length+1<ak):
  uH (d+2) (Jg Sa) (aV b) [(T "comparer",.ref kq),(T "one",aV a),(T "rows",.bf (kN mk nm lt))] (.l vs) X (.l (vs++[.int (Om mk nm ks a b)])) X:=by
 obtain i1:item X (.bf (kN mk nm lt)) (.str (bx a))=some (sW mk nm a):=nB ha;obtain i2:item X (.bf (kN mk nm lt)) (.str (bx b))=some (sW mk nm b):=nB hb;obtain q:=sV (d:=d) (f:=uW mk nm a) (g:=uW mk nm b) hq (fun p hp=>sX hn a p.1 (hk p hp).1 (hk p hp).2) (fun p hp=>sX hn b p.1 (hk p hp).1 (hk p hp).2);exact aF [T "comparer",T "one",T "rows"] (.obj hq (.val 3 i1 (.val 6 i2 (.call q (.no 7 (aD hv) .nil)))))
theorem Bq{ks:List (Nat×Int)}(hm:mk.length<100)(hn:nm.length=mk.length)(h0:0<mk.length)(hl:lt.length<100)(hk:∀p∈ks,1≤p.1∧p.1≤nm.length):
  aC (d+4) (.fn 200) [ltV lt,kM nm,nu mk,Ol ks] X (R_ mk nm ks lt) (X++[yP ks]):=by
 obtain hq:=dJ
 obtain l2:bS (d+3) Sa (lt.map aV) [(T "comparer",.ref X.length),(T "letters",ltV lt),(T "rows",.bf (kN mk nm lt))] (.l []) (X++[yP ks]) (.l (lt.map fun a=>.lst (lt.map fun b=>.int (Om mk nm ks a b)))) (X++[yP ks]):=
  aB.all aV _ lt (aJ (nat_lit 0x1000006f01164e01101) ae hl) fun a ha vs hv=>by
   obtain lp:bS (d+3) (Jg Sa) (lt.map aV) [(T "comparer",.ref X.length),(T "one",aV a),(T "rows",.bf (kN mk nm lt))] (.l []) (X++[yP ks]) (.l (lt.map fun b=>.int (Om mk nm ks a b))) (X++[yP ks]):=aB.all aV _ lt (aJ (nat_lit 0x1000006f01164e01101) ae hl) fun b hb vs hv=>Eh hq (aA (nat_lit 0x64e01164e111102102) ae hn hm) hk ha hb vs hv
   exact aF [T "comparer",T "letters",T "rows"] (.cmp lp (.no 1 (aD hv) .nil))
 exact aS (.call (Bo (d:=d) (X:=X) ks) (.cmp (Ef (d:=d+2) (H:=X++[yP ks]) hm hn h0 hl) (.cmp l2 .nil)))
end
section
variable{d:Nat}{H X:AH}{line:List Nat}
theorem wJ{c:Nat}(h:c∈line):ic (aV c) (line.map aV)=some (line.idxOf c):=by
 rw[show line.map aV=(line.map bx).map V.str by rw[List.map_map];rfl];refine(qA (bx c) (line.map bx)).trans ?_;induction line with
 |nil=>exact nomatch h|cons a r ih=>
  simp only[List.map_cons,List.findIdx?_cons,bC,List.idxOf_cons];induction hb:a==c with
  |true=>rfl|false=>
   obtain hr:=(bz h).resolve_left fun e=>absurd (beq_iff_eq.mpr e.symm) (by refine hb▸?_;exact Bool.false_ne_true)
   rw[ih hr];rfl
noncomputable def Im(line:List Nat)(n c:Nat):Nat:=n* 8+line.idxOf c+1
def num(line:List Nat)(r:List Nat):Nat:=r.foldl (Im line) 0
abbrev Oo(i:Nat):Stmt:=bR (bd 22) i
abbrev Na(line r:List Nat)(n:Nat):ah:=[(T "run",bk (47::r)),(T "line",ltV line),(T "number",.int n)]
theorem Ei{r:List Nat}(hl:line.length≤5){c n:Nat}(hc:c∈line)(hn:n<8^5):Turn (d+1) (oh 22) (c8 (Oo 1)) (c9 (Oo 1)) (aV c) (Na line r n) H .next (Na line r (Im line n c)) H:=by obtain m:=(jz n 8 (dB ⟨decide_eq_true (by omega),by kernel_rfl⟩)).trans (congrArg (fun i=>some (V.int i)) (Cu (nat_lit 9582198629648) ae));obtain ix:=wF (X:=H) (wJ hc);obtain a1:binop .Add (.int ((n* 8:Nat):Int)) (.int (line.idxOf c:Nat))=some (.int ((n* 8+line.idxOf c:Nat):Int)):=rfl;exact az [T "run",T "line",T "number"] (.val 1 m (.upd 4 ix (.val 5 a1 .nil)))
theorem yi(hl:line.length≤5)(r:List Nat)(hr:∀c∈r,c∈line)(h5:r.length≤5):aC (d+2) (.fn 229) [bk (47::r),ltV line] X (.int (num line r)) X:=by
 obtain sl:slice X (bk (47::r)) (some 1) none=some (bk r):=by show some (bk (((47::r).drop (clipAt (47::r).length 1)).take ((47::r).length-clipAt (47::r).length 1)))=_;refine(show clipAt (47::r).length 1=1 from(clipAt_nat (47::r).length 1).trans (by simp only[List.length_cons];lia))▸?_;simp
 obtain lp:bX (d+1) (oh 22) (c8 (Oo 1)) (c9 (Oo 1)) (r.map aV) (Na line r 0) X .next (Na line r (num line r)) X:=
  bX.fold aV (fun n=>Na line r n) (fun a=>X) (Im line) (fun xs n=>(∀c∈xs,c∈line)∧(n+1)* 8^xs.length≤8^5)
   (fun c xs n h=>⟨fun x hx=>h.1 x (.tail _ hx),by obtain h2:=h.2;simp only[List.length_cons,Nat.pow_succ] at h2;obtain hi:=List.idxOf_lt_length_iff.mpr (h.1 c (.head _));refine Nat.le_trans ?_ h2;simp only[show(n+1)* (8^xs.length* 8)=((n+1)* 8)* 8^xs.length by simp only[Nat.mul_comm (8^xs.length) 8,Nat.mul_assoc]];refine Nat.mul_le_mul_right _ ?_;exact aQ (nat_lit 0x19288b1919028b8880159101101102) ae hi hl⟩)
   (fun c xs n h=>Ei hl (h.1 c (.head _)) (by
    obtain h2:=h.2;have :1≤8^(c::xs).length:=Nat.pow_le_pow_right (by decide:0<8) (Nat.zero_le _)
    obtain this:=Nat.le_trans (Nat.mul_le_mul_left (n+1) this) h2;exact Ln.go (nat_lit 0x80004f01180004f19081b0101) [_,0] ae this)) r 0 ⟨hr,by rw[Nat.one_mul];exact Nat.pow_le_pow_right (Nat.succ_pos _) h5⟩
 exact aS (.val 1 sl (.loop lp .nil))
end
section
variable{d:Nat}{H X:AH}{c:Nat}{runs:List (List Nat×Int)}
noncomputable def dR(c:Nat)(r:List Nat):Nat:=(126::r).getD (r.idxOf c) 0
noncomputable def own(c:Nat)(r:List Nat):Int:=if r.getLast?==some c then 1 else 0
abbrev B_(p:List Nat×Int):V:=.tup [bk p.1,.int p.2]
abbrev qD(runs:List (List Nat×Int)):V:=.lst (runs.map B_)
abbrev tI(c:Nat)(p:List Nat×Int):V:=.tup [aV (dR c p.1),.int (own c p.1),.int p.2]
noncomputable abbrev dO(c:Nat)(runs:List (List Nat×Int)):List (List Nat×Int):=runs.filter fun p=>p.1.contains c
theorem sY{a b:List Nat}(h:a.length+b.length<2^20):binop .Add (bk a) (bk b)=some (bk (a++b)):=by show(if sizeOk ((sL a).length+(sL b).length) then some (V.str (sL a++sL b)) else none)=_;simp only[fy,fy,uG,show sizeOk (a.length+b.length)=true from decide_eq_true h];rfl
theorem Ej{r:List Nat}(h:c∈r):iF (sL r) (T "index") [aV c] H=some (.int (r.idxOf c:Nat),H):=by
 obtain e:r.findIdx? (·==c)=some (r.idxOf c):=by
  induction r with
  |nil=>exact nomatch h|cons a r ih=>
   simp only[List.findIdx?_cons,List.idxOf_cons];induction hb:a==c with
   |true=>rfl|false=>
    obtain hr:=(bz h).resolve_left fun e=>absurd (beq_iff_eq.mpr e.symm) (by refine hb▸?_;exact Bool.false_ne_true)
    rw[ih hr];rfl
 obtain k:∀o:Option Nat,(sL r).cps.toList.findIdx? (·==c)=o→iF (sL r) (T "index") [aV c] H=(o.map fun(i:Nat)=>V.int i).map fun v=>(v,H):=fun o h=>by subst h;rfl
 exact k (some (r.idxOf c)) e
abbrev Sb:Expr:=dQ (bR (bd 19) 0)
theorem Ek{p:List Nat×Int}(hz:p.1.length<100)(h0:p.1≠[])(vs:List V)(hv:vs.length+1<ak):uH (d+1) Sb (B_ p) [(T "sign",aV c)] (.l vs) H (.l (bif p.1.contains c then vs++[tI c p] else vs)) H:=by
 obtain i0:=in_str (H:=H) (b:=p.1.contains c) (by rw[show(sL p.1).cps.toList=p.1 from List.toList_toArray ..]);induction hb:p.1.contains c with
 |false=>rw[hb] at i0;exact aF [T "sign"] (.val 2 i0 .nil)|true=>
  rw[hb] at i0;obtain hm:=List.contains_iff_mem.mp hb;obtain ad:=sY (a:=[126]) (by exact aJ (nat_lit 0x1000006f01981164e01101) ae hz);obtain ix:=Ej (H:=H) hm;obtain hi:=List.idxOf_lt_length_iff.mpr hm;obtain it:=lz (H:=H) (d:=dR c p.1) (.inl rfl) (by unfold dR;rw[List.getD_eq_getElem?_getD,List.getElem?_eq_getElem (by rw[List.length_cons];exact aA (nat_lit 441454204817665) ae hi)];rfl) (by rw[List.length_cons];exact aJ (nat_lit 0x1000000000000000100f19081164e01101) ae hz);obtain⟨z,Ud⟩:∃z,p.1.getLast?=some z:=by
   induction hq:p.1.getLast? with |none=>exact absurd (List.getLast?_eq_none_iff.mp hq) h0|some z=>exact⟨z,rfl⟩
  obtain Sd:=List.length_pos_iff.mpr h0;obtain il:=lz (H:=H) (i:=-1) (k:=p.1.length-1) (.inr ⟨BZ (nat_lit 0x170719d8a50191834191800112) ae (Ln.aY (p.fst.length) (1)) (Nat.sub_add_cancel (aJ (nat_lit 1718255948033) ae Sd:1≤p.fst.length)),by decide⟩) (by rw[←List.getLast?_eq_getElem?];exact Ud) (aJ (nat_lit 0x1000000000000000100f01164e01101) ae hz);obtain eq:=eq_str (H:=H) (bC z c);obtain ow:own c p.1=if z==c then 1 else 0:=by unfold own;rw[Ud];rfl
  show uH (d+1) Sb (B_ p) [(T "sign",aV c)] (.l vs) H (.l (vs++[.tup [aV (dR c p.1),.int (own c p.1),.int p.2]])) H;rw[ow];induction h2:z==c with |false=>rw[h2] at eq;exact aF [T "sign"] (.val 2 i0 (.val 5 ad (.upd 8 ix (.val 9 it (.val 12 il (.val 14 eq (.no 17 (aD hv) .nil)))))))|true=>rw[h2] at eq;exact aF [T "sign"] (.val 2 i0 (.val 5 ad (.upd 8 ix (.val 9 it (.val 12 il (.val 14 eq (.no 17 (aD hv) .nil)))))))
theorem El(hr:∀p∈runs,p.1.length<100∧p.1≠[])(hz:runs.length<100):bS (d+1) Sb (runs.map B_) [(T "sign",aV c)] (.l []) H (.l ((dO c runs).map (tI c))) H:=aB.pick B_ (tI c) (fun p=>p.1.contains c) runs [] (aJ (nat_lit 0x1000006f00981164e01101) ae hz) fun p hp vs hv=>Ek (hr p hp).1 (hr p hp).2 vs hv
abbrev Ue:Expr:=dQ (bR (bd 19) 1)
def uX(c x:Nat)(hs:List (List Nat×Int)):Nat:=(hs.filter fun p=>dR c p.1==x).length
def Em(c:Nat)(hs:List (List Nat×Int)):List (Str×Int):=hs.foldl (fun D p=>aP D (bx (dR c p.1)) ((uX c (dR c p.1) hs:Nat):Int)) []
theorem Nb{x:Nat}(hs:List (List Nat×Int))(hz:hs.length<100):bS (d+1) (fR (Ub Ue) 0) (hs.map (tI c)) [(T "caller",aV x)] (.l []) H (.l ((hs.filter fun p=>dR c p.1==x).map fun a=>.int 1)) H:=
 aB.pick (tI c) (fun a=>.int 1) (fun p=>dR c p.1==x) hs [] (aJ (nat_lit 0x1000006f00981164e01101) ae hz) fun p hp vs hv=>by
  obtain eq:=eq_str (H:=H) (bC (dR c p.1) x);induction h2:dR c p.1==x with |false=>rw[h2] at eq;exact aF [T "caller"] (.val 3 eq .nil)|true=>rw[h2] at eq;exact aF [T "caller"] (.val 3 eq (.no 5 (aD hv) .nil))
theorem Nc(hs:List (List Nat×Int))(hz:hs.length<100):bS (d+1) Ue (hs.map (tI c)) [(T "held",.lst (hs.map (tI c)))] (.d []) H (.d (aI V.int (Em c hs))) H:=
 aB.fold (tI c) (fun s=>.d (aI V.int s)) (fun a=>H) (fun D p=>aP D (bx (dR c p.1)) ((uX c (dR c p.1) hs:Nat):Int)) (fun xs s=>s.length+xs.length<200)
  (fun p ps s hh=>by obtain this:=cG s (bx (dR c p.1)) ((uX c (dR c p.1) hs:Nat):Int);exact aQ (nat_lit 0xc8e20811c8e19281811191800102) ae this hh)
  (fun p ps s hh=>by
   obtain ln:i_ "len" [.lst ((hs.filter fun q=>dR c q.1==dR c p.1).map fun a=>V.int 1)] H=some (.int ((uX c (dR c p.1) hs:Nat):Int),H):=by show some (V.int (((hs.filter fun q=>dR c q.1==dR c p.1).map fun a=>V.int 1).length:Int),H)=_;rw[List.length_map];rfl
   rw[←pK];exact aF [T "held"] (.cmp (Nb (d:=d) (H:=H) (c:=c) (x:=dR c p.1) hs hz) (.upd 3 ln (.no 4 (aD (show(aI V.int s).length+1<ak by rw[d7];exact aA (nat_lit 0x1000006f190811c8e1918081101) ae hh)) .nil)))) hs [] (aJ (nat_lit 0xc8e00981164e01101) ae hz)
abbrev Se(i:Nat):Expr:=HZ (DM (bR (bd 19) 2)) i
def sZ(c:Nat)(runs:List (List Nat×Int)):St:=⟨((dO c runs).map fun p=>own c p.1).sum,((dO c runs).length:Int),((dO c runs).map fun p=>own c p.1* p.2).sum,((dO c runs).map fun p=>p.2).sum,Em c (dO c runs)⟩
theorem yj(c:Nat)(r:List Nat):small (own c r)=true:=by unfold own;split<;>kernel_rfl
theorem Io(hr:∀p∈runs,p.1.length<100∧p.1≠[]∧small p.2=true)(hz:runs.length<100):aC (d+2) (.fn 212) [aV c,qD runs] H (sZ c runs).enc H:=by
 obtain hl:=Nat.lt_of_le_of_lt (List.length_filter_le ..) hz;obtain ln:i_ "len" [.lst ((dO c runs).map (tI c))] H=some (.int ((dO c runs).length:Int),H):=by show some (V.int (((dO c runs).map (tI c)).length:Int),H)=_;rw[List.length_map]
 obtain s1:=sQ (X:=H) ((dO c runs).map fun p=>own c p.1);obtain s2:=sQ (X:=H) ((dO c runs).map fun p=>own c p.1* p.2);obtain s3:=sQ (X:=H) ((dO c runs).map fun p=>p.2);rw[List.map_map] at s1 s2 s3;obtain q1:bS (d+1) (fR (Se 0) 0) ((dO c runs).map (tI c)) [] (.l []) H (.l ((dO c runs).map fun p=>.int (own c p.1))) H:=aB.all (tI c) _ _ (aJ (nat_lit 0x1000006f01164e01101) ae hl) fun p hp vs hv=>aF [] (.no 2 (aD hv) .nil)
 obtain q2:bS (d+1) (fR (Se 2) 0) ((dO c runs).map (tI c)) [] (.l []) H (.l ((dO c runs).map fun p=>.int (own c p.1* p.2))) H:=aB.all (tI c) _ _ (aJ (nat_lit 0x1000006f01164e01101) ae hl) fun p hp vs hv=>aF [] (.val 4 (jz (own c p.1) p.2 (dB ⟨yj c p.1,(hr p (wX hp).1).2.2⟩)) (.no 5 (aD hv) .nil))
 obtain q3:bS (d+1) (fR (Se 3) 0) ((dO c runs).map (tI c)) [] (.l []) H (.l ((dO c runs).map fun p=>.int p.2)) H:=aB.all (tI c) _ _ (aJ (nat_lit 0x1000006f01164e01101) ae hl) fun p hp vs hv=>aF [] (.no 2 (aD hv) .nil)
 exact aS (.cmp (El (d:=d) (H:=H) (c:=c) (fun p hp=>⟨(hr p hp).1,(hr p hp).2.1⟩) hz) (.cmp (Nc (d:=d) (H:=H) (c:=c) (dO c runs) hl) (.cmp q1 (.upd 4 s1 (.upd 7 ln (.cmp q2 (.upd 10 s2 (.cmp q3 (.upd 13 s3 .nil)))))))))
end
section
variable{d:Nat}{H X:AH}{run:List Nat}{sp:Int}{runs:List (List Nat×Int)}
noncomputable def bH:St:=⟨0,0,0,0,[]⟩
noncomputable def fU(run:List Nat)(j:Nat):Int:=if j+1=run.length then 1 else 0
def Ca(run:List Nat)(sp:Int)(j:Nat):St:=⟨fU run j,1,fU run j* sp,sp,[(bx ((126::run).getD j 0),1)]⟩
def uY(run:List Nat)(sp:Int)(K:List (Str×St))(p:Nat×Nat):List (Str×St):=aP K (bx p.1) (((K.lookup (bx p.1)).getD bH).add (Ca run sp p.2))
abbrev lD(X:AH)(s:List (Str×St)×AH):AH:=X++.bf (aI St.enc s.1)::s.2
theorem qE(s:List (Str×St)×AH):(lD X s)[X.length]?=some (.bf (aI St.enc s.1)):=by rw[List.getElem?_append_right (Nat.le_refl _),Nat.sub_self];rfl
theorem s6(s:List (Str×St)×AH):lD X s++[.gone]=lD X (s.1,s.2++[.gone]):=List.append_assoc ..
theorem En(s:List (Str×St)×AH)(K:List (Str×St)):(lD X s).set X.length (.bf (aI St.enc K))=lD X (K,s.2):=by rw[List.set_append_right _ _ (Nat.le_refl _),Nat.sub_self];rfl
abbrev Sf:Stmt:=bR (bd 18) 1
abbrev Jj:Stmt:=bR (c9 Sf) 0
abbrev Jk(RV:V)(k:Nat)(run:List Nat)(sp:Int):ah:=[(T "runs",RV),(T "book",.ref k),(T "run",bk run),(T "spent",.int sp)]
theorem Br(t s:List (Str×Int)):(gZ t s).length≤t.length+s.length:=by obtain h1:=jt (fun d a=>cG d a.1 a.2) t [];obtain h2:=jt (fun d a=>cG d a.1 _) s (t.foldl sA []);exact eO (nat_lit 0x238001309810121800102) ae h2 h1
theorem Eo{RV:V}(hs:small sp=true)(hr:run.length<100)(K:List (Str×St))(T':AH)(c j:Nat)(hj:j<run.length)(hK:K.length<500)(hS:∀x s,K.lookup x=some s→s.cs.length<500):
  Turn (d+3) (oh 18) (c8 Jj) (c9 Jj) (.tup [.int j,aV c]) (Jk RV X.length run sp) (lD X (K,T')) .next (Jk RV X.length run sp) (lD X (uY run sp K (c,j),T'++[.gone])):=by
 let old:=(K.lookup (bx c)).getD bH;obtain k0:=qE (X:=X) (K,T');obtain eq:bI (lD X (K,T')) .Eq (.int j) (.int (((sL run).length:Int)-1))=some (.bool (decide (j+1=run.length))):=eq_int (by rw[Bool.eq_iff_iff,beq_iff_eq,decide_eq_true_iff,fy];omega);obtain g0:lN (aI St.enc K) "get" [.str (bx c),bH.enc] (lD X (K,T'))=some (old.enc,lD X (K,T')):=by show some (((aI St.enc K).lookup (bx c)).getD bH.enc,lD X (K,T'))=_;rw[jH,Bf]
 obtain ml:=jz (fU run j) sp (dB ⟨by unfold fU;split<;>kernel_rfl,hs⟩);obtain ad:=sY (a:=[126]) (by exact aJ (nat_lit 0x1000006f01981164e01101) ae hr);obtain it:=lz (H:=lD X (K,T')) (d:=(126::run).getD j 0) (.inl rfl) (by rw[List.getD_eq_getElem?_getD,List.getElem?_eq_getElem (by exact aA (nat_lit 441454204817665) ae hj)];rfl) (by exact aJ (nat_lit 0x1000000000000000100f19081164e01101) ae hr);obtain hold:old.cs.length<500:=by
  show((K.lookup (bx c)).getD bH).cs.length<500;induction e:K.lookup (bx c) with |none=>exact Nat.zero_lt_succ _|some s=>exact hS _ s e
 obtain st:=ju (d:=d) (lD X (K,T')) old (Ca run sp j) (by show old.cs.length+1+1<_;omega);obtain k4:(lD X (K,T')++[.gone])[X.length]?=some (.bf (aI St.enc K)):=by rw[s6];exact qE _
 obtain s2:vt X.length (bx c) (old.add (Ca run sp j)).enc (.bf (aI St.enc K)) (lD X (K,T')++[.gone])=some ((),lD X (uY run sp K (c,j),T'++[.gone])):=MH (by rw[d7];exact aJ (nat_lit 0x1000006f1908111f43f01101) ae hK) (by rw[s6,pK];exact En _ _);unfold Ca fU at st s2;unfold fU at ml;induction hb:decide (j+1=run.length) with |true=>rw[hb] at eq;rw[if_pos (of_decide_eq_true hb)] at st s2 ml;exact az [T "runs",T "book",T "run",T "spent"] (.val 6 eq (.obj k0 (.obj k0 (.upd 11 g0 (.val 15 ml (.val 18 ad (.val 20 it (.call st (.obj k4 (.xV 23 s2 .nil))))))))))|false=>rw[hb] at eq;rw[if_neg (of_decide_eq_false hb)] at st s2 ml;exact az [T "runs",T "book",T "run",T "spent"] (.val 6 eq (.obj k0 (.obj k0 (.upd 11 g0 (.val 15 ml (.val 18 ad (.val 20 it (.call st (.obj k4 (.xV 23 s2 .nil))))))))))
def Bd(m:Nat)(K:List (Str×St)):Prop:=∀x s,K.lookup x=some s→s.cs.length<m
theorem Bd.mono{m n:Nat}{K:List (Str×St)}(h:Bd m K)(k:m≤n):Bd n K:=fun x s e=>Nat.lt_of_lt_of_le (h x s e) k
theorem Bd.step{m:Nat}{K:List (Str×St)}(h:Bd m K)(hm:0<m)(p:Nat×Nat):Bd (m+1) (uY run sp K p):=fun x s e=>by
 unfold uY at e;rw[cS] at e;by_cases hx:(x==bx p.1)=true
 ·rw[if_pos hx] at e
  obtain rfl:=Option.some.inj e;have ho:((K.lookup (bx p.1)).getD bH).cs.length<m:=by
   induction e2:K.lookup (bx p.1) with |none=>exact hm|some s=>exact h _ s e2
  have :=Br ((K.lookup (bx p.1)).getD bH).cs (Ca run sp p.2).cs;show(gZ _ _).length<m+1;have h1:(Ca run sp p.2).cs.length=1:=rfl
  exact eO (nat_lit 0x193811132111902102810103) ae this h1 ho
 ·rw[if_neg hx] at e;exact Nat.lt_succ_of_lt (h x s e)
abbrev Ep(r:List Nat×Int)(s:List (Str×St)×AH)(p:Nat×Nat):List (Str×St)×AH:=(uY r.1 r.2 s.1 p,s.2++[.gone])
theorem Er{RV:V}(hs:small sp=true)(hr:run.length<100){A:Nat}(hA:A<400)(s:List (Str×St)×AH)(h1:s.1.length+run.length≤A)(h2:Bd (A+1-run.length) s.1):
  bX (d+3) (oh 18) (c8 Jj) (c9 Jj) (aR 0 (run.map aV)) (Jk RV X.length run sp) (lD X s) .next (Jk RV X.length run sp) (lD X ((run.zipIdx 0).foldl (Ep (run,sp)) s))∧
  ((run.zipIdx 0).foldl (Ep (run,sp)) s).1.length≤A∧Bd (A+1) ((run.zipIdx 0).foldl (Ep (run,sp)) s).1:=by
 obtain key:∀(ps:List (Nat×Nat)) (s:List (Str×St)×AH),(∀p∈ps,p.2<run.length)→s.1.length+ps.length≤A→Bd (A+1-ps.length) s.1→
   bX (d+3) (oh 18) (c8 Jj) (c9 Jj) (ps.map fun p=>.tup [.int p.2,aV p.1]) (Jk RV X.length run sp) (lD X s) .next (Jk RV X.length run sp) (lD X (ps.foldl (Ep (run,sp)) s))∧(ps.foldl (Ep (run,sp)) s).1.length≤A∧Bd (A+1) (ps.foldl (Ep (run,sp)) s).1:=by
  intro ps;induction ps with |nil=>intro s _ h1 h2;exact⟨.nil,h1,h2⟩|cons p ps ih=>intro s hp h1 h2;obtain st:=Eo hs hr s.1 s.2 p.1 p.2 (hp p (.head _)) (Ln.go (nat_lit 0x1f43f0111903f21121918080102) [_,_,_,0,0] ae h1 hA) (fun x t e=>Nat.lt_of_lt_of_le (h2 x t e) (Ln.go (nat_lit 0x1f43f1011903f011190810102) [_,_,0] ae (Nat.sub_le (A+1) (ps.length+1)) hA));obtain hl:=cG s.1 (bx p.1) (((s.1.lookup (bx p.1)).getD bH).add (Ca run sp p.2));obtain q:=ih (Ep (run,sp) s p) (fun q hq=>hp q (.tail _ hq)) (Ln.go (nat_lit 0x320801319281801191800102) [_,_,_,_,0,0] ae hl h1) ((h2.step (Ln.go (nat_lit 0x5091119185819280121918080102) [_,_,_,0,0,_] ae h1 (Ln.aY (A+1) (ps.length+1))) p).mono (eO (nat_lit 0x119080131819280119281938082102) ae (Nat.sub_add_cancel (Ln.go (nat_lit 0x192819180121918080101) [_,_,_,0,0] ae h1:ps.length+1≤A+1)) (Ln.aY (A+1) (ps.length))));exact⟨st.next (.inl rfl) q.1,q.2⟩
 refine(dM aV 0 run)▸?_;exact key (run.zipIdx 0) s (fun p hp=>by obtain this:=(List.mem_zipIdx hp).2.1;exact aA (nat_lit 282647662170369) ae this) (by rw[List.length_zipIdx];exact h1) (by rw[List.length_zipIdx];exact h2)
abbrev Oq(s:List (Str×St)×AH)(r:List Nat×Int):List (Str×St)×AH:=(r.1.zipIdx 0).foldl (Ep r) s
theorem Es{RV:V}{L A:Nat}(hL:L<100)(hA:A<400)(runs:List (List Nat×Int))(s:List (Str×St)×AH)(hr:∀r∈runs,r.1.length≤L∧small r.2=true)(h1:s.1.length+L* runs.length≤A)(h2:Bd (A+1-L* runs.length) s.1):
  bX (d+3) (oh 18) (c8 Sf) (c9 Sf) (runs.map B_) [(T "runs",RV),(T "book",.ref X.length)] (lD X s) .next [(T "runs",RV),(T "book",.ref X.length)] (lD X (runs.foldl Oq s)):=by
 induction runs generalizing s with |nil=>exact .nil|cons r rs ih=>obtain Ot:=hr r (.head _);obtain z1:=Er (d:=d) (X:=X) (RV:=RV) Ot.2 (aA (nat_lit 0x64e01164e111100102) ae Ot.1 hL) (A:=A-L* rs.length) (Ln.go (nat_lit 0x1903f1111903f011010102) [_,_,0] ae (Nat.sub_le (A) (L* rs.length)) hA) s (Ln.go (nat_lit 0x50280135840141382801100103) [_,_,_,_,_,_] ae Ot.1 h1 (Ln.aY (A) (L* rs.length))) (h2.mono (Ln.go (nat_lit 0x320110010381968015684011948158282104) [_,_,_,_,_,_,_] ae (Nat.sub_add_cancel (eO (nat_lit 0x1938218013218080101) ae h1:L* rs.length+L≤A+1)) (Ln.aY (A) (L* rs.length)) (Ln.aY (A-L* rs.length+1) (r.fst.length)) Ot.1));obtain lp:=z1.1;obtain e1:=z1.2.1;obtain e2:=z1.2.2;obtain tn:=az [T "runs",T "book"] (.loop lp .nil);exact tn.next (.inl rfl) (ih (Oq s r) (fun x hx=>hr x (.tail _ hx)) (eO (nat_lit 0x320801100132182102) ae (Nat.sub_add_cancel (eO (nat_lit 0x31013218080101) ae h1:L* rs.length≤A)) e1) (e2.mono (eO (nat_lit 0x119080131819280123082102) ae (Nat.sub_add_cancel (eO (nat_lit 0x31013218080101) ae h1:L* rs.length≤A)) (Ln.aY (A+1) (L* rs.length)))))
theorem uZ(m:Nat)(H:AH)(B:List (Str×St)):eR (freeze (m+3)) (aI St.enc B) H=some (aI St.enc B,H):=by
 induction B with
 |nil=>rfl|cons p r ih=>
  obtain e1:freeze (m+3) p.2.enc H=some (p.2.enc,H):=by rfl
  unfold eR;exact cZ e1 (cZ ih rfl)
def bU(runs:List (List Nat×Int)):List (Str×St):=runs.foldl (fun K r=>(r.1.zipIdx 0).foldl (uY r.1 r.2) K) []
theorem Et(runs:List (List Nat×Int))(s:List (Str×St)×AH):(runs.foldl Oq s).1=runs.foldl (fun K r=>(r.1.zipIdx 0).foldl (uY r.1 r.2) K) s.1:=by
 obtain k:∀(r:List Nat×Int) (ps:List (Nat×Nat)) (s:List (Str×St)×AH),(ps.foldl (Ep r) s).1=ps.foldl (uY r.1 r.2) s.1:=fun r ps=>by
  induction ps with |nil=>intro s;rfl|cons p ps ih=>intro s;exact ih _
 induction runs generalizing s with |nil=>rfl|cons r rs ih=>simp only[List.foldl_cons,List.foldl_cons,ih,k]
theorem wL(hr:∀r∈runs,r.1.length≤10∧small r.2=true)(hz:runs.length≤10):∃Y,aC (d+4) (.fn 207) [qD runs] X (.bf (aI St.enc (bU runs))) (X++Y):=by
 obtain lp:=Es (d:=d) (X:=X) (RV:=qD runs) (A:=100) (by simp_all) (by simp_all) runs ([],[]) hr (aJ (nat_lit 0x64e0aa09801a900a01) ae hz) (fun x s e=>nE e);let s:=runs.foldl Oq ([],[])
 obtain hs:=Et runs ([],[]);obtain hk:=qE s;obtain fz:freeze bB (.ref X.length) (lD X s)=some (.bf (aI St.enc s.1),(lD X s).set X.length .gone):=dW hk rfl (cZ rfl (cZ (uZ 6 _ s.1) rfl));refine⟨aE.gone::s.2,?_⟩;obtain q:=Aq (aS (.loop lp .nil)) fz;obtain q:=hs▸q;refine q.hp ?_;rw[List.set_append_right _ _ (Nat.le_refl _),Nat.sub_self];rfl
end
section
variable{d:Nat}{H X:AH}{cs:List Int}{way:Int}{cnt k:Nat}{mk od lt:List Nat}{nm:List (List Nat)}
noncomputable def Cb(way:Int)(mk od:List Nat):List (Nat×Int):=od.map fun p=>(p+1,way-((mk.getD p 0 %2:Nat):Int)* 2* way)
abbrev Ug(cs:List Int)(way:Int)(cnt:Nat)(mk od:List Nat)(k:Nat)(nm:List (List Nat))(lt:List Nat)(tv:V):ah:=mE cs way cnt mk od k nm++[(T "letters",ltV lt),(T "tells",tv)]
abbrev Uh:Expr:=fR (dQ (lS 14)) 3
theorem Eu(hm:mk.length<100)(hw:way=1∨way=-1)(p:Nat)(hp:p<mk.length)(vs:List V)(hv:vs.length+1<ak):uH (d+8) Uh (.int p) [(T "marks",nu mk),(T "way",.int way)] (.l vs) H (.l (vs++[.tup [.int ((p+1:Nat):Int),.int (way-((mk.getD p 0 %2:Nat):Int)* 2* way)]])) H:=by
 obtain it:=qB (X:=H) mk p hp hm;obtain md:binop .Mod (.int ((mk.getD p 0:Nat):Int)) (.int 2)=some (.int ((mk.getD p 0 %2:Nat):Int)):=by show some (V.int (((mk.getD p 0:Nat):Int).fmod 2))=_;rw[Int.fmod_eq_emod_of_nonneg _ (by decide)];rfl
 obtain h2:mk.getD p 0 %2<2:=Nat.mod_lt _ (by decide);obtain m1:=jz ((mk.getD p 0 %2:Nat):Int) 2 (dB ⟨decide_eq_true (by omega),by kernel_rfl⟩);obtain m2:=jz (((mk.getD p 0 %2:Nat):Int)* 2) way (dB ⟨decide_eq_true (by omega),decide_eq_true (by omega)⟩);exact aF [T "marks",T "way"] (.val 5 it (.val 6 md (.val 7 m1 (.val 9 m2 (.no 11 (aD hv) .nil)))))
theorem Nd(h3:3≤cnt)(h6:cnt≤6)(hm:mk.length=cnt)(hn:nm.length=cnt)(ho:od.Perm (List.range cnt))(hl:lt.length<100)(hw:way=1∨way=-1):
  LX d 14 (R8 cs way cnt mk od k nm lt) X .next (Ug cs way cnt mk od k nm lt (R_ mk nm (Cb way mk od) lt)) (X++[yP (Cb way mk od)]):=by
 obtain I6:∀p∈od,p<cnt:=fun p hp=>List.mem_range.mp (ho.mem_iff.mp hp)
 obtain GP:=ho.length_eq.trans List.length_range;obtain lp:bS (d+8) Uh (od.map fun(m:Nat)=>V.int m) [(T "marks",nu mk),(T "way",.int way)] (.l []) X (.l ((Cb way mk od).map fun p=>.tup [.int p.1,.int p.2])) X:=by unfold Cb;rw[List.map_map];exact aB.all _ _ od (aA (nat_lit 0x1000006f01169101102102) ae GP h6) fun p hp vs hv=>Eu (aA (nat_lit 0x64e01169101102102) ae hm h6) hw p (by obtain this:=I6 p hp;exact aQ (nat_lit 9025969084961026) ae this hm) vs hv
 obtain q:=Bq (d:=d+4) (X:=X) (ks:=Cb way mk od) (aA (nat_lit 0x64e01169101102102) ae hm h6) (aQ (nat_lit 9047959384630546) ae hn hm) (aA (nat_lit 0x91110311390102) ae h3 hm) hl (fun p hp=>by obtain⟨i,hi,rfl⟩:=tJ hp;obtain this:=I6 i hi;exact⟨Nat.succ_pos i,by exact aQ (nat_lit 0x21908011231101102) ae this hn⟩);exact bK (.cmp lp (.call q .nil))
end
section
variable{mk od:List Nat}{nm:List (List Nat)}{way:Int}
noncomputable def wv(nm:List (List Nat))(c:Nat):List Nat→Nat|[]=>0|p::r=>(if(nm.getD p []).contains c then 2^r.length else 0)+wv nm c r
theorem F4(c:Nat)(L:List Nat):wv nm c L<2^L.length:=by
 induction L with |nil=>exact Nat.one_pos|cons p r ih=>refine(?_:(if(nm.getD p []).contains c then 2^r.length else 0)+wv nm c r<2^(r.length+1));split<;>(first|exact aA (nat_lit 5260166992761089) ae ih|exact aA (nat_lit 84161671157780737) ae ih)
noncomputable def sg(a b:Nat):Int:=if b<a then 1 else if a<b then -1 else 0
theorem Bs(c p:Nat)(hp:p<nm.length):uW mk nm c (p+1)=3* (if(nm.getD p []).contains c==decide (mk.getD p 0 %2=0) then 1 else 0):=by show((nm.zipIdx 0).map (Ec mk c)).getD p 0=_;simp only[List.getD_eq_getElem?_getD,List.getElem?_map,List.getElem?_zipIdx,List.getElem?_eq_getElem hp,List.getD_eq_getElem?_getD,List.getElem?_eq_getElem hp];rw[Nat.zero_add];rfl
theorem Ip(a b:Nat)(L:List Nat)(hL:∀p∈L,p<nm.length):cmpK (uW mk nm a) (uW mk nm b) (Cb way mk L)=way* sg (wv nm a L) (wv nm b L):=by
 induction L with
 |nil=>exact(Int.mul_zero way).symm|cons p r ih=>
  obtain ih:=ih fun q hq=>hL q (.tail _ hq)
  obtain ea:=Bs (mk:=mk) a p (hL p (.head _));obtain eb:=Bs (mk:=mk) b p (hL p (.head _));show(if uW mk nm a (p+1)<uW mk nm b (p+1) then -(way-((mk.getD p 0 %2:Nat):Int)* 2* way) else if uW mk nm b (p+1)<uW mk nm a (p+1) then way-((mk.getD p 0 %2:Nat):Int)* 2* way else cmpK (uW mk nm a) (uW mk nm b) (Cb way mk r))=way* sg ((if(nm.getD p []).contains a then 2^r.length else 0)+wv nm a r) ((if(nm.getD p []).contains b then 2^r.length else 0)+wv nm b r);rw[ea,eb,ih];obtain la:=F4 (nm:=nm) a r;obtain lb:=F4 (nm:=nm) b r;obtain hm:mk.getD p 0 %2=0∨mk.getD p 0 %2=1:=by omega
  induction h1:(nm.getD p []).contains a<;>induction h2:(nm.getD p []).contains b<;>rcases hm with hm|hm<;>rw[hm]<;>simp[sg]<;>(try (repeat' split))<;>(try (first|exact aQ (nat_lit 0x90961021121081102) ae ‹_› la|exact aQ (nat_lit 0x90961101121805102) ae ‹_› la|exact yJ (nat_lit 28353808) ae|exact aQ (nat_lit 0x90961021121081102) ae ‹_› lb|exact aQ (nat_lit 0x90961021110825102) ae ‹_› lb|exact yJ (nat_lit 29698101716240) ae|omega))<;>(try simp_all)
end
section
variable{d:Nat}{H X:AH}{cs:List Int}{way:Int}{cnt k:Nat}{mk od lt:List Nat}{nm:List (List Nat)}{tv:V}
theorem Iq(c:Nat)(L:List Nat)(i:Nat)(h:i+L.length=cnt):(((L.zipIdx i).filter fun p=>(nm.getD p.1 []).contains c).map fun p=>((2^(cnt-1-p.2):Nat):Int)).sum=(wv nm c L:Nat):=by
 induction L generalizing i with
 |nil=>rfl|cons p r ih=>
  obtain ih:=ih (i+1) (aQ (nat_lit 0x21190882521918082511) ae h);simp only[List.zipIdx_cons,List.filter_cons];show _=(((if(nm.getD p []).contains c then 2^r.length else 0)+wv nm c r:Nat):Int);induction hb:(nm.getD p []).contains c with |true=>rw[if_pos rfl,if_pos rfl,List.map_cons,List.sum_cons,ih,show cnt-1-i=r.length by exact vj (nat_lit 0x13250384041948204219180835219482140382115) ae (Nat.sub_add_cancel (eO (nat_lit 0x3001193820121918082102) ae h (Ln.aY (cnt) (1)):i≤cnt-1)) (Nat.sub_add_cancel (aQ (nat_lit 0x2190121918082101) ae h:1≤cnt)) h (Ln.aY (cnt) (1)) (Ln.aY (cnt-1) (i)),Int.natCast_add]|false=>rw[if_neg Bool.false_ne_true,if_neg Bool.false_ne_true,ih,Nat.zero_add]
abbrev Ui:Expr:=dQ (lS 15)
abbrev Uj:Expr:=fR (Jg Ui) 0
theorem Ew(p:Nat)(hp:p<nm.length)(hz:nm.length<100):item X (kM nm) (.int p)=some (bk (nm.getD p [])):=by refine gj ?_ (by rw[List.length_map];exact aJ (nat_lit 0x1000000000000000100f01164e01101) ae hz);simp only[List.getElem?_map,List.getElem?_eq_getElem hp,List.getD_eq_getElem?_getD,List.getElem?_eq_getElem hp];rfl
theorem Sg(i:Nat)(hi:i<6):binop .Pow (.int 2) (.int i)=some (.int ((2^i:Nat):Int)):=by
 obtain h|h|h|h|h|h:i=0∨i=1∨i=2∨i=3∨i=4∨i=5:=by lia
 all_goals rw[h];kernel_rfl
theorem Ex(h6:cnt≤6)(hn:nm.length=cnt)(c:Nat)(p:Nat×Nat)(hp:p.1<cnt)(hq:p.2<cnt)(vs:List V)(hv:vs.length+1<ak):
  uH (d+8) Uj (.tup [.int p.2,.int p.1]) [(T "count",.int cnt),(T "letter",aV c),(T "names",kM nm)] (.l vs) H (.l (bif (nm.getD p.1 []).contains c then vs++[.int ((2^(cnt-1-p.2):Nat):Int)] else vs)) H:=by
 obtain it:=Ew (X:=H) p.1 (aQ (nat_lit 9025969084961026) ae hp hn) (aA (nat_lit 0x64e01169101102102) ae hn h6);obtain i1:=in_str (H:=H) (b:=(nm.getD p.1 []).contains c) (congrArg _ (List.toList_toArray ..));obtain sb:binop .Sub (.int ((cnt:Int)-1)) (.int p.2)=some (.int ((cnt-1-p.2:Nat):Int)):=by show some (V.int ((cnt:Int)-1-(p.2:Int)))=_;rw[show(cnt:Int)-1-(p.2:Int)=((cnt-1-p.2:Nat):Int) by exact SR (nat_lit 0x27171907cca50193834312834128301193800114) ae (Ln.aY (cnt) (1)) (Ln.aY (cnt-1) (p.snd)) (Nat.sub_add_cancel (aQ (nat_lit 0x20011928101101102) ae hq (Ln.aY (cnt) (1)):p.snd≤cnt-1)) (Nat.sub_add_cancel (aA (nat_lit 1206903640321) ae hq:1≤cnt))]
 obtain pw:=Sg (cnt-1-p.2) (Ln.go (nat_lit 0x69111690010192821210103) [_,_,_,0] ae (Nat.sub_le (cnt-1) (p.snd)) (Nat.sub_add_cancel (aA (nat_lit 1206903640321) ae hq:1≤cnt)) h6);induction hb:(nm.getD p.1 []).contains c with |false=>rw[hb] at i1;exact aF [T "count",T "letter",T "names"] (.val 3 it (.val 4 i1 .nil))|true=>rw[hb] at i1;exact aF [T "count",T "letter",T "names"] (.val 3 it (.val 4 i1 (.val 9 sb (.val 10 pw (.no 11 (aD hv) .nil)))))
abbrev Ey(cs:List Int)(way:Int)(cnt:Nat)(mk od:List Nat)(k:Nat)(nm:List (List Nat))(lt:List Nat)(tv wo:V):ah:=mE cs way cnt mk od k nm++[(T "letters",ltV lt),(T "tells",tv),(T "worths",wo)]
abbrev Ou(nm:List (List Nat))(od lt:List Nat):V:=.lst (lt.map fun c=>.int ((wv nm c od:Nat):Int))
theorem Nf(h6:cnt≤6)(hn:nm.length=cnt)(ho:od.Perm (List.range cnt))(hl:lt.length<100):
  LX d 15 (Ug cs way cnt mk od k nm lt tv) X .next (Ey cs way cnt mk od k nm lt tv (Ou nm od lt)) X:=by
 obtain I6:=fun p hp=>List.mem_range.mp (ho.mem_iff.mp hp)
 obtain GP:=ho.length_eq.trans List.length_range
 obtain lp:bS (d+8) Ui (lt.map aV) [(T "count",.int cnt),(T "names",kM nm),(T "order",nu od)] (.l []) X (.l (lt.map fun c=>.int ((wv nm c od:Nat):Int))) X:=
  aB.all aV _ lt (aJ (nat_lit 0x1000006f01164e01101) ae hl) fun c a vs hv=>by
   obtain q:bS (d+8) Uj (aR 0 (od.map fun(m:Nat)=>V.int m)) [(T "count",.int cnt),(T "letter",aV c),(T "names",kM nm)] (.l []) X (.l ((((od.zipIdx 0).filter fun p=>(nm.getD p.1 []).contains c).map fun p=>((2^(cnt-1-p.2):Nat):Int)).map .int)) X:=by simp only[show aR 0 (od.map fun(m:Nat)=>V.int m)=_ from dM (fun(m:Nat)=>V.int m) 0 od,List.map_map];exact aB.pick (fun(p:Nat×Nat)=>.tup [.int p.2,.int p.1]) _ _ (od.zipIdx 0) [] (by simp only[List.length_zipIdx,List.length_nil];exact aA (nat_lit 0x1000006f00981169101102102) ae GP h6) fun p hp vs hv=>by obtain hz:=List.mem_zipIdx hp;exact Ex h6 hn c p (I6 _ (by rw[hz.2.2];exact List.getElem_mem _)) (by have :=hz.2.1;exact aQ (nat_lit 0x20112121109801102) ae this GP) vs hv
   obtain sm:=sQ (X:=X) (((od.zipIdx 0).filter fun p=>(nm.getD p.1 []).contains c).map fun p=>((2^(cnt-1-p.2):Nat):Int));rw[Iq c od 0 (by exact aA (nat_lit 282128433554705) ae GP)] at sm;exact aF [T "count",T "names",T "order"] (.cmp q (.upd 3 sm (.no 4 (aD hv) .nil)))
 exact bK (.cmp lp .nil)
end
section
variable{d:Nat}{H X:AH}{cs:List Int}{way:Int}{cnt k:Nat}{mk od lt:List Nat}{nm:List (List Nat)}{tv:V}
abbrev Bt(way:Int)(nm:List (List Nat))(od lt:List Nat)(a:Nat):List Int:=lt.map fun b=>way* sg (wv nm a od) (wv nm b od)
abbrev nC(way:Int)(nm:List (List Nat))(od lt:List Nat):V:=.lst (lt.map fun a=>.lst ((Bt way nm od lt a).map .int))
theorem Ir(hL:∀p∈od,p<nm.length):R_ mk nm (Cb way mk od) lt=nC way nm od lt:=by refine congrArg V.lst (List.map_congr_left fun a c=>congrArg V.lst ?_);simp only[List.map_map];exact List.map_congr_left fun b c=>congrArg V.int (Ip a b od hL)
abbrev Sh:Expr:=D8 (Jf (M1 (lS 16)) 0)
theorem Ez(hw:way=1∨way=-1)(A B:Nat)(vs:List V)(hv:vs.length+1<ak):
  uH (d+8) (Jg Sh) (.int B) [(T "one",.int A),(T "way",.int way)] (.l vs) H (.l (vs++[.int (way* sg A B)])) H:=by
 obtain g:bI H .Gt (.int A) (.int B)=some (.bool (decide (B<A))):=congrArg (fun b=>some (V.bool b)) (by rw[Bool.eq_iff_iff,decide_eq_true_iff,decide_eq_true_iff];omega);obtain l:bI H .Lt (.int A) (.int B)=some (.bool (decide (A<B))):=congrArg (fun b=>some (V.bool b)) (by rw[Bool.eq_iff_iff,decide_eq_true_iff,decide_eq_true_iff];omega);have sw:small way=true:=decide_eq_true (by omega)
 obtain m1:=jz way 1 (dB ⟨sw,by kernel_rfl⟩);obtain m2:=jz way (-1) (dB ⟨sw,by kernel_rfl⟩);obtain m0:=jz way 0 (dB ⟨sw,by kernel_rfl⟩);by_cases h1:B<A
 ·have h2:¬A<B:=by exact aA (nat_lit 0x909610111101102) ae h1
  rw[decide_eq_true h1] at g;rw[decide_eq_false h2] at l;rw[show sg A B=1 from if_pos h1];exact aF [T "one",T "way"] (.val 4 g (.val 9 l (.val 12 m1 (.no 13 (aD hv) .nil))))
 ·by_cases h2:A<B
  ·rw[decide_eq_false h1] at g;rw[decide_eq_true h2] at l;rw[show sg A B=-1 from(if_neg h1).trans (if_pos h2)];exact aF [T "one",T "way"] (.val 4 g (.val 9 l (.val 12 m2 (.no 13 (aD hv) .nil))))
  ·rw[decide_eq_false h1] at g;rw[decide_eq_false h2] at l;rw[show sg A B=0 from(if_neg h1).trans (if_neg h2)];exact aF [T "one",T "way"] (.val 4 g (.val 9 l (.val 12 m0 (.no 13 (aD hv) .nil))))
theorem yk(l:List Int):jC 9 H (.lst (l.map .int)) (.lst (l.map .int))=some true:=by
 show alt (bif (l.map V.int).length==(l.map V.int).length then lH (jC 8 H) (l.map V.int) (l.map V.int) else some false) none=_;rw[beq_self_eq_true,j7 _ _ fun v hv=>?_]
 ·rfl
 ·obtain⟨i,_,rfl⟩:=tJ hv;refine(?_:some (i==i)=_);rw[beq_self_eq_true]
abbrev Ng:Expr:=MP (Jf (M1 (lS 16)) 1)
theorem Nh(hw:way=1∨way=-1)(hl:lt.length<100):
  LX d 16 (Ey cs way cnt mk od k nm lt (nC way nm od lt) (Ou nm od lt)) X .next (Ey cs way cnt mk od k nm lt (nC way nm od lt) (Ou nm od lt)) X:=by
 obtain l1:bS (d+8) Sh (lt.map fun c=>V.int ((wv nm c od:Nat):Int)) [(T "way",.int way),(T "worths",Ou nm od lt)] (.l []) X (.l (lt.map fun a=>.lst ((Bt way nm od lt a).map .int))) X:=
  aB.all _ _ lt (aJ (nat_lit 0x1000006f01164e01101) ae hl) fun a e vs hv=>by
   obtain q:bS (d+8) (Jg Sh) (lt.map fun c=>V.int ((wv nm c od:Nat):Int)) [(T "one",.int (wv nm a od:Nat)),(T "way",.int way)] (.l []) X (.l ((Bt way nm od lt a).map .int)) X:=by simp only[List.map_map];exact aB.all _ _ lt (aJ (nat_lit 0x1000006f01164e01101) ae hl) fun b e vs hv=>Ez hw _ _ vs hv
   exact aF [T "way",T "worths"] (.cmp q (.no 1 (aD hv) .nil))
 obtain n1:bI X .NotEq (nC way nm od lt) (nC way nm od lt)=some (.bool false):=dN (jy X _ fun v hv=>by obtain⟨a,_,rfl⟩:=tJ hv;exact yk _)
 obtain l2:bS (d+8) Ng (lt.map fun a=>V.lst ((Bt way nm od lt a).map .int)) [] (.l []) X (.l []) X:=
  aB.skip _ _ fun a e=>by
   obtain q:aB (d+8) (B8 Ng) ((x8 Ng).tail.headD default) (dI (d+8) (B8 Ng) (Jc Ng) []) ((Bt way nm od lt a).map .int) [(T "row",.lst ((Bt way nm od lt a).map .int))] (.l []) X [(T "row",.lst ((Bt way nm od lt a).map .int))] (.l []) X:=aB.skip _ _ fun i e=>aF [T "row"] .nil
   exact aF [] (.cmp q .nil)
 exact bK (.cmp l1 (.val 2 n1 (.cmp l2 .nil)))
end
section
variable{d:Nat}{H X:AH}{cs:List Int}{way:Int}{cnt k:Nat}{mk od lt:List Nat}{nm:List (List Nat)}{tv wo:V}
theorem u3(x:Int)(ys:List Int):eqRow (.int x) (ys.map .int)=some (ys.map (·==x)):=by
 induction ys with |nil=>rfl|cons y r ih=>exact congrArg (fun o=>match some (y==x),o with |some p,some q=>some (p::q)|_,_=>none) ih
theorem qF(x:Int)(ys:List Int):i9 (.int x) (ys.map .int)=some ((ys.filter (·==x)).length):=by unfold i9;rw[u3,←List.countP_eq_length_filter];exact congrArg some List.countP_map
def kn(way:Int)(nm:List (List Nat))(od lt:List Nat)(a:Nat):Nat:=((Bt way nm od lt a).filter (·==1)).length
abbrev Ov:Expr:=dQ (lS 17)
abbrev Si(way:Int)(nm:List (List Nat))(od lt:List Nat):V:=.lG [T "letter"] (AO (D9 Ov)) (AP (D9 Ov)) [(T "letters",ltV lt),(T "tells",nC way nm od lt)]
theorem yl(hz:lt.length<100)(c:Nat)(hc:c∈lt):aC (d+2) (Si way nm od lt) [aV c] X (.int ((kn way nm od lt c:Nat):Int)) X:=by obtain ix:=wF (X:=X) (wJ hc);obtain hi:=List.idxOf_lt_length_iff.mpr hc;obtain it:item X (nC way nm od lt) (.int (lt.idxOf c:Nat))=some (.lst ((Bt way nm od lt c).map .int)):=gj (by simp only[List.getElem?_map,List.getElem?_eq_getElem hi,List.getElem_idxOf];rfl) (by rw[List.length_map];exact aJ (nat_lit 0x1000000000000000100f01164e01101) ae hz);obtain cn:=DZ (X:=X) (qF 1 (Bt way nm od lt c));obtain q:=e_ (.upd 3 ix (.val 4 it (.upd 5 cn .nil)));exact wg (by kernel_rfl) (by kernel_rfl) q
theorem Bu(hz:lt.length<100)(xs:List Nat)(h:∀c∈xs,c∈lt):iD (d+2) (Si way nm od lt) (xs.map aV) X (xs.map fun c=>.int ((kn way nm od lt c:Nat):Int)) X:=by
 induction xs with |nil=>exact .nil|cons x xs ih=>exact .cons (yl hz x (h x (.head _))) (ih fun c hc=>h c (.tail _ hc))
abbrev Ow(cs:List Int)(way:Int)(mk:List Nat)(k:Nat)(nm:List (List Nat))(lt:List Nat)(tv:V)(line:List Nat):ah:=[(T "cells",.lst (cs.map .int)),(T "way",.int way),(T "marks",nu mk),(T "lexer",.ref k),(T "names",kM nm),(T "letters",ltV lt),(T "tells",tv),(T "line",ltV line)]
theorem Ni(hl:lt.length<60):∃line:List Nat,line.Perm lt∧line.Pairwise (fun a b=>kn way nm od lt a≤kn way nm od lt b)∧
  LX d 17 (Ey cs way cnt mk od k nm lt (nC way nm od lt) wo) X .next (Ow cs way mk k nm lt (nC way nm od lt) line) X:=by
 refine(nv lt aV (kn way nm od lt) (aJ (nat_lit 0x40e0113ce01101) ae hl)).elim fun line z=>z.elim fun h1 z=>z.elim fun h2 h3=>?_
 refine⟨line,h2,(h3 (fun c c=>True) (List.pairwise_of_forall fun c c=>trivial)).imp fun h=>h.elim Nat.le_of_lt fun h=>Nat.le_of_eq h.1,?_⟩;obtain arg:bN (d+7) iL (Ey cs way cnt mk od k nm lt (nC way nm od lt) wo) (fR Ov 0) X (ltV lt) X:=e_ .nil;obtain Sj:bN (d+7) iL (Ey cs way cnt mk od k nm lt (nC way nm od lt) wo) (.Name (T "sorted") ⟨175,11,175,17⟩) X (.blt "sorted") X:=e_ .nil;obtain kf:bN (d+7) iL (Ey cs way cnt mk od k nm lt (nC way nm od lt) wo) (D9 Ov) X (Si way nm od lt) X:=e_ .nil;obtain so:=qp (kp:=⟨175,27,175,83⟩) (p:=⟨175,11,175,84⟩) (by kernel_rfl) Sj arg kf rfl rfl (Bu (aJ (nat_lit 0x64e0113ce01101) ae hl) lt fun c h=>h) h1;obtain q:LX d 17 (Ey cs way cnt mk od k nm lt (nC way nm od lt) wo) X .next (Ey cs way cnt mk od k nm lt (nC way nm od lt) wo++[(T "line",ltV line)]) X:=bK (.ev so .nil);exact q.keep (ks:=[T "cells",T "way",T "marks",T "lexer",T "names",T "letters",T "tells",T "line"]) (by kernel_rfl)
end
section
variable{od lt:List Nat}{nm:List (List Nat)}{way:Int}
theorem Iu{l:List Nat}{p q:Nat→Bool}(h:∀x∈l,p x=true→q x=true):(l.filter p).length≤(l.filter q).length:=by
 induction l with
 |nil=>exact Nat.le_refl _|cons a r ih=>
  obtain ih:=ih fun x hx=>h x (.tail _ hx)
  obtain ha:=h a (.head _);simp only[List.filter_cons,List.filter_cons];induction hp:p a with
  |false=>induction q a<;>skip<;>(first|exact aA (nat_lit 68737302785) ae ih|exact aA (nat_lit 441453936378113) ae ih)
  |true=>rw[ha hp];simp;exact ih
theorem Bv{l:List Nat}{p q:Nat→Bool}(h:∀x∈l,p x=true→q x=true){y:Nat}(hy:y∈l)(h1:p y=false)(h2:q y=true):(l.filter p).length<(l.filter q).length:=by
 induction l with
 |nil=>exact nomatch hy|cons a r ih=>
  obtain h':=fun x hx=>h x (.tail _ hx)
  obtain ha:=h a (.head _);simp only[List.filter_cons,List.filter_cons];rcases bz hy with rfl|hy
  ·obtain this:=Iu h';rw[h1,h2];exact aA (nat_lit 441454204813569) ae this
  ·obtain ih:=ih h' hy;induction hp:p a with
   |false=>induction q a<;>skip<;>(first|exact aA (nat_lit 69005742337) ae ih|exact aA (nat_lit 441454204817665) ae ih)
   |true=>rw[ha hp];simp;exact ih
theorem wM(a:Nat):kn way nm od lt a=(lt.filter fun x=>way* sg (wv nm a od) (wv nm x od)==1).length:=by unfold kn Bt;simp only[List.filter_map,List.length_map];rfl
theorem Nj{a b:Nat}(ha:a∈lt)(hb:b∈lt)(h:kn 1 nm od lt a≤kn 1 nm od lt b):wv nm a od≤wv nm b od:=by
 refine Nat.le_of_not_lt fun hl=>Nat.lt_irrefl _ (Nat.lt_of_lt_of_le ?_ h)
 simp only[wM,wM];refine Bv (fun x c hx=>?_) hb ?_ ?_
 ·obtain h1:wv nm x od<wv nm b od:=by
   by_cases h2:wv nm x od<wv nm b od
   ·exact h2
   ·exfalso;have :(1:Int)* sg (wv nm b od) (wv nm x od)=1:=eq_of_beq hx;unfold sg at this;rw[if_neg h2] at this;split at this<;>simp at this
  obtain h2:=Nat.lt_trans h1 hl;unfold sg;rw[if_pos h2];rfl
 ·unfold sg;rw[if_neg (Nat.lt_irrefl _),if_neg (Nat.lt_irrefl _)];rfl
 ·unfold sg;rw[if_pos hl];rfl
theorem EA{a b:Nat}(ha:a∈lt)(hb:b∈lt)(h:kn (-1) nm od lt a≤kn (-1) nm od lt b):wv nm b od≤wv nm a od:=by
 refine Nat.le_of_not_lt fun hl=>Nat.lt_irrefl _ (Nat.lt_of_lt_of_le ?_ h)
 simp only[wM,wM];refine Bv (fun x c hx=>?_) hb ?_ ?_
 ·obtain h1:wv nm b od<wv nm x od:=by
   by_cases h2:wv nm b od<wv nm x od
   ·exact h2
   ·exfalso;have :(-1:Int)* sg (wv nm b od) (wv nm x od)=1:=eq_of_beq hx;unfold sg at this;split at this
    ·simp at this
    ·simp at this
  obtain h2:=Nat.lt_trans hl h1;unfold sg;rw[if_neg (by exact aA (nat_lit 0x909610111101102) ae h2),if_pos h2];rfl
 ·unfold sg;rw[if_neg (Nat.lt_irrefl _),if_neg (Nat.lt_irrefl _)];rfl
 ·unfold sg;rw[if_neg (by exact aA (nat_lit 0x909610111101102) ae hl),if_pos hl];rfl
structure Sk(nm:List (List Nat))(od lt af:List Nat):Prop where
 perm:af.Perm lt
 down:af.Pairwise fun a b=>wv nm b od≤wv nm a od
theorem EB{line:List Nat}(hw:way=1∨way=-1)(hp:line.Perm lt)(hs:line.Pairwise fun a b=>kn way nm od lt a≤kn way nm od lt b):Sk nm od lt (if way<0 then line else line.reverse):=by
 rcases hw with rfl|rfl
 ·skip
  refine⟨(List.reverse_perm line).trans hp,List.pairwise_reverse.mpr ?_⟩;exact(List.pairwise_iff_forall_sublist.mpr fun{a b} F5=>Nj (hp.mem_iff.mp (F5.subset (.head _))) (hp.mem_iff.mp (F5.subset (.tail _ (.head _)))) (List.pairwise_iff_forall_sublist.mp hs F5))
 ·skip
  refine⟨hp,?_⟩;exact(List.pairwise_iff_forall_sublist.mpr fun{a b} F5=>EA (hp.mem_iff.mp (F5.subset (.head _))) (hp.mem_iff.mp (F5.subset (.tail _ (.head _)))) (List.pairwise_iff_forall_sublist.mp hs F5))
end
section
variable{d:Nat}{H X:AH}{cs:List Int}{way:Int}{k:Nat}{mk lt line af:List Nat}{nm:List (List Nat)}{tv:V}
theorem ym{α:Type}(l:List α)(d:α):(List.range l.length).map (fun i=>l.getD (l.length-1-i) d)=l.reverse:=by
 apply List.ext_getElem (by simp);intro i h1 h2;have :i<l.length:=by simpa using h1
 simp[show l.length-1-i<l.length by exact Ln.go (nat_lit 0x10111192821200102) [_,_,_,0] ae (Nat.sub_le (l.length-1) (i)) (Nat.sub_add_cancel (aA (nat_lit 1206903640321) ae this:1≤l.length))]
abbrev W5:Expr:=WS (dQ (lS 18))
theorem EC(hl:line.length≤12):bS (d+8) W5 ((List.range line.length).map fun(i:Nat)=>.int (0+(i:Int))) [(T "line",ltV line)] (.l []) X (.l (line.reverse.map aV)) X:=by
 simp only[←ym line 0,List.map_map];refine aB.all _ _ (List.range line.length) (List.length_range▸(aJ (nat_lit 0x1000006f011c900101) ae hl)) fun i hi vs hz=>?_
 obtain CJ:=tL hi;obtain it:=ye (X:=X) (xs:=line.map aV) (i:=-1-(0+(i:Int))) (j:=line.length-1-i) (v:=aV (line.getD (line.length-1-i) 0)) (by rw[List.length_map];exact SR (nat_lit 0x27170709819dc8a51193834302834028301193810114) ae (Ln.aY (line.length) (1)) (Ln.aY (line.length-1) (i)) (Nat.sub_add_cancel (aQ (nat_lit 0x20011928101101102) ae CJ (Ln.aY (line.length) (1)):i≤line.length-1)) (Nat.sub_add_cancel (aA (nat_lit 1206903640321) ae CJ:1≤line.length))) (Cu (nat_lit 0x90709819dc9100) ae) (by rw[List.getElem?_map,List.getD_eq_getElem?_getD,List.getElem?_eq_getElem (by exact Ln.go (nat_lit 0x10111192821200102) [_,_,_,0] ae (Nat.sub_le (line.length-1) (i)) (Nat.sub_add_cancel (aA (nat_lit 1206903640321) ae CJ:1≤line.length)))];rfl) (by rw[List.length_map];exact aJ (nat_lit 0x1000000000000000100f011c900101) ae hl);exact aF [T "line"] (.val 3 it (.no 4 (aD hz) .nil))
abbrev Ox(cs:List Int)(mk:List Nat)(k:Nat)(nm:List (List Nat))(lt:List Nat)(tv:V)(af:List Nat):ah:=[(T "cells",.lst (cs.map .int)),(T "marks",nu mk),(T "lexer",.ref k),(T "names",kM nm),(T "letters",ltV lt),(T "tells",tv),(T "fall",ltV af)]
theorem Nk(hw:way=1∨way=-1)(hl:line.length≤12):LX d 18 (Ow cs way mk k nm lt tv line) X .next (Ox cs mk k nm lt tv (if way<0 then line else line.reverse)) X:=by
 obtain q:LX d 18 (Ow cs way mk k nm lt tv line) X .next (Ow cs way mk k nm lt tv line++[(T "fall",ltV (if way<0 then line else line.reverse))]) X:=by
  rcases hw with rfl|rfl
  ·skip
   obtain lp:=EC (d:=d) (X:=X) hl;obtain r:=iy (line.map aV).length X (by rw[List.length_map];exact aJ (nat_lit 0x1000000000000000100f011c900101) ae hl);obtain lp:=(List.length_map (f:=aV)).symm▸lp;exact bK (.upd 7 r (.cmp lp .nil))
  ·skip
   exact bK .nil
 exact q.keep (ks:=[T "cells",T "marks",T "lexer",T "names",T "letters",T "tells",T "fall"]) (by kernel_rfl)
end
section
variable{d:Nat}{H X:AH}{cs:List Int}{way:Int}{k:Nat}{mk lt line af:List Nat}{nm:List (List Nat)}{tv:V}
noncomputable def cN(af n:List Nat):List Nat:=47::af.filter fun c=>n.contains c
noncomputable def Jl(cs:List Int)(p:Nat):Int:=(cs.getD p 0).fmod 101-50
abbrev aT(cs:List Int)(af:List Nat)(nm:List (List Nat)):List (List Nat×Int):=(nm.zipIdx 0).map fun p=>(cN af p.1,Jl cs p.2)
abbrev Sl:Expr:=dQ (lS 19)
abbrev W6:Expr:=eJ (eJ (eJ (eJ Sl 0) 0) 1) 1
theorem s7{r:List Nat}(h:r.length<2^20):iF (T "") (T "join") [.lst (r.map aV)] H=some (.str (sL r),H):=by
 obtain f:(r.map fun c=>[c]).flatten=r:=by
  induction r with |nil=>rfl|cons a r ih=>exact congrArg (a::·) (ih (Nat.lt_of_succ_lt h))
 obtain j:=iZ (f▸(h));rw[f,List.map_map] at j;exact j
theorem ED(hf:af.length≤12)(hc:cs.length=8)(p:List Nat×Nat)(hp:p.2<8)(vs:List V)(hv:vs.length+1<ak):
  uH (d+8) Sl (.tup [.int p.2,bk p.1]) [(T "cells",.lst (cs.map .int)),(T "fall",ltV af)] (.l vs) H (.l (vs++[B_ (cN af p.1,Jl cs p.2)])) H:=by
 obtain lp:bS (d+8) W6 (af.map aV) [(T "name",bk p.1)] (.l []) H (.l ((af.filter fun c=>p.1.contains c).map aV)) H:=
  aB.pick aV aV (fun c=>p.1.contains c) af [] (aJ (nat_lit 0x1000006f009811c900101) ae hf) fun c e vs hv=>by
   obtain i:=in_str (H:=H) (b:=p.1.contains c) (congrArg _ (List.toList_toArray ..));induction hb:p.1.contains c with |false=>rw[hb] at i;exact aF [T "name"] (.val 2 i .nil)|true=>rw[hb] at i;exact aF [T "name"] (.val 2 i (.no 5 (aD hv) .nil))
 obtain hl:(af.filter fun c=>p.1.contains c).length≤12:=Nat.le_trans (List.length_filter_le ..) hf;obtain j:=s7 (H:=H) (aJ (nat_lit 0x1000006f011c900101) ae hl);obtain ad:=sY (a:=[47]) (aJ (nat_lit 0x1000006f019811c900101) ae hl);obtain it:item H (.lst (cs.map .int)) (.int p.2)=some (.int (cs.getD p.2 0)):=gj (by rw[List.getElem?_map,List.getD_eq_getElem?_getD,List.getElem?_eq_getElem (by exact aA (nat_lit 0x1011891318901102) ae hp hc)];rfl) (by rw[List.length_map];exact aJ (nat_lit 0x1000000000000000100f0118902101) ae hc);exact aF [T "cells",T "fall"] (.cmp lp (.upd 1 j (.val 2 ad (.val 5 it (.no 8 (aD hv) .nil)))))
abbrev Oz(cs:List Int)(mk:List Nat)(k:Nat)(nm:List (List Nat))(lt:List Nat)(tv:V)(af:List Nat)(runs:List (List Nat×Int)):ah:=[(T "cells",.lst (cs.map .int)),(T "marks",nu mk),(T "lexer",.ref k),(T "names",kM nm),(T "letters",ltV lt),(T "tells",tv),(T "fall",ltV af),(T "runs",qD runs)]
theorem Nl(hf:af.length≤12)(hc:cs.length=8)(hn:nm.length≤6):LX d 19 (Ox cs mk k nm lt tv af) X .next (Oz cs mk k nm lt tv af (aT cs af nm)) X:=by
 obtain lp:bS (d+8) Sl (aR 0 (nm.map bk)) [(T "cells",.lst (cs.map .int)),(T "fall",ltV af)] (.l []) X (.l ((aT cs af nm).map B_)) X:=by simp only[show aR 0 (nm.map bk)=_ from dM bk 0 nm,List.map_map];exact aB.all (fun(p:List Nat×Nat)=>.tup [.int p.2,bk p.1]) _ _ (by rw[List.length_zipIdx];exact aJ (nat_lit 0x1000006f0116900101) ae hn) fun p hp vs hv=>ED hf hc p (by have :=(List.mem_zipIdx hp).2.1;exact aA (nat_lit 0x8901169101109801102) ae this hn) vs hv
 obtain q:LX d 19 (Ox cs mk k nm lt tv af) X .next (Ox cs mk k nm lt tv af++[(T "runs",qD (aT cs af nm))]) X:=bK (.cmp lp .nil);exact q.keep (ks:=[T "cells",T "marks",T "lexer",T "names",T "letters",T "tells",T "fall",T "runs"]) (by kernel_rfl)
end
section
variable{d:Nat}{H X:AH}{cs:List Int}{k:Nat}{mk lt af:List Nat}{nm:List (List Nat)}{tv:V}{runs:List (List Nat×Int)}{K1 K2:List (Str×St)}
theorem Bw{α:Type}(l:List α)(k:Nat):cut l (some (k:Int)) none=l.drop k:=by
 show(l.drop (clipAt l.length (k:Int))).take (l.length-clipAt l.length (k:Int))=_;rw[clipAt_nat];rcases Nat.le_total k l.length with h|h
 ·rw[Nat.min_eq_left h,List.take_of_length_le (List.length_drop▸(Nat.le_refl _))]
 ·rw[Nat.min_eq_right h,List.drop_of_length_le (Nat.le_refl _),List.drop_of_length_le h,List.take_nil]
abbrev dP(K:List (Str×St)):V:=.bf (aI St.enc K)
abbrev OA(cs:List Int)(mk:List Nat)(k:Nat)(nm:List (List Nat))(lt:List Nat)(tv:V)(af:List Nat)(runs:List (List Nat×Int))(K1 K2:List (Str×St)):ah:=Oz cs mk k nm lt tv af runs++[(T "first",dP K1),(T "rest",dP K2),(T "blank",bH.enc)]
theorem Nm(hr:∀r∈runs,r.1.length≤10∧small r.2=true)(hz:runs.length≤10):∃Y,LX d 20 (Oz cs mk k nm lt tv af runs) X .next (OA cs mk k nm lt tv af runs (bU (runs.take 2)) (bU (runs.drop 2))) (X++Y):=by
 refine(wL (d:=d+4) (X:=X) (runs:=runs.take 2) (fun r h=>hr r (List.mem_of_mem_take h)) (Nat.le_trans (List.length_take_le ..) (by simp_all))).elim fun Y1 q1=>?_
 obtain⟨Y2,q2⟩:=wL (d:=d+4) (X:=X++Y1) (fun r h=>hr r (List.mem_of_mem_drop h)) (by rw[List.length_drop];exact aA (nat_lit 0xa9101a9001010102) ae (Nat.sub_le (runs.length) (2)) hz);obtain s1:slice X (qD runs) none (some ((2:Nat):Int))=some (qD (runs.take 2)):=by show some (V.lst (cut (runs.map B_) none (some ((2:Nat):Int))))=_;rw[nq,←List.map_take]
 obtain s2:slice (X++Y1) (qD runs) (some ((2:Nat):Int)) none=some (qD (runs.drop 2)):=by show some (V.lst (cut (runs.map B_) (some ((2:Nat):Int)) none))=_;rw[Bw,←List.map_drop]
 refine⟨Y1++Y2,?_⟩;rw[←List.append_assoc];exact bK (.val 2 s1 (.call q1 (.val 5 s2 (.call q2 .nil))))
end
section
variable{d:Nat}{H X:AH}{cs:List Int}{k:Nat}{mk lt af:List Nat}{nm:List (List Nat)}{tv:V}{runs:List (List Nat×Int)}{K1 K2:List (Str×St)}
theorem Iv(r:List Nat×Int)(ps:List (Nat×Nat)){m:Nat}{K:List (Str×St)}(hm:0<m)(h:Bd m K):Bd (m+ps.length) (ps.foldl (uY r.1 r.2) K):=by
 induction ps generalizing m K with |nil=>exact h|cons p ps ih=>exact(ih (Nat.succ_pos m) (h.step hm p)).mono (aA (nat_lit 7063297339162880) ae)
theorem s8(hr:∀r∈runs,r.1.length≤10):Bd (10* runs.length+1) (bU runs):=by
 obtain key:∀(rs:List (List Nat×Int)) (m:Nat) (K:List (Str×St)),(∀r∈rs,r.1.length≤10)→0<m→Bd m K→Bd (m+10* rs.length) (rs.foldl (fun K r=>(r.1.zipIdx 0).foldl (uY r.1 r.2) K) K):=by
  intro rs;induction rs with |nil=>intro m K _ _ h;exact h|cons r rs ih=>intro m K hr hm h;obtain q:=Iv r (r.1.zipIdx 0) hm h;rw[List.length_zipIdx] at q;obtain hl:=hr r (.head _);exact(ih (m+r.1.length) _ (fun x hx=>hr x (.tail _ hx)) (aA (nat_lit 4644960155013377) ae hm) q).mono (aQ (nat_lit 0x1928aa182aa018801a900101) ae hl)
 exact(key runs 1 [] hr Nat.one_pos fun x s e=>nE e).mono (aJ (nat_lit 0x190aa80aa1980100) ae)
def aL(K:List (Str×St))(c:Nat):St:=(K.lookup (bx c)).getD bH
def oj(K1 K2:List (Str×St))(signs:List Nat):List (Str×St):=signs.foldl (fun D c=>aP D (bx c) ((aL K1 c).add (aL K2 c))) []
theorem wN{m:Nat}{K:List (Str×St)}(h:Bd m K)(hm:0<m)(c:Nat):(aL K c).cs.length<m:=by
 unfold aL;induction e:K.lookup (bx c) with |none=>exact hm|some s=>exact h _ s e
theorem F6(K:List (Str×St))(c:Nat):lN (aI St.enc K) "get" [.str (bx c),bH.enc] H=some ((aL K c).enc,H):=by show some (((aI St.enc K).lookup (bx c)).getD bH.enc,H)=_;rw[jH,Bf];rfl
abbrev Cc:Expr:=dQ (lS 21)
theorem EE(h1:Bd 200 K1)(h2:Bd 200 K2)(D:List (Str×St))(c:Nat)(hz:D.length+1<ak):
  fN (d+8) (B8 Cc) (MQ Cc) (dI (d+8) (B8 Cc) (Jc Cc) (x8 Cc).tail) (aV c) [(T "blank",bH.enc),(T "first",dP K1),(T "rest",dP K2)] (.d (aI St.enc D)) H [(T "blank",bH.enc),(T "first",dP K1),(T "rest",dP K2)] (.d (aI St.enc (aP D (bx c) ((aL K1 c).add (aL K2 c))))) (H++[.gone]):=by
 obtain b1:=wN h1 (by decide) c;obtain b2:=wN h2 (by decide) c;obtain st:=ju (d:=d+5) H (aL K1 c) (aL K2 c) (aA (nat_lit 0x1000006f19018811c8e111c8e01102) ae b2 b1);rw[←pK];exact aF [T "blank",T "first",T "rest"] (.upd 5 (F6 (H:=H) K1 c) (.upd 9 (F6 (H:=H) K2 c) (.call st (.no 10 (aD (show(aI St.enc D).length+1<ak by rw[d7];exact hz)) .nil))))
end
section
variable{d:Nat}{H X:AH}{cs:List Int}{k:Nat}{mk lt af:List Nat}{nm:List (List Nat)}{tv:V}{runs:List (List Nat×Int)}{K1 K2:List (Str×St)}
abbrev Sm(K1 K2:List (Str×St))(s:List (Str×St)×AH)(c:Nat):List (Str×St)×AH:=(aP s.1 (bx c) ((aL K1 c).add (aL K2 c)),s.2++[.gone])
theorem Bx(signs:List Nat)(s:List (Str×St)×AH):∃Y,signs.foldl (Sm K1 K2) s=(signs.foldl (fun D c=>aP D (bx c) ((aL K1 c).add (aL K2 c))) s.1,s.2++Y):=by
 induction signs generalizing s with |nil=>exact⟨[],by rw[List.append_nil];rfl⟩|cons c r ih=>obtain⟨Y,e⟩:=ih (Sm K1 K2 s c);exact⟨.gone::Y,by rw[List.foldl_cons,e,List.append_assoc];rfl⟩
abbrev OB(cs:List Int)(mk:List Nat)(k:Nat)(nm:List (List Nat))(lt:List Nat)(tv:V)(af:List Nat)(runs:List (List Nat×Int))(K:List (Str×St)):ah:=Oz cs mk k nm lt tv af runs++[(T "book",dP K)]
theorem Nn(hf:af.length≤12)(h1:Bd 200 K1)(h2:Bd 200 K2):∃Y,LX d 21 (OA cs mk k nm lt tv af runs K1 K2) X .next (OB cs mk k nm lt tv af runs (oj K1 K2 (47::af))) (X++Y):=by
 have lp:=aB.fold (d:=d+8) (au:=B8 Cc) (g:=MQ Cc) (T:=dI (d+8) (B8 Cc) (Jc Cc) (x8 Cc).tail) (env:=[(T "blank",bH.enc),(T "first",dP K1),(T "rest",dP K2)]) (σ:=List (Str×St)×AH) aV (fun s=>.d (aI St.enc s.1)) (fun s=>s.2) (Sm K1 K2) (fun xs s=>s.1.length+xs.length<200)
  (fun c xs s hh=>by have :=cG s.1 (bx c) ((aL K1 c).add (aL K2 c));simp only[List.length_cons] at hh;show(aP _ _ _).length+_<_;exact aQ (nat_lit 0xc8e20811c8e19281811191800102) ae this hh)
  (fun c xs s hh=>EE h1 h2 s.1 c (by simp only[List.length_cons] at hh;unfold ak;exact aA (nat_lit 0x1000006f190811c8e1918081101) ae hh)) (47::af) ([],X) (by show 0+(47::af).length<200;rw[List.length_cons];exact aJ (nat_lit 0xc8e190809811c900101) ae hf)
 obtain⟨Y,e⟩:=Bx (K1:=K1) (K2:=K2) (47::af) ([],X);rw[e] at lp;have ad:=yd (a:=[.str (T "/")]) (b:=af.map aV) (by rw[List.length_map];show 1+_<_;exact aJ (nat_lit 0x1000006f019811c900101) ae hf)
 have q:LX d 21 (OA cs mk k nm lt tv af runs K1 K2) X .next (OA cs mk k nm lt tv af runs K1 K2++[(T "book",dP (oj K1 K2 (47::af)))]) (X++Y):=bK (.val 1 ad (.cmp lp .nil));exact⟨Y,q.keep (ks:=[T "cells",T "marks",T "lexer",T "names",T "letters",T "tells",T "fall",T "runs",T "book"]) (by kernel_rfl)⟩
end
section
variable{d:Nat}{H X:AH}{cs:List Int}{k:Nat}{mk lt af:List Nat}{nm:List (List Nat)}{tv:V}{runs:List (List Nat×Int)}{K:List (Str×St)}
theorem yn{K1 K2:List (Str×St)}{signs:List Nat}{c:Nat}(h:c∈signs):(oj K1 K2 signs).lookup (bx c)=some ((aL K1 c).add (aL K2 c)):=by unfold oj;rw[pF (fun c=>(aL K1 c).add (aL K2 c)),if_pos h]
abbrev F7(K:List (Str×St))(c:Nat):Prop:=K.lookup (bx c)=some (aL K c)
theorem Iw{c:Nat}{s:St}(h:K.lookup (bx c)=some s):F7 K c:=by show K.lookup (bx c)=some ((K.lookup (bx c)).getD bH);refine h▸?_;rfl
theorem fV{c:Nat}(h:F7 K c):item X (dP K) (.str (bx c))=some (aL K c).enc:=by show(aI St.enc K).lookup (bx c)=_;simp only[jH,h];rfl
abbrev Uk:Expr:=Ij (dQ (lS 22))
def kO(K:List (Str×St))(af:List Nat):List Nat:=(((af.zipIdx 0).filter fun p=>!decide ((aL K p.1).cs.length=1)).map fun p=>p.2)++[af.length]
theorem EF(c j:Nat)(h:F7 K c)(vs:List V)(hv:vs.length+1<ak):uH (d+8) Uk (.tup [.int j,aV c]) [(T "book",dP K)] (.l vs) H (.l (bif !decide ((aL K c).cs.length=1) then vs++[.int j] else vs)) H:=by
 obtain it:=fV (X:=H) h;obtain ne:bI H .NotEq (.int ((aI V.int (aL K c).cs).length:Nat)) (.int 1)=some (.bool (!decide ((aL K c).cs.length=1))):=congrArg (fun b=>some (V.bool !b)) (by rw[d7,Bool.eq_iff_iff,beq_iff_eq];lia);induction hb:decide ((aL K c).cs.length=1) with |true=>rw[hb] at ne;exact aF [T "book"] (.val 3 it (.val 6 ne .nil))|false=>rw[hb] at ne;exact aF [T "book"] (.val 3 it (.val 6 ne (.no 9 (aD hv) .nil)))
abbrev Ul(cs:List Int)(mk:List Nat)(k:Nat)(nm:List (List Nat))(lt:List Nat)(tv:V)(af:List Nat)(runs:List (List Nat×Int))(K:List (Str×St)):ah:=OB cs mk k nm lt tv af runs K++[(T "many",nu (kO K af))]
theorem Np(hf:af.length≤12)(hK:∀c∈af,F7 K c):LX d 22 (OB cs mk k nm lt tv af runs K) X .next (Ul cs mk k nm lt tv af runs K) X:=by
 have lp:bS (d+8) Uk (aR 0 (af.map aV)) [(T "book",dP K)] (.l []) X (.l (((af.zipIdx 0).filter fun p=>!decide ((aL K p.1).cs.length=1)).map fun p=>.int p.2)) X:=by exact(show aR 0 (af.map aV)=_ from dM aV 0 af)▸(aB.pick (fun(p:Nat×Nat)=>.tup [.int p.2,aV p.1]) _ _ (af.zipIdx 0) [] (by rw[List.length_zipIdx];exact aJ (nat_lit 0x1000006f009811c900101) ae hf) fun p hp vs hv=>EF p.1 p.2 (hK _ (by obtain this:=(List.mem_zipIdx hp).2.2;rw[this];exact List.getElem_mem _)) vs hv)
 obtain hl:((af.zipIdx 0).filter fun p=>!decide ((aL K p.1).cs.length=1)).length≤12:=Nat.le_trans (List.length_filter_le ..) (by rw[List.length_zipIdx];exact hf);obtain ad:binop .Add (.lst (((af.zipIdx 0).filter fun p=>!decide ((aL K p.1).cs.length=1)).map fun p=>V.int p.2)) (.lst [.int ((af.map aV).length:Nat)])=some (nu (kO K af)):=by rw[yd (by rw[List.length_map];show _+1<_;omega)];unfold kO;rw[List.length_map];refine congrArg (fun l=>some (V.lst l)) ?_;rw[List.map_append,List.map_map];rfl
 exact bK (.cmp lp (.val 5 ad .nil))
end
section
variable{d:Nat}{H X:AH}{cs:List Int}{k:Nat}{mk lt af:List Nat}{nm:List (List Nat)}{tv:V}{runs:List (List Nat×Int)}{K:List (Str×St)}
abbrev Sn:Expr:=Ij (dQ (lS 23))
abbrev qK(af:List Nat)(nm:List (List Nat))(c j:Nat):List Nat:=(af.take j).filter fun o=>qC c o nm
def om(af:List Nat)(nm:List (List Nat)):List Nat:=(((af.zipIdx 0).filter fun p=>!(qK af nm p.1 p.2).isEmpty).map fun p=>p.2)++[af.length]
theorem ne_nil(xs:List V):bI H .NotEq (.lst xs) (.lst [])=some (.bool (!xs.isEmpty)):=by induction xs<;>rfl
theorem s9(j:Nat):slice X (ltV af) none (some (j:Int))=some (ltV (af.take j)):=by show some (V.lst (cut (af.map aV) none (some (j:Int))))=_;rw[nq,←List.map_take]
def W7(e:Expr):Expr:=(MQ e).ifs.headD (.Constant .none 0 default)
abbrev W8:Expr:=eJ (W7 Sn) 0
theorem EG(hf:af.length≤12)(hn:nm.length<100)(c j:Nat):bS (d+8) W8 ((af.take j).map aV) [(T "letter",aV c),(T "names",kM nm)] (.l []) H (.l ((qK af nm c j).map aV)) H:=
 aB.pick aV aV (fun o=>qC c o nm) (af.take j) [] (by simp only[List.length_nil,List.length_take];exact aA (nat_lit 0x1000006f109811c9001010102) ae (Nat.min_le_right (j) (af.length)) hf) fun o a vs hv=>by
  have q:=uU (d:=d+6) (X:=H) c o nm hn;induction hb:qC c o nm with |false=>rw[hb] at q;exact aF [T "letter",T "names"] (.call q .nil)|true=>rw[hb] at q;exact aF [T "letter",T "names"] (.call q (.no 6 (aD hv) .nil))
theorem EH(hf:af.length≤12)(hn:nm.length<100)(c j:Nat)(vs:List V)(hv:vs.length+1<ak):
  uH (d+8) Sn (.tup [.int j,aV c]) [(T "fall",ltV af),(T "names",kM nm)] (.l vs) H (.l (bif !(qK af nm c j).isEmpty then vs++[.int j] else vs)) H:=by
 obtain sl:=s9 (X:=H) (af:=af) j;obtain lp:=EG (d:=d) (H:=H) hf hn c j;obtain ne:=ne_nil (H:=H) ((qK af nm c j).map aV);rw[List.isEmpty_map] at ne;induction hb:(qK af nm c j).isEmpty with |true=>rw[hb] at ne;exact aF [T "fall",T "names"] (.val 2 sl (.cmp lp (.val 3 ne .nil)))|false=>rw[hb] at ne;exact aF [T "fall",T "names"] (.val 2 sl (.cmp lp (.val 3 ne (.no 6 (aD hv) .nil))))
abbrev So(cs:List Int)(mk:List Nat)(k:Nat)(nm:List (List Nat))(lt:List Nat)(tv:V)(af:List Nat)(runs:List (List Nat×Int))(K:List (Str×St)):ah:=OB cs mk k nm lt tv af runs K++[(T "many",nu (kO K af)),(T "cross",nu (om af nm))]
theorem Nq(hf:af.length≤12)(hn:nm.length<100):LX d 23 (Ul cs mk k nm lt tv af runs K) X .next (So cs mk k nm lt tv af runs K) X:=by
 obtain lp:bS (d+8) Sn (aR 0 (af.map aV)) [(T "fall",ltV af),(T "names",kM nm)] (.l []) X (.l (((af.zipIdx 0).filter fun p=>!(qK af nm p.1 p.2).isEmpty).map fun p=>.int p.2)) X:=by exact(show aR 0 (af.map aV)=_ from dM aV 0 af)▸(aB.pick (fun(p:Nat×Nat)=>.tup [.int p.2,aV p.1]) _ _ (af.zipIdx 0) [] (by rw[List.length_zipIdx];exact aJ (nat_lit 0x1000006f009811c900101) ae hf) fun p hp vs hv=>EH hf hn p.1 p.2 vs hv)
 obtain hl:((af.zipIdx 0).filter fun p=>!(qK af nm p.1 p.2).isEmpty).length≤12:=Nat.le_trans (List.length_filter_le ..) (by rw[List.length_zipIdx];exact hf);obtain ad:binop .Add (.lst (((af.zipIdx 0).filter fun p=>!(qK af nm p.1 p.2).isEmpty).map fun p=>V.int p.2)) (.lst [.int ((af.map aV).length:Nat)])=some (nu (om af nm)):=by refine(yd (by rw[List.length_map];show _+1<_;omega)).trans ?_;unfold om;rw[List.length_map];refine congrArg (fun l=>some (V.lst l)) ?_;rw[List.map_append,List.map_map];rfl
 exact bK (.cmp lp (.val 5 ad .nil))
end
section
variable{d:Nat}{H X:AH}{cs:List Int}{k:Nat}{mk lt af ahead:List Nat}{nm:List (List Nat)}{tv:V}{runs:List (List Nat×Int)}{K:List (Str×St)}
theorem IB:om af nm≠[]:=by unfold om;exact List.append_ne_nil_of_right_ne_nil _ (List.cons_ne_nil _ _)
def qG(af:List Nat)(nm:List (List Nat)):Nat:=(om af nm).headD 0
theorem s_(hf:af.length≤12):item X (nu (om af nm)) (.int 0)=some (.int (qG af nm:Nat)):=by
 obtain hl:(om af nm).length<2^60:=by unfold om;rw[List.length_append,List.length_map];obtain this:=List.length_filter_le (fun p:Nat×Nat=>!(qK af nm p.1 p.2).isEmpty) (af.zipIdx 0);rw[List.length_zipIdx] at this;show _+1<_;lia
 unfold qG
 revert hl
 generalize hg:om af nm=l;intro hl;obtain cI:=hg▸IB;induction l with |nil=>exact absurd rfl cI|cons a r=>exact gj rfl (by rw[List.length_map];exact hl)
abbrev wO(cs:List Int)(mk:List Nat)(k:Nat)(nm:List (List Nat))(lt:List Nat)(tv:V)(af:List Nat)(runs:List (List Nat×Int))(K:List (Str×St))(ahead:List Nat):ah:=So cs mk k nm lt tv af runs K++[(T "ahead",ltV ahead)]
theorem Nr(hf:af.length≤12):LX d 24 (So cs mk k nm lt tv af runs K) X .next (wO cs mk k nm lt tv af runs K (af.take (qG af nm))) X:=bK (.val 2 (s_ (X:=X) (af:=af) (nm:=nm) hf) (.val 3 (s9 (X:=X) (af:=af) (qG af nm)) .nil))
abbrev Sp:Expr:=dQ (lS 26)
abbrev W9:Expr:=eJ (eJ (eJ Sp 0) 1) 1
theorem EI(ha:ahead.length≤12)(n:List Nat)(vs:List V)(hv:vs.length+1<ak):uH (d+8) Sp (bk n) [(T "ahead",ltV ahead)] (.l vs) H (.l (vs++[bk (cN ahead n)])) H:=by
 obtain lp:bS (d+8) W9 (ahead.map aV) [(T "name",bk n)] (.l []) H (.l ((ahead.filter fun c=>n.contains c).map aV)) H:=
  aB.pick aV aV (fun c=>n.contains c) ahead [] (aJ (nat_lit 0x1000006f009811c900101) ae ha) fun c e vs hv=>by
   obtain i:=in_str (H:=H) (b:=n.contains c) (congrArg _ (List.toList_toArray ..));induction hb:n.contains c with |false=>rw[hb] at i;exact aF [T "name"] (.val 2 i .nil)|true=>rw[hb] at i;exact aF [T "name"] (.val 2 i (.no 5 (aD hv) .nil))
 obtain hl:(ahead.filter fun c=>n.contains c).length≤12:=Nat.le_trans (List.length_filter_le ..) ha;obtain j:=s7 (H:=H) (aJ (nat_lit 0x1000006f011c900101) ae hl);obtain ad:=sY (a:=[47]) (aJ (nat_lit 0x1000006f019811c900101) ae hl);exact aF [T "ahead"] (.cmp lp (.upd 1 j (.val 2 ad (.no 3 (aD hv) .nil))))
abbrev nD(ahead:List Nat)(nm:List (List Nat)):List (List Nat):=nm.map (cN ahead)
theorem Nt(ha:ahead.length≤12)(hn:nm.length<100):LX d 26 (wO cs mk k nm lt tv af runs K ahead) X .next (wO cs mk k nm lt tv af runs K ahead++[(T "cut",kM (nD ahead nm))]) X:=by
 obtain lp:bS (d+8) Sp (nm.map bk) [(T "ahead",ltV ahead)] (.l []) X (.l ((nD ahead nm).map bk)) X:=by simp only[List.map_map];exact aB.all bk _ nm (aJ (nat_lit 0x1000006f01164e01101) ae hn) fun n a vs hv=>EI ha n vs hv
 exact bK (.cmp lp .nil)
end
section
variable{r:List Nat}{sp:Int}{K:List (Str×St)}
theorem By(p:Nat×Nat)(c:Nat):(uY r sp K p).lookup (bx c)=if c=p.1 then some ((aL K c).add (Ca r sp p.2)) else K.lookup (bx c):=by
 unfold uY;rw[cS,bC];by_cases h:c=p.1
 ·subst h;rw[if_pos (beq_self_eq_true _),if_pos rfl];rfl
 ·rw[if_neg ((beq_false_of_ne h)▸(Bool.false_ne_true)),if_neg h]
theorem EJ(L:List Nat)(i:Nat)(hL:L.Nodup)(c:Nat)(K:List (Str×St)):((L.zipIdx i).foldl (uY r sp) K).lookup (bx c)=if c∈L then some ((aL K c).add (Ca r sp (i+L.idxOf c))) else K.lookup (bx c):=by
 induction L generalizing i K with
 |nil=>rfl|cons a L ih=>
  refine(lE hL).elim fun n1 n2=>?_
  simp only[List.zipIdx_cons,List.foldl_cons,ih (i+1) n2];obtain b:=By (a,i) c;by_cases h1:c∈L
  ·obtain cI:c≠a:=fun e=>n1 (e▸h1)
   obtain ei:(a::L).idxOf c=L.idxOf c+1:=by rw[List.idxOf_cons,beq_false_of_ne fun e:a=c=>cI e.symm];rfl
   rw[if_pos h1,if_pos (.tail _ h1),ei];have :aL (uY r sp K (a,i)) c=aL K c:=by unfold aL;rw[b,if_neg cI]
   simp only[this,show i+1+L.idxOf c=i+(L.idxOf c+1) by exact aA (nat_lit 0x1918081190882510) ae]
  ·rw[if_neg h1,b];by_cases h2:c=a
   ·subst h2;rw[if_pos rfl,if_pos (.head _),show(c::L).idxOf c=0 from by rw[List.idxOf_cons,beq_self_eq_true];rfl,Nat.add_zero]
   ·rw[if_neg h2,if_neg (fun h=>(bz h).elim h2 h1)]
def qH(c:Nat)(s:St)(r:List Nat×Int):St:=s.add (Ca r.1 r.2 (r.1.idxOf c))
theorem yo(runs:List (List Nat×Int))(hr:∀r∈runs,r.1.Nodup)(c:Nat)(K:List (Str×St)):aL (runs.foldl (fun K r=>(r.1.zipIdx 0).foldl (uY r.1 r.2) K) K) c=(dO c runs).foldl (qH c) (aL K c):=by
 induction runs generalizing K with
 |nil=>rfl|cons r rs ih=>
  simp only[List.foldl_cons,ih fun x hx=>hr x (.tail _ hx)];obtain b:=EJ r.1 0 (hr r (.head _)) c K;by_cases h:c∈r.1
  ·simp only[show dO c (r::rs)=r::dO c rs from List.filter_cons_of_pos (List.contains_iff_mem.mpr h),List.foldl_cons];refine congrArg (List.foldl (qH c) · (dO c rs)) ?_;show(List.lookup (bx c) _).getD bH=_;rw[b,if_pos h,Nat.zero_add];rfl
  ·simp only[show dO c (r::rs)=dO c rs from List.filter_cons_of_neg (fun q=>h (List.contains_iff_mem.mp q))];refine congrArg (List.foldl (qH c) · (dO c rs)) ?_;show(List.lookup (bx c) _).getD bH=_;rw[b,if_neg h];rfl
theorem j9(runs:List (List Nat×Int))(hr:∀r∈runs,r.1.Nodup)(c:Nat):aL (bU runs) c=(dO c runs).foldl (qH c) bH:=yo runs hr c []
end
theorem j_{β:Type}(d:List (Str×β))(x:Str)(v:β)(h:(d.map (·.1)).Nodup):((aP d x v).map (·.1)).Nodup:=by
 rw[yZ];induction hl:d.lookup x with |some u=>exact h|none=>have :=(fD d x).mp hl;exact List.nodup_append.mpr ⟨h,by simp,fun a ha b hb=>by rw[List.mem_singleton] at hb;subst hb;exact fun e=>this (e▸ha)⟩
theorem iz(t acc:List (Str×Int))(h:((acc++t).map (·.1)).Nodup):t.foldl sA acc=acc++t:=by
 induction t generalizing acc with
 |nil=>exact(List.append_nil acc).symm|cons p r ih=>
  have hy:p.1∉acc.map (·.1):=by rw[List.map_append] at h;exact fun hm=>(jE h).2.2 p.1 hm p.1 (.head _) rfl
  refine(?_:r.foldl sA (aP acc p.1 p.2)=_);rw[vA acc hy,ih _ (by simpa using h)];simp
section
variable{c:Nat}{hs:List (List Nat×Int)}
def eM(c:Nat)(hs:List (List Nat×Int))(x:Str):Nat:=(hs.filter fun p=>bx (dR c p.1)==x).length
structure cF(c:Nat)(hs:List (List Nat×Int))(s:St):Prop where
 cc:s.cc=(hs.map fun p=>fU p.1 (p.1.idxOf c)).sum
 nc:s.nc=hs.length
 tt:s.tt=(hs.map fun p=>fU p.1 (p.1.idxOf c)* p.2).sum
 ct:s.ct=(hs.map fun p=>p.2).sum
 nd:(s.cs.map (·.1)).Nodup
 lk:∀x,s.cs.lookup x=if eM c hs x=0 then none else some ((eM c hs x:Nat):Int)
theorem nF(l:List Int)(a:Int):(l++[a]).sum=l.sum+a:=by simp[List.sum_append]
theorem cF.step{pre:List (List Nat×Int)}{s:St}(h:cF c pre s)(r:List Nat×Int):cF c (pre++[r]) (qH c s r):=by
 have e:gZ s.cs [(bx (dR c r.1),1)]=aP s.cs (bx (dR c r.1)) (match s.cs.lookup (bx (dR c r.1)) with |some v=>v+1|none=>1):=by unfold gZ;rw[iz s.cs [] h.nd];rfl
 obtain hc:∀x,eM c (pre++[r]) x=eM c pre x+if(bx (dR c r.1)==x) then 1 else 0:=fun x=>by unfold eM;induction hb:bx (dR c r.1)==x<;>simp[hb]
 refine⟨?_,?_,?_,?_,?_,fun x=>?_⟩
 ·rw[List.map_append];show fU r.1 (r.1.idxOf c)+s.cc=(_++[_]).sum;simp only[nF,h.cc,Int.add_comm]
 ·show(1:Int)+s.nc=_;simp only[h.nc,List.length_append];exact Cu (nat_lit 7046153452954896) ae
 ·rw[List.map_append];show fU r.1 (r.1.idxOf c)* r.2+s.tt=(_++[_]).sum;simp only[nF,h.tt,Int.add_comm]
 ·rw[List.map_append];show r.2+s.ct=(_++[_]).sum;simp only[nF,h.ct,Int.add_comm]
 ·show((gZ s.cs [(bx (dR c r.1),1)]).map (·.1)).Nodup;exact e▸(j_ _ _ _ h.nd)
 ·show(gZ s.cs [(bx (dR c r.1),1)]).lookup x=_;rw[e,cS,hc x,h.lk (bx (dR c r.1))];by_cases hx:x=bx (dR c r.1)
  ·subst hx;rw[if_pos (beq_self_eq_true _),if_pos (beq_self_eq_true _)];by_cases h0:eM c pre (bx (dR c r.1))=0
   ·rw[h0];rfl
   ·rw[if_neg h0];rfl
  ·rw[if_neg ((beq_false_of_ne hx)▸(Bool.false_ne_true)),show(if(bx (dR c r.1)==x)=true then 1 else 0)=0 from if_neg ((beq_false_of_ne fun e=>hx e.symm)▸(Bool.false_ne_true)),Nat.add_zero,h.lk x]
theorem u4:cF c [] bH:=⟨rfl,rfl,rfl,rfl,List.nodup_nil,fun a=>rfl⟩
theorem yp(hs pre:List (List Nat×Int))(s:St)(h:cF c pre s):cF c (pre++hs) (hs.foldl (qH c) s):=by
 induction hs generalizing pre s with |nil=>rw[List.append_nil];exact h|cons r rs ih=>obtain q:=ih (pre++[r]) (qH c s r) (h.step r);rw[List.append_assoc] at q;exact q
theorem i4(runs:List (List Nat×Int))(hr:∀r∈runs,r.1.Nodup):cF c (dO c runs) (aL (bU runs) c):=by rw[j9 runs hr c];exact yp (dO c runs) [] bH u4
end
section
variable{c:Nat}{runs:List (List Nat×Int)}
theorem BA{r:List Nat}(hn:r.Nodup)(h:c∈r):own c r=fU r (r.idxOf c):=by
 have hi:r.idxOf c<r.length:=List.idxOf_lt_length_iff.mpr h;have hg:r[r.idxOf c]=c:=List.getElem_idxOf hi
 unfold own fU;rw[List.getLast?_eq_getElem?];by_cases he:r.idxOf c+1=r.length
 ·rw[if_pos he,show r.length-1=r.idxOf c by exact aQ (nat_lit 0x22519281041190835119282113) ae (Nat.sub_add_cancel (aA (nat_lit 4943477712888065) ae he:1≤r.length)) he (Ln.aY (r.length) (1)),List.getElem?_eq_getElem hi,hg];exact if_pos (beq_self_eq_true _)
 ·rw[if_neg he,List.getElem?_eq_getElem (by exact aA (nat_lit 282647922745601) ae (Nat.sub_add_cancel (aA (nat_lit 1206903640321) ae hi:1≤r.length)))];refine if_neg fun q=>?_
  have q:r[r.length-1]'(by exact aA (nat_lit 282647922745601) ae (Nat.sub_add_cancel (aA (nat_lit 1206903640321) ae hi:1≤r.length)))=c:=Option.some.inj (eq_of_beq q);exact absurd (hg.trans q.symm) (List.pairwise_iff_getElem.mp hn (r.idxOf c) (r.length-1) hi (by exact aA (nat_lit 282647922745601) ae (Nat.sub_add_cancel (aA (nat_lit 1206903640321) ae hi:1≤r.length))) (by omega))
theorem yq(s t:List (Str×Int)){x:Str}(h:x∉s.map (·.1)):(s.foldl put2 t).lookup x=t.lookup x:=by
 induction s generalizing t with |nil=>rfl|cons p r ih=>rw[List.foldl_cons,ih _ fun q=>h (.tail _ q)];unfold put2;rw[cS,if_neg (by rw[beq_false_of_ne fun e:x=p.1=>h (List.mem_cons.mpr (.inl e))];exact Bool.false_ne_true)]
theorem yt(t s:List (Str×Int))(ht:(t.map (·.1)).Nodup)(hs:(s.map (·.1)).Nodup)(x:Str):(gZ t s).lookup x=match s.lookup x with |some v=>some (match t.lookup x with |some w=>w+v|none=>v)|none=>t.lookup x:=by
 unfold gZ;rw[iz t [] ht,List.nil_append];clear ht;induction s generalizing t with
 |nil=>rfl|cons p r ih=>
  obtain⟨n1,n2⟩:=lE hs;rw[List.foldl_cons,List.lookup_cons];induction hb:x==p.1 with
  |true=>have e:x=p.1:=eq_of_beq hb;rw[yq r _ (by rw[e];exact n1)];unfold put2;rw[cS,hb,e];rfl|false=>
   rw[ih _ n2];have k:(put2 t p).lookup x=t.lookup x:=by unfold put2;rw[cS,hb];rfl
   rw[k]
end
section
variable{c:Nat}{runs:List (List Nat×Int)}
theorem u5(s t:List (Str×Int))(ht:(t.map (·.1)).Nodup):((s.foldl put2 t).map (·.1)).Nodup:=by
 induction s generalizing t with |nil=>exact ht|cons p r ih=>exact ih _ (j_ _ _ _ ht)
theorem u6(t s:List (Str×Int))(ht:(t.map (·.1)).Nodup):((gZ t s).map (·.1)).Nodup:=by unfold gZ;simp only[iz t [] ht,List.nil_append];exact u5 s t ht
theorem qI(a b:List Int):(a++b).sum=a.sum+b.sum:=by simp[List.sum_append]
theorem cF.add{a b:List (List Nat×Int)}{s t:St}(h:cF c a s)(k:cF c b t):cF c (a++b) (s.add t):=by
 obtain hc:∀x,eM c (a++b) x=eM c a x+eM c b x:=fun x=>by unfold eM;simp only[List.filter_append,List.length_append]
 refine⟨?_,?_,?_,?_,u6 _ _ h.nd,fun x=>?_⟩
 ·show t.cc+s.cc=_;simp only[h.cc,k.cc,List.map_append,qI,Int.add_comm]
 ·show t.nc+s.nc=_;simp only[h.nc,k.nc,List.length_append];exact BZ (nat_lit 26875497325840) ae
 ·show t.tt+s.tt=_;simp only[h.tt,k.tt,List.map_append,qI,Int.add_comm]
 ·show t.ct+s.ct=_;simp only[h.ct,k.ct,List.map_append,qI,Int.add_comm]
 ·refine(?_:(gZ s.cs t.cs).lookup x=_);rw[yt s.cs t.cs h.nd k.nd,hc x,h.lk x,k.lk x];by_cases h1:eM c b x=0
  ·rw[if_pos h1,h1,Nat.add_zero]
  ·rw[if_neg h1];by_cases h2:eM c a x=0
   ·rw[if_pos h2,h2,Nat.zero_add,if_neg h1]
   ·rw[if_neg h2,if_neg (by exact aA (nat_lit 0x9096109108210091102) ae (Nat.lt_of_le_of_ne (aJ (nat_lit 590080) ae) (Ne.symm h2)))];rfl
theorem tq(n:Nat):dO c (runs.take n)++dO c (runs.drop n)=dO c runs:=by rw[←List.filter_append,List.take_append_drop]
theorem BB(hr:∀r∈runs,r.1.Nodup):cF c (dO c runs) ((aL (bU (runs.take 2)) c).add (aL (bU (runs.drop 2)) c)):=by refine(tq 2)▸?_;exact(i4 _ fun r h=>hr r (List.mem_of_mem_take h)).add (i4 _ fun r h=>hr r (List.mem_of_mem_drop h))
end
section
variable{c:Nat}{runs hs:List (List Nat×Int)}
theorem IC(y:Nat):uX c y hs=eM c hs (bx y):=congrArg List.length (List.filter_congr fun p a=>(bC _ _).symm)
theorem BC(k:List (List Nat×Int))(D:List (Str×Int))(x:Str):(k.foldl (fun D p=>aP D (bx (dR c p.1)) ((uX c (dR c p.1) hs:Nat):Int)) D).lookup x=if(k.any fun p=>bx (dR c p.1)==x)=true then some ((eM c hs x:Nat):Int) else D.lookup x:=by
 induction k generalizing D with
 |nil=>rfl|cons p r ih=>
  rw[List.foldl_cons,ih,List.any_cons,cS,IC];induction h1:r.any fun p=>bx (dR c p.1)==x with
  |true=>rw[if_pos rfl,Bool.or_true,if_pos rfl]|false=>
   rw[if_neg Bool.false_ne_true,Bool.or_false];by_cases h2:x=bx (dR c p.1)
   ·subst h2;rfl
   ·rw[if_neg ((beq_false_of_ne h2)▸(Bool.false_ne_true)),if_neg ((beq_false_of_ne fun e=>h2 e.symm)▸(Bool.false_ne_true))]
theorem yu(x:Str):(Em c hs).lookup x=if eM c hs x=0 then none else some ((eM c hs x:Nat):Int):=by
 refine(BC hs [] x).trans ?_;induction h:hs.any fun p=>bx (dR c p.1)==x with
 |true=>
  obtain⟨p,hp,hb⟩:=List.any_eq_true.mp h;have :eM c hs x≠0:=fun e=>by have :=List.length_eq_zero_iff.mp e;exact absurd (List.mem_filter.mpr ⟨hp,hb⟩) (this▸(List.not_mem_nil))
  rw[if_pos rfl,if_neg this]
 |false=>
  have :eM c hs x=0:=by unfold eM;rw[List.filter_eq_nil_iff.mpr fun p hp=>by have :=List.any_eq_false.mp h p hp;exact this];rfl
  refine(if_pos this)▸?_;rfl
theorem u7:((Em c hs).map (·.1)).Nodup:=by
 obtain key:∀(k:List (List Nat×Int)) (D:List (Str×Int)),(D.map (·.1)).Nodup→((k.foldl (fun D p=>aP D (bx (dR c p.1)) ((uX c (dR c p.1) hs:Nat):Int)) D).map (·.1)).Nodup:=by
  intro k;induction k with |nil=>intro D h;exact h|cons p r ih=>intro D h;exact ih _ (j_ _ _ _ h)
 exact key hs [] List.nodup_nil
theorem BD(hr:∀r∈runs,r.1.Nodup):cF c (dO c runs) (sZ c runs):=by
 have ho:∀p∈dO c runs,own c p.1=fU p.1 (p.1.idxOf c):=fun p hp=>BA (hr p (wX hp).1) (List.contains_iff_mem.mp (wX hp).2)
 refine⟨?_,rfl,?_,rfl,u7,yu⟩
 ·exact congrArg List.sum (List.map_congr_left ho)
 ·exact congrArg List.sum (List.map_congr_left fun p hp=>by rw[ho p hp])
end
section
variable{c:Nat}{runs hs:List (List Nat×Int)}
noncomputable abbrev vS(d:List (Str×Int)):Int:=(d.map (·.2)).sum
theorem EK(d:List (Str×Int))(x:Str)(v:Int):vS (aP d x v)=vS d+v-(d.lookup x).getD 0:=by
 induction d with
 |nil=>exact yJ (nat_lit 0x90098c0908a510) ae|cons p r ih=>
  rw[List.lookup_cons];show vS (bif x==p.1 then(p.1,v)::r else p::aP r x v)=(p.2+vS r)+v-_;induction hb:x==p.1 with |true=>refine(?_:v+vS r=p.2+vS r+v-p.2);lia|false=>refine(?_:p.2+vS (aP r x v)=p.2+vS r+v-(r.lookup x).getD 0);exact ih▸(Iz.go (nat_lit 0x321088c3218c08a510) [] [_,_,_,_] ae)
theorem BE(t:List (Str×Int))(p:Str×Int):vS (put2 t p)=vS t+p.2:=by
 unfold put2;rw[EK];induction h:t.lookup p.1 with |some w=>refine(?_:vS t+(w+p.2)-w=_);lia|none=>exact UY (nat_lit 290310002091280) ae
theorem tu(t s:List (Str×Int))(ht:(t.map (·.1)).Nodup):vS (gZ t s)=vS t+vS s:=by
 unfold gZ;rw[iz t [] ht,List.nil_append];clear ht;induction s generalizing t with |nil=>exact(Int.add_zero _).symm|cons p r ih=>simp only[List.foldl_cons,ih,BE];exact Iz.go (nat_lit 9429970342946064) [] [_,_,_] ae
theorem tw(hs pre:List (List Nat×Int))(s:St)(h:cF c pre s)(k:vS s.cs=pre.length):vS (hs.foldl (qH c) s).cs=(pre++hs).length:=by
 induction hs generalizing pre s with |nil=>rw[List.append_nil];exact k|cons r rs ih=>obtain q:=ih (pre++[r]) (qH c s r) (h.step r) (by show vS (gZ s.cs [(bx (dR c r.1),1)])=_;simp only[tu _ _ h.nd,k,List.length_append];rfl);rw[List.append_assoc] at q;exact q
theorem yv(hr:∀r∈runs,r.1.Nodup):vS ((aL (bU (runs.take 2)) c).add (aL (bU (runs.drop 2)) c)).cs=(dO c runs).length:=by
 obtain n1:=fun r h=>hr r (List.mem_of_mem_take h)
 obtain n2:=fun r h=>hr r (List.mem_of_mem_drop h)
 obtain e1:=tw (dO c (runs.take 2)) [] bH u4 rfl;obtain e2:=tw (dO c (runs.drop 2)) [] bH u4 rfl;rw[←j9 _ n1 c] at e1;rw[←j9 _ n2 c] at e2;show vS (gZ _ _)=_;simp only[List.nil_append] at e1 e2;obtain e3:=congrArg List.length (tq (c:=c) (runs:=runs) 2);rw[List.length_append] at e3;simp only[tu _ _ (i4 _ n1).nd,e1,e2,←e3,Int.natCast_add]
end
theorem nG{α:Type}[DecidableEq α]{a b:List α}(ha:a.Nodup)(hb:b.Nodup)(h:∀x,x∈a↔x∈b):a.Perm b:=by
 induction a generalizing b with
 |nil=>induction b with |nil=>exact .refl _|cons x r=>exact nomatch (h x).mpr (.head _)
 |cons x a ih=>obtain hx:=(h x).mp (.head _);refine(List.Perm.cons x (ih (lE ha).2 (hb.erase x) fun y=>?_)).trans (List.perm_cons_erase hx).symm;rw[hb.mem_erase_iff,←h y,List.mem_cons];exact⟨fun hy=>⟨fun e=>(lE ha).1 (e▸hy),.inr hy⟩,fun hy=>hy.2.resolve_left hy.1⟩
theorem tB(f:V→V→Option Bool)(hf:∀i:Int,f (.int i) (.int i)=some true)(b:List (Str×Int)):∀a:List (Str×Int),(∀p∈a,b.lookup p.1=some p.2)→veqd f (aI V.int b) (aI V.int a)=some true
|[],aM=>rfl|(x,v)::r,h=>by
 show(match (aI V.int b).lookup x with |none=>some false|some u=>match f (.int v) u,veqd f (aI V.int b) (aI V.int r) with |some p,some q=>some (p&&q)|aM,bL=>none)=_
 rw[jH V.int,h (x,v) (.head _)];show(match f (.int v) (.int v),veqd f (aI V.int b) (aI V.int r) with |some p,some q=>some (p&&q)|aM,bL=>none)=_
 rw[hf,tB f hf b r (fun p hp=>h p (.tail _ hp))];rfl
theorem BF{β:Type}{l:List (Str×β)}{p:Str×β}(hn:(l.map (·.1)).Nodup)(h:p∈l):l.lookup p.1=some p.2:=cU hn h
theorem yw(f:V→V→Option Bool)(hf:∀i:Int,f (.int i) (.int i)=some true){a b:List (Str×Int)}(ha:(a.map (·.1)).Nodup)(hb:(b.map (·.1)).Nodup)(h:∀y,a.lookup (sL y)=b.lookup (sL y)):(aI V.int a).length=(aI V.int b).length∧veqd f (aI V.int b) (aI V.int a)=some true:=by
 obtain h':∀y:Str,a.lookup y=b.lookup y:=fun y=>by exact h _
 constructor
 ·simp only[d7,d7,←List.length_map (f:=(·.1)) (as:=a),←List.length_map (f:=(·.1)) (as:=b)];refine(nG ha hb fun y=>?_).length_eq;apply Classical.byContradiction;intro hn;obtain h1:=fD a y;obtain h2:=fD b y;rw[h'] at h1;exact hn (Decidable.not_iff_not.mp (h1.symm.trans h2))
 ·refine tB f hf b a fun p hp=>?_
  rw[←h'];exact BF ha hp
theorem yx{c:Nat}{hs:List (List Nat×Int)}{s t:St}(h:cF c hs s)(k:cF c hs t)(f:V→V→Option Bool)(hf:∀i:Int,f (.int i) (.int i)=some true):(aI V.int s.cs).length=(aI V.int t.cs).length∧veqd f (aI V.int t.cs) (aI V.int s.cs)=some true:=yw f hf h.nd k.nd fun y=>(h.lk _).trans (k.lk _).symm
theorem yy{c:Nat}{hs:List (List Nat×Int)}{s t:St}(h:cF c hs s)(k:cF c hs t):s.cc=t.cc∧s.nc=t.nc∧s.tt=t.tt∧s.ct=t.ct:=⟨h.cc.trans k.cc.symm,h.nc.trans k.nc.symm,h.tt.trans k.tt.symm,h.ct.trans k.ct.symm⟩
section
variable{d:Nat}{H X:AH}{cs:List Int}{k:Nat}{mk lt af ahead:List Nat}{nm:List (List Nat)}{tv:V}{runs:List (List Nat×Int)}{K:List (Str×St)}
theorem BG(c:Nat):bI H .NotIn (aV c) (ltV ahead)=some (.bool (!decide (c∈ahead))):=by
 obtain e:ahead.map aV=(ahead.map fun c=>[c]).map bk:=by rw[List.map_map];rfl
 obtain i:=D3 H [c] (ahead.map fun c=>[c]);obtain m:decide ([c]∈ahead.map fun c=>[c])=decide (c∈ahead):=by rw[Bool.eq_iff_iff,decide_eq_true_iff,decide_eq_true_iff];exact⟨fun h=>by obtain⟨y,hy,q⟩:=tJ h;exact(List.cons.inj q).1▸hy,fun h=>yQ ⟨c,h,rfl⟩⟩
 rw[m] at i;show bI H .NotIn (aV c) (.lst (ahead.map aV))=_;rw[e];have i2:(alt (onSet (V.lst ((ahead.map fun c=>[c]).map bk)) fun xs=>av (bk [c]) fun i=>some (V.bool (xs.contains i))) ((inside H (bk [c]) (.lst ((ahead.map fun c=>[c]).map bk))).map V.bool))=some (.bool (decide (c∈ahead))):=i
 show(inside H (bk [c]) (.lst ((ahead.map fun c=>[c]).map bk))).map (fun r=>V.bool !r)=_
 revert i2
 generalize inside H (bk [c]) (.lst ((ahead.map fun c=>[c]).map bk))=o;intro i2;induction o with |none=>exact nE i2|some b=>have :b=decide (c∈ahead):=V.bool.inj (Option.some.inj i2);refine this▸?_;rfl
theorem EL{s t:St}(h:s.cc=t.cc∧s.nc=t.nc∧s.tt=t.tt∧s.ct=t.ct):bI H .NotEq (.tup [.int s.cc,.int s.nc,.int s.tt,.int s.ct]) (.tup [.int t.cc,.int t.nc,.int t.tt,.int t.ct])=some (.bool false):=by simp only[h.1,h.2.1,h.2.2.1,h.2.2.2];refine dN ?_;show some ((t.cc==t.cc)&&((t.nc==t.nc)&&((t.tt==t.tt)&&((t.ct==t.ct)&&true))))=some true;simp only[beq_self_eq_true,beq_self_eq_true,beq_self_eq_true,beq_self_eq_true];rfl
end
section
variable{d:Nat}{H X:AH}{cs:List Int}{k:Nat}{mk lt af ahead:List Nat}{nm:List (List Nat)}{tv:V}{runs:List (List Nat×Int)}{K:List (Str×St)}
abbrev F8:Stmt:=lS 25
abbrev Um:List Str:=[T "cells",T "marks",T "lexer",T "names",T "letters",T "tells",T "fall",T "runs",T "book",T "many",T "cross",T "ahead"]
theorem EM{c:Nat}(hr:∀p∈runs,p.1.length<100∧p.1≠[]∧small p.2=true)(hz:runs.length<100)(hK:F7 K c)(hS:cF c (dO c runs) (aL K c))(hD:cF c (dO c runs) (sZ c runs))(hv:vS (aL K c).cs=(dO c runs).length):
  Turn (d+8) iL (c8 F8) (c9 F8) (aV c) (wO cs mk k nm lt tv af runs K ahead) X .next (wO cs mk k nm lt tv af runs K ahead) X:=by
 obtain q:=Io (d:=d+6) (H:=X) (c:=c) hr hz;obtain it:=fV (X:=X) hK;obtain n1:=EL (H:=X) (yy hS hD);obtain cc:=eu (d:=d+6) (H:=X) (aL K c).cs;obtain n2:bI X .NotEq (.int (vS (aL K c).cs)) (.int (sZ c runs).nc)=some (.bool false):=dN (by show some (vS (aL K c).cs==(sZ c runs).nc)=_;simp only[hv,hD.nc,beq_self_eq_true]);obtain n3:=BG (H:=X) c;obtain n4:bI X .NotEq (.bf (aI V.int (aL K c).cs)) (.bf (aI V.int (sZ c runs).cs))=some (.bool false):=dN (by obtain z:=yx hS hD (jC 9 X) (Bg X);show(bif (aI V.int (aL K c).cs).length==(aI V.int (sZ c runs).cs).length then veqd (jC 9 X) (aI V.int (sZ c runs).cs) (aI V.int (aL K c).cs) else some false)=_;simp only[z.1,beq_self_eq_true,z.2];rfl);induction hb:(!decide (c∈ahead)) with |false=>rw[hb] at n3;exact az Um (.call q (.val 5 it (.val 9 n1 (.val 14 it (.call cc (.val 18 n2 (.val 22 n3 .nil)))))))|true=>rw[hb] at n3;exact az Um (.call q (.val 5 it (.val 9 n1 (.val 14 it (.call cc (.val 18 n2 (.val 22 n3 (.val 26 it (.val 30 n4 .nil)))))))))
end
section
variable{d:Nat}{X:AH}{cs:List Int}{k:Nat}{mk lt af ahead:List Nat}{nm:List (List Nat)}{tv:V}{runs:List (List Nat×Int)}{K:List (Str×St)}
theorem yz{K1 K2:List (Str×St)}(signs:List Nat)(h:signs.Nodup):(oj K1 K2 signs).map (·.1)=signs.map bx:=by
 obtain key:∀(l pre:List Nat) (D:List (Str×St)),(pre++l).Nodup→D.map (·.1)=pre.map bx→(l.foldl (fun D c=>aP D (bx c) ((aL K1 c).add (aL K2 c))) D).map (·.1)=(pre++l).map bx:=by
  intro l;induction l with
  |nil=>intro pre D _ e;rw[List.append_nil];exact e|cons c l ih=>
   intro pre D hn e;obtain hc:=fun hm=>(jE hn).2.2 c hm c (.head _) rfl
   obtain hx:bx c∉D.map (·.1):=fun hm=>by
    rw[e] at hm;obtain⟨y,hy,q⟩:=tJ hm;have :(bx y==bx c)=true:=beq_iff_eq.mpr q
    rw[bC] at this;exact hc (eq_of_beq this▸hy)
   obtain q:=ih (pre++[c]) (aP D (bx c) ((aL K1 c).add (aL K2 c))) (by rw[List.append_assoc];exact hn) (by simp only[vA D hx,List.map_append,List.map_append,e];rfl);simp only[List.append_assoc] at q;exact q
 exact key signs [] [] h rfl
theorem EN(signs:List Nat)(hT:∀c∈signs,Turn (d+8) iL (c8 F8) (c9 F8) (aV c) (wO cs mk k nm lt tv af runs K ahead) X .next (wO cs mk k nm lt tv af runs K ahead) X):
  bX (d+8) iL (c8 F8) (c9 F8) (signs.map aV) (wO cs mk k nm lt tv af runs K ahead) X .next (wO cs mk k nm lt tv af runs K ahead) X:=by
 induction signs with |nil=>exact .nil|cons c r ih=>exact(hT c (.head _)).next (.inl rfl) (ih fun x hx=>hT x (.tail _ hx))
end
section
variable{d:Nat}{X:AH}{cs:List Int}{k:Nat}{mk lt af ahead:List Nat}{nm:List (List Nat)}{tv:V}{runs:List (List Nat×Int)}{K:List (Str×St)}
theorem Nu(signs:List Nat)(hk:K.map (·.1)=signs.map bx)(hT:∀c∈signs,Turn (d+8) iL (c8 F8) (c9 F8) (aV c) (wO cs mk k nm lt tv af runs K ahead) X .next (wO cs mk k nm lt tv af runs K ahead) X):
  LX d 25 (wO cs mk k nm lt tv af runs K ahead) X .next (wO cs mk k nm lt tv af runs K ahead) X:=by
 obtain lp:=EN signs hT;obtain e:signs.map aV=(aI St.enc K).map fun kv=>V.str kv.1:=by obtain h:=congrArg (List.map V.str) hk;simp only[List.map_map,List.map_map] at h;unfold aI;rw[List.map_map];exact h.symm
 obtain lp:=e▸lp;exact bK (.loop lp .nil)
end
section
variable{nm:List (List Nat)}{od:List Nat}{x y a b:Nat}
theorem ia(p:Bool×Bool):(nm.map (knd x y)).any (·==p)=true↔∃n∈nm,n.contains x=p.1∧n.contains y=p.2:=by
 rw[List.any_map,List.any_eq_true];refine⟨fun⟨n,h,k⟩=>⟨n,h,?_⟩,fun⟨n,h,k,l⟩=>⟨n,h,?_⟩⟩
 ·obtain k:=eq_of_beq k;exact k▸⟨rfl,rfl⟩
 ·exact beq_iff_eq.mpr (Prod.ext k l)
theorem ID(L:List Nat)(hs:∀p∈L,(nm.getD p []).contains a=true→(nm.getD p []).contains b=true):wv nm a L≤wv nm b L∧(wv nm b L≤wv nm a L→∀p∈L,(nm.getD p []).contains b=true→(nm.getD p []).contains a=true):=by
 induction L with
 |nil=>exact⟨Nat.le_refl _,fun c c h=>nomatch h⟩|cons p r ih=>
  obtain⟨h1,h2⟩:=ih fun q h=>hs q (.tail _ h)
  have h0:=hs p (.head _);have hp:0<2^r.length:=Nat.pow_pos (by decide)
  unfold wv;induction ha:(nm.getD p []).contains a with
  |true=>
   rw[h0 ha,if_pos rfl];refine⟨Nat.add_le_add_left h1 _,fun h q hq hb=>?_⟩;rcases bz hq with rfl|hq
   ·exact ha
   ·exact h2 (Nat.le_of_add_le_add_left h) q hq hb
  |false=>
   rw[if_neg Bool.false_ne_true];induction hb:(nm.getD p []).contains b with
   |true=>rw[if_pos rfl];exact⟨aQ (nat_lit 83317245959209217) ae h1,fun h=>absurd h (aQ (nat_lit 0x9096120981080000911120120981080104) ae h h1 hp)⟩|false=>
    rw[if_neg Bool.false_ne_true];refine⟨Nat.add_le_add_left h1 _,fun h q hq C5=>?_⟩;rcases bz hq with rfl|hq
    ·rw[hb] at C5;exact bE C5
    ·exact h2 (Nat.le_of_add_le_add_left h) q hq C5
theorem Nv(ho:od.Perm (List.range nm.length))(hw:wv nm b od≤wv nm a od)(hs:∀n∈nm,n.contains a=true→n.contains b=true):∀n∈nm,n.contains b=true→n.contains a=true:=fun n hn hb=>by
 obtain⟨i,hi,rfl⟩:=List.getElem_of_mem hn;obtain e:∀p,p<nm.length→nm.getD p []∈nm:=fun p hp=>by rw[List.getD_eq_getElem?_getD,List.getElem?_eq_getElem hp];exact List.getElem_mem hp
 obtain q:=(ID od fun p hp=>hs _ (e p (List.mem_range.mp (ho.mem_iff.mp hp)))).2 hw i (ho.mem_iff.mpr (List.mem_range.mpr hi));rw[List.getD_eq_getElem?_getD,List.getElem?_eq_getElem hi] at q;exact q hb
theorem tC(ho:od.Perm (List.range nm.length))(hw:wv nm x od≤wv nm y od)(h:qC x y nm=false){n m:List Nat}(hn:n∈nm)(hm:m∈nm)(hx:n.contains x=true)(kx:m.contains x=true):n.contains y=m.contains y:=by
 apply Classical.byContradiction;intro ne;obtain key:∀n m:List Nat,n∈nm→m∈nm→n.contains x=true→m.contains x=true→n.contains y=true→m.contains y=false→False:=fun n m hn hm hx kx hy ky=>by
  obtain t1:=(ia (true,true)).mpr ⟨n,hn,hx,hy⟩;obtain t2:=(ia (true,false)).mpr ⟨m,hm,kx,ky⟩;unfold qC at h;simp only[t1,t2,Bool.true_and,Bool.true_and] at h;obtain q:=Nv ho hw (fun w hw W_=>by
   induction Xa:w.contains x with |true=>rfl|false=>exact bE (h.symm.trans ((ia (false,true)).mpr ⟨w,hw,Xa,W_⟩))) m hm kx
  exact bE (ky.symm.trans q)
 induction hy:n.contains y<;>induction ky:m.contains y
 ·exact ne (hy.trans ky.symm)
 ·exact key m n hm hn kx hx ky hy
 ·exact key n m hn hm hx kx hy ky
 ·exact ne (hy.trans ky.symm)
theorem EO(h:qC x y nm=true):(∃n∈nm,n.contains x=true∧n.contains y=true)∧(∃n∈nm,n.contains x=true∧n.contains y=false):=by obtain h:=Bool.and_eq_true_iff.mp h;exact⟨(ia (true,true)).mp h.1,(ia (true,false)).mp (Bool.and_eq_true_iff.mp h.2).1⟩
theorem EP{c:Nat}(A B:List Nat)(h:c∉A):dR c (A++c::B)=A.getLastD 126:=by
 obtain e:(A++c::B).idxOf c=A.length:=by rw[List.idxOf_append,if_neg h,List.idxOf_cons,beq_self_eq_true];exact Nat.zero_add _
 unfold dR;simp only[e,List.getLastD_eq_getLast?,List.getD_eq_getElem?_getD];show((126::A)++c::B)[A.length]?.getD 0=_;rw[List.getElem?_append_left (Nat.lt_succ_self _)];induction A with |nil=>rfl|cons a A=>rw[List.getLast?_eq_getElem?,List.length_cons,List.getElem?_cons_succ,Nat.add_sub_cancel,List.getElem?_eq_getElem (Nat.lt_succ_self _)];rfl
end
section
variable{nm:List (List Nat)}{od l r:List Nat}{x:Nat}
theorem u9{n:List Nat}(hl:x∉l)(qL:x≠47)(hx:n.contains x=true):dR x (cN (l++x::r) n)=(cN l n).getLastD 126:=by
 obtain e:cN (l++x::r) n=cN l n++x::r.filter fun c=>n.contains c:=by unfold cN;simp only[List.filter_append,List.filter_cons_of_pos hx];rfl
 rw[e];exact EP _ _ fun h=>(bz h).elim qL fun h=>hl (List.mem_filter.mp h).1
structure Line(nm:List (List Nat))(od l:List Nat):Prop where
 ord:od.Perm (List.range nm.length)
 down:l.Pairwise fun a b=>wv nm b od≤wv nm a od
 nd:l.Nodup
 no:47∉l
theorem wQ(L:Line nm od (l++x::r))(h:∀y∈l,qC x y nm=false){n m:List Nat}(hn:n∈nm)(hm:m∈nm)(hx:n.contains x=true)(kx:m.contains x=true):cN l n=cN l m:=by refine congrArg (47::·) (List.filter_congr fun y hy=>?_);exact tC L.ord ((List.pairwise_append.mp L.down).2.2 y hy x (.head _)) (h y hy) hn hm hx kx
theorem ER(L:Line nm od (l++x::r))(hp:l.Pairwise fun y z=>qC z y nm=false){y:Nat}(hy:y∈l)(h:qC x y nm=true):∃n∈nm,∃m∈nm,n.contains x=true∧m.contains x=true∧(cN l n).getLastD 126≠(cN l m).getLastD 126:=by
 obtain⟨⟨n,hn,nx,ny⟩,⟨m,hm,mx,my⟩⟩:=EO h;refine⟨n,hn,m,hm,nx,mx,fun e=>?_⟩;obtain Xb:∀z∈l,z≠47:=fun z hz q=>L.no (q▸List.mem_append_left _ hz)
 obtain hd:=(List.pairwise_append.mp L.down).1;obtain gl:∀(a:Nat) (b:List Nat),(a::b).getLastD 126∈a::b:=fun a b=>by exact List.getLast_mem _
 obtain lm:=gl 47 (l.filter fun c=>m.contains c);obtain⟨l1,l2,rfl⟩:=List.append_of_mem hy;have z1:(cN (l1++y::l2) n).getLastD 126∈y::l2.filter fun c=>n.contains c:=by
  obtain e2:cN (l1++y::l2) n=cN l1 n++y::l2.filter fun c=>n.contains c:=by unfold cN;simp only[List.filter_append,List.filter_cons_of_pos ny];rfl
  simp only[e2,List.getLastD_eq_getLast?,List.getLast?_append,List.getLast?_eq_some_getLast (List.cons_ne_nil _ _)];exact List.getLast_mem _
 rw[e] at z1;have hz:∀z,z∈47::(l1++y::l2).filter (fun c=>m.contains c)→z∈y::l2.filter (fun c=>n.contains c)→False:=fun z k1 k2=>by
  have mz:m.contains z=true:=by
   rcases bz k1 with rfl|k1
   ·exact absurd rfl (Xb 47 (List.mem_append_right _ ((bz k2).elim (fun q=>q▸.head _) fun q=>.tail _ (List.mem_filter.mp q).1)))
   ·exact(List.mem_filter.mp k1).2
  rcases bz k2 with rfl|k2
  ·exact nomatch mz.symm.trans my
  ·obtain⟨k3,nz⟩:=List.mem_filter.mp k2;obtain c0:=(List.pairwise_cons.mp (List.pairwise_append.mp hp).2.1).1 z k3;obtain w0:=(List.pairwise_cons.mp (List.pairwise_append.mp hd).2.1).1 z k3;exact nomatch (ny.symm.trans (tC L.ord w0 c0 hn hm nz mz)).trans my
 exact hz _ lm z1
theorem yC{α:Type}{P Q:α→Bool}{f:α→Nat}{d:Nat}(L:List α)(h:∀(j:Nat) (hj:j<L.length),(∀i (hi:i<j),Q (L[i]'(Nat.lt_trans hi hj))=false)→P L[j]=Q L[j]):((L.filter P).map f++[d]).headD 0=((L.filter Q).map f++[d]).headD 0:=by
 induction L with
 |nil=>rfl|cons a L ih=>
  obtain h0:P a=Q a:=h 0 (Nat.succ_pos _) fun i hi=>nomatch hi
  simp only[List.filter_cons,List.filter_cons,h0];induction hq:Q a with
  |true=>rfl|false=>
   refine ih fun j hj hi=>h (j+1) (Nat.succ_lt_succ hj) fun i k=>?_
   induction i with |zero=>exact hq|succ i=>exact hi i (Nat.lt_of_succ_lt_succ k)
end
section
variable{nm:List (List Nat)}{od af l r:List Nat}{x c:Nat}{cs:List Int}{hs:List (List Nat×Int)}{s:St}{K:List (Str×St)}
theorem ES{a b:Nat}(h:bx a=bx b):a=b:=eq_of_beq ((bC a b).symm.trans (beq_iff_eq.mpr h))
theorem cF.key(h:cF c hs s)(y:Str):y∈s.cs.map (·.1)↔∃p∈hs,bx (dR c p.1)=y:=by
 obtain e:=fD s.cs y;rw[h.lk y] at e;have e2:eM c hs y=0↔¬∃p∈hs,bx (dR c p.1)=y:=by unfold eM;rw[List.length_eq_zero_iff,List.filter_eq_nil_iff];exact⟨fun h ⟨p,hp,q⟩=>h p hp (beq_iff_eq.mpr q),fun h p hp q=>h ⟨p,hp,eq_of_beq q⟩⟩
 rw[←Decidable.not_not (p:=y∈s.cs.map (·.1)),←e];by_cases h0:eM c hs y=0
 ·rw[if_pos h0];exact⟨fun q=>absurd rfl q,fun q=>absurd q (e2.mp h0)⟩
 ·rw[if_neg h0];exact⟨fun a=>Classical.byContradiction fun k=>h0 (e2.mpr k),fun a q=>nomatch q⟩
theorem cF.one{z:Nat}(h:cF c hs s)(h0:hs≠[])(hz:∀p∈hs,dR c p.1=z):s.cs.map (·.1)=[bx z]:=by
 obtain⟨p,hp⟩:=List.exists_mem_of_ne_nil hs h0;obtain m:=(h.key _).mpr ⟨p,hp,congrArg bx (hz p hp)⟩;obtain u:∀y∈s.cs.map (·.1),y=bx z:=fun y hy=>by obtain⟨q,hq,e⟩:=(h.key y).mp hy;rw[←e,hz q hq]
 obtain nd:=h.nd
 revert m u nd
 generalize s.cs.map (·.1)=ks;intro m u nd;induction ks with |nil=>exact nomatch m|cons a r=>induction r with |nil=>rw[u a (.head _)]|cons b r=>exact absurd ((u a (.head _)).trans (u b (.tail _ (.head _))).symm) fun e=>(lE nd).1 (e▸.head _)
theorem cF.two{p q:List Nat×Int}(h:cF c hs s)(hp:p∈hs)(hq:q∈hs)(hn:dR c p.1≠dR c q.1):s.cs.length≠1:=fun e=>by
 rw[←List.length_map] at e;obtain m1:=(h.key _).mpr ⟨p,hp,rfl⟩;obtain m2:=(h.key _).mpr ⟨q,hq,rfl⟩
 revert e m1 m2
 generalize s.cs.map (·.1)=ks;intro e m1 m2;obtain⟨a,rfl⟩:=List.length_eq_one_iff.mp e;exact hn (ES ((List.mem_singleton.mp m1).trans (List.mem_singleton.mp m2).symm))
theorem nH{n:List Nat}(qL:x≠47)(hx:x∈af):(cN af n).contains x=n.contains x:=by rw[Bool.eq_iff_iff,List.contains_iff_mem];exact⟨fun h=>(List.mem_filter.mp ((bz h).resolve_left qL)).2,fun h=>.tail _ (List.mem_filter.mpr ⟨hx,h⟩)⟩
theorem BH{p:List Nat×Int}:p∈aT cs af nm→∃n∈nm,p.1=cN af n:=fun h=>by obtain⟨q,hq,rfl⟩:=tJ h;exact⟨q.1,by obtain this:=(List.mem_zipIdx hq).2.2;rw[this];exact List.getElem_mem _,rfl⟩
theorem ET{n:List Nat}(h:n∈nm):∃p∈aT cs af nm,p.1=cN af n:=by obtain⟨i,hi,rfl⟩:=List.getElem_of_mem h;exact⟨_,List.mem_map.mpr ⟨(nm[i],i),List.mem_zipIdx_iff_getElem?.mpr (List.getElem?_eq_getElem hi),rfl⟩,rfl⟩
theorem u_{n:List Nat}(qL:x≠47)(hx:x∈af)(hn:n∈nm)(nx:n.contains x=true):∃p∈dO x (aT cs af nm),p.1=cN af n:=by obtain⟨p,hp,e⟩:=ET hn;exact⟨p,List.mem_filter.mpr ⟨hp,by rw[e,nH qL hx,nx]⟩,e⟩
theorem EU{p:List Nat×Int}(qL:x≠47)(hx:x∈af)(hp:p∈dO x (aT cs af nm)):∃n∈nm,n.contains x=true∧p.1=cN af n:=by
 refine(List.mem_filter.mp hp).elim fun h1 h2=>?_
 obtain⟨n,hn,e⟩:=BH h1;exact⟨n,hn,by rw[←nH qL hx,←e,h2],e⟩
theorem BI(L:Line nm od (l++x::r))(hS:cF x (dO x (aT cs (l++x::r) nm)) s)(h:∀y∈l,qC x y nm=false){n:List Nat}(hn:n∈nm)(nx:n.contains x=true):s.cs.map (·.1)=[bx ((cN l n).getLastD 126)]:=by
 have hx:x∈l++x::r:=List.mem_append_right _ (.head _);have qL:x≠47:=fun e=>L.no (e▸hx)
 have hl:=fun h=>(jE L.nd).2.2 x h x (.head _) rfl
 refine hS.one (fun e=>?_) fun p hp=>?_
 ·obtain⟨p,hp,_⟩:=u_ qL hx hn nx;rw[e] at hp;exact nomatch hp
 ·obtain⟨m,hm,mx,e⟩:=EU qL hx hp;simp only[e,u9 hl qL mx,wQ L h hm hn mx nx]
theorem IE(L:Line nm od (l++x::r))(hS:cF x (dO x (aT cs (l++x::r) nm)) s)(hp:l.Pairwise fun y z=>qC z y nm=false){y:Nat}(hy:y∈l)(h:qC x y nm=true):s.cs.length≠1:=by
 have hx:x∈l++x::r:=List.mem_append_right _ (.head _);have qL:x≠47:=fun e=>L.no (e▸hx)
 have hl:=fun h=>(jE L.nd).2.2 x h x (.head _) rfl
 obtain⟨n,hn,m,hm,nx,mx,ne⟩:=ER L hp hy h;obtain⟨p,hp,ep⟩:=u_ qL hx hn nx;obtain⟨q,hq,eq⟩:=u_ qL hx hm mx;exact hS.two hp hq (by simp only[ep,eq,u9 hl qL nx,u9 hl qL mx];exact ne)
theorem BJ{α:Type}(f:List α)(j:Nat)(hj:j<f.length):f=f.take j++f[j]::f.drop (j+1):=by simp only[←List.drop_eq_getElem_cons hj,List.take_append_drop]
theorem wR{j:Nat}(h:(!(qK af nm x j).isEmpty)=false):∀y∈af.take j,qC x y nm=false:=fun y hy=>by
 obtain h:=List.isEmpty_iff.mp (Bool.not_eq_false' ..▸h:(qK af nm x j).isEmpty=true);induction hc:qC x y nm with |false=>rfl|true=>exact absurd (List.mem_filter.mpr ⟨hy,hc⟩) (h▸List.not_mem_nil)
theorem wU{j:Nat}(hj:j≤af.length)(h:∀i (hi:i<j),(!(qK af nm (af[i]'(Nat.lt_of_lt_of_le hi hj)) i).isEmpty)=false):(af.take j).Pairwise fun y z=>qC z y nm=false:=by
 refine List.pairwise_iff_getElem.mpr fun a b ha hb F5=>?_
 rw[List.length_take] at ha hb;simp only[List.getElem_take,List.getElem_take];refine wR (h b (Ln.go (nat_lit 0x30113101101102) [_,_,0,_] ae hb (Nat.min_le_left (j) (af.length)))) _ ?_;exact List.mem_take_iff_getElem.mpr ⟨a,by lia,rfl⟩
theorem vc(L:Line nm od af)(ho:∀c∈af,∃n∈nm,n.contains c=true)(hS:∀c∈af,cF c (dO c (aT cs af nm)) (aL K c)):(kO K af).headD 0=qG af nm:=by
 refine yC _ fun j hj hi=>?_
 rw[List.length_zipIdx] at hj;obtain hi:=fun i k=>by obtain this:=hi i k;simp only[List.getElem_zipIdx,Nat.zero_add] at this;exact this
 simp only[List.getElem_zipIdx,Nat.zero_add];obtain hx:=List.getElem_mem _;obtain e:=BJ af j hj;obtain S:=hS _ hx;have L2:=L
 rw[e] at L2;have S2:cF af[j] (dO af[j] (aT cs (af.take j++af[j]::af.drop (j+1)) nm)) (aL K af[j]):=e▸S
 induction hq:!(qK af nm af[j] j).isEmpty with
 |false=>obtain⟨n,hn,nx⟩:=ho _ hx;obtain k:=BI L2 S2 (wR hq) hn nx;obtain k2:=congrArg List.length k;simp only[List.length_map] at k2;rw[k2];rfl
 |true=>obtain⟨y,hy⟩:=List.exists_mem_of_ne_nil _ (fun k=>by rw[k] at hq;exact nomatch hq:qK af nm af[j] j≠[]);obtain⟨y1,y2⟩:=List.mem_filter.mp hy;rw[decide_eq_false (IE L2 S2 (wU (Nat.le_of_lt hj) hi) y1 y2)];rfl
end
section
variable{nm:List (List Nat)}{od al l r:List Nat}{x c:Nat}
structure Tree(nm:List (List Nat))(od al:List Nat):Prop extends Line nm od al where
 pw:al.Pairwise fun y z=>qC z y nm=false
 Xc:∀c∈al,∃n∈nm,n.contains c=true
theorem yD(a:List Nat)(b:Nat):(a++[b]).getLastD 126=b:=by rw[List.getLastD_eq_getLast?,List.getLast?_append];rfl
def EV(nm:List (List Nat))(al:List Nat)(c:Nat):List Nat:=cN (al.takeWhile (·!=c)) ((nm.find? (·.contains c)).getD [])
def gx(nm:List (List Nat))(al:List Nat)(c:Nat):List Nat:=if c=47 then [47] else EV nm al c++[c]
def par(nm:List (List Nat))(al:List Nat)(c:Nat):Nat:=(EV nm al c).getLastD 126
theorem IF{l r:List Nat}(h:c∉l):(l++c::r).takeWhile (·!=c)=l:=by
 induction l with
 |nil=>simp only[List.nil_append,List.takeWhile_cons,bne_self_eq_false];rfl|cons a l ih=>
  obtain ha:(a !=c)=true:=bne_iff_ne.mpr fun e=>h (e▸.head _)
  rw[List.cons_append,List.takeWhile_cons,ha,if_pos rfl,ih fun k=>h (.tail _ k)]
theorem Tree.mid(t:Tree nm od (l++c::r)):c≠47∧c∉l∧c∉r:=by refine⟨fun e=>t.no (e▸List.mem_append_right _ (.head _)),fun h=>(jE t.nd).2.2 c h c (.head _) rfl,(lE (jE t.nd).2.1).1⟩
theorem Tree.pre(t:Tree nm od (l++c::r)){n:List Nat}(hn:n∈nm)(nc:n.contains c=true):EV nm (l++c::r) c=cN l n:=by
 unfold EV;rw[IF t.mid.2.1];induction hf:nm.find? (·.contains c) with |none=>exact absurd nc (List.find?_eq_none.mp hf n hn)|some m=>exact wQ t.1 (fun y hy=>(List.pairwise_append.mp t.pw).2.2 y hy c (.head _)) (List.mem_of_find?_eq_some hf) hn (List.find?_some (p:=fun n:List Nat=>n.contains c) hf) nc
theorem wV(al n:List Nat):((cN al n).getLastD 126=47∧cN al n=[47])∨∃l r,al=l++(cN al n).getLastD 126::r∧n.contains ((cN al n).getLastD 126)=true∧cN al n=cN l n++[(cN al n).getLastD 126]:=by
 unfold cN;rcases List.eq_nil_or_concat (al.filter fun c=>n.contains c) with h|⟨F,z,h⟩
 ·rw[h];exact .inl ⟨rfl,rfl⟩
 ·refine .inr ?_;obtain e:(47::(F++[z])).getLastD 126=z:=yD (47::F) z;rw[h,List.concat_eq_append,e];refine(List.filter_eq_append_iff.mp (h.trans List.concat_eq_append)).elim fun l1 z5=>?_;refine z5.elim fun l2 z6=>?_;obtain e1:=z6.1;obtain e2:=z6.2.1;obtain e3:=z6.2.2
  refine(List.filter_eq_cons_iff.mp e3).elim fun a Qg=>?_;refine Qg.elim fun b K_=>?_;obtain e4:=K_.1;obtain e5:=K_.2.1;obtain e6:=K_.2.2.1
  refine⟨l1++a,b,by rw[e1,e4,List.append_assoc],e6,?_⟩;simp only[List.filter_append,e2,List.filter_eq_nil_iff.mpr e5,List.append_nil];rfl
theorem Tree.path(t:Tree nm od (l++c::r)):par nm (l++c::r) c∈47::l∧gx nm (l++c::r) c=gx nm (l++c::r) (par nm (l++c::r) c)++[c]:=by
 refine(t.Xc c (List.mem_append_right _ (.head _))).elim fun n z=>z.elim fun hn nc=>?_
 obtain e:=t.pre hn nc;obtain pc:gx nm (l++c::r) c=cN l n++[c]:=(if_neg t.mid.1).trans (congrArg (·++[c]) e);rw[show par nm (l++c::r) c=(cN l n).getLastD 126 from congrArg (·.getLastD 126) e,pc];rcases wV l n with ⟨h1,h2⟩|⟨l1,l2,h1,ny,h2⟩
 ·refine h2▸?_;exact⟨.head _,congrArg (·++[c]) (if_pos rfl).symm⟩
 ·revert h1 ny h2
  generalize (cN l n).getLastD 126=y;rintro rfl ny h2;refine⟨.tail _ (List.mem_append_right _ (.head _)),congrArg (·++[c]) ?_⟩;obtain ea:=List.append_assoc ..;rw[ea] at t⊢;exact(h2.trans (congrArg (·++[y]) (t.pre hn ny).symm)).trans (if_neg t.mid.1).symm
end
section
variable{nm:List (List Nat)}{od al l r:List Nat}{c:Nat}
def kids(nm:List (List Nat))(al:List Nat)(c:Nat):List Nat:=al.filter fun z=>par nm al z==c
theorem Tree.run(t:Tree nm od al){n:List Nat}(hn:n∈nm):cN al n=gx nm al ((cN al n).getLastD 126)∧(cN al n).getLastD 126∈47::al:=by
 rcases wV al n with ⟨h1,h2⟩|⟨l1,l2,h1,ny,h2⟩
 ·exact h2▸(⟨(if_pos rfl).symm,.head _⟩)
 ·revert h1 ny h2
  generalize (cN al n).getLastD 126=y;rintro rfl ny h2;exact⟨(h2.trans (congrArg (·++[y]) (t.pre hn ny).symm)).trans (if_neg t.mid.1).symm,.tail _ (List.mem_append_right _ (.head _))⟩
theorem chain_count(f:Nat→Nat)(F:List Nat)(a:Nat)(hn:(a::F).Nodup)(hf:∀l z r,F=l++z::r→f z=(a::l).getLastD 126):(if(a::F).contains c then 1 else 0)=(if(a::F).getLastD 126==c then 1 else 0)+(F.filter fun z=>f z==c).length:=by
 induction F generalizing a with
 |nil=>refine(?_:(if(c==a||false)=true then 1 else 0)=(if(a==c)=true then 1 else 0)+0);rw[Bool.or_false,Nat.add_zero,BEq.comm]|cons b F ih=>
  obtain n1:=(lE hn).1;obtain n2:=(lE hn).2;obtain ih:=ih b n2 fun l z r e=>(hf (b::l) z r (congrArg (b::·) e)).trans rfl
  obtain hb:f b=a:=hf [] b F rfl;rw[List.filter_cons,hb];by_cases hc:a=c
  ·subst hc;simp only[List.contains_cons,beq_self_eq_true,Bool.true_or,if_pos rfl,if_pos rfl,List.length_cons];rw[if_neg fun h=>n1 (List.contains_iff_mem.mp h)] at ih;exact aA (nat_lit 0x1918081925108092411) ae ih
  ·simp only[List.contains_cons,beq_false_of_ne fun e=>hc e.symm,Bool.false_or,beq_false_of_ne hc,if_neg Bool.false_ne_true];exact ih
theorem Tree.word(t:Tree nm od al){n:List Nat}(hn:n∈nm):(if(cN al n).contains c then 1 else 0)=(if(cN al n).getLastD 126==c then 1 else 0)+((kids nm al c).filter fun z=>n.contains z).length:=by
 have e:(kids nm al c).filter (fun z=>n.contains z)=(al.filter fun z=>n.contains z).filter fun z=>par nm al z==c:=by unfold kids;rw[List.filter_filter,List.filter_filter];exact List.filter_congr fun z d=>Bool.and_comm ..
 rw[e];refine chain_count (par nm al) _ 47 ?_ fun F z G h=>?_
 ·exact List.nodup_cons.mpr ⟨fun h=>t.no (List.mem_filter.mp h).1,t.nd.filter _⟩
 ·obtain⟨l1,l2,e1,e2,e3⟩:=List.filter_eq_append_iff.mp h;obtain⟨a,b,e4,e5,e6,e7⟩:=List.filter_eq_cons_iff.mp e3;have ea:al=(l1++a)++z::b:=by rw[e1,e4,List.append_assoc]
  subst ea;refine(congrArg (·.getLastD 126) (t.pre hn e6)).trans ?_;unfold cN;rw[List.filter_append,e2,List.filter_eq_nil_iff.mpr e5,List.append_nil]
theorem sum_cons{α:Type}(C:α→Nat→Bool)(ks:List Nat)(n:α)(ms:List α):(ks.map fun z=>((n::ms).filter fun n=>C n z).length).sum=(ks.filter (C n)).length+(ks.map fun z=>(ms.filter fun n=>C n z).length).sum:=by
 induction ks with |nil=>rfl|cons k ks ih=>rw[List.map_cons,List.sum_cons,ih,List.filter_cons,List.filter_cons];induction C n k<;>skip<;>(first|exact aQ (nat_lit 9149595003659536) ae|exact aQ (nat_lit 0x20819188218190882510) ae)
theorem BK{α:Type}(A B:α→Bool)(C:α→Nat→Bool)(ks:List Nat)(ms:List α)(h:∀n∈ms,(if A n then 1 else 0)=(if B n then 1 else 0)+(ks.filter (C n)).length):(ms.filter A).length=(ms.filter B).length+(ks.map fun z=>(ms.filter fun n=>C n z).length).sum:=by
 induction ms with
 |nil=>
  clear h;induction ks with |nil=>rfl|cons k ks ih=>exact ih.trans (congrArg (0+·) (Nat.zero_add _).symm)
 |cons n ms ih=>
  obtain ih:=ih fun m hm=>h m (.tail _ hm)
  obtain h0:=h n (.head _);rw[sum_cons,List.filter_cons,List.filter_cons];induction hA:A n<;>induction hB:B n<;>rw[hA,hB] at h0<;>skip<;>(first|exact eO (nat_lit 0x308281250098092432812512) ae ih h0|exact eO (nat_lit 0x308192881250198092432812512) ae ih h0|exact eO (nat_lit 0x308281918250098192532812512) ae ih h0|exact eO (nat_lit 0x308192881918250198192432812512) ae ih h0)
theorem Tree.count(t:Tree nm od al)(c:Nat):(nm.filter fun n=>(cN al n).contains c).length=(nm.filter fun n=>(cN al n).getLastD 126==c).length+((kids nm al c).map fun z=>(nm.filter fun n=>n.contains z).length).sum:=BK _ _ _ _ _ fun a hn=>t.word hn
end
noncomputable def BL(kd:Nat→List Nat)(k:Nat):List Nat→List Nat:=Nat.rec (fun a=>[]) (fun a ih Q=>Q.head?.elim [] fun c=>c::ih (Q.tail++kd c)) k
section
variable{nm:List (List Nat)}{od al V Q:List Nat}{c h:Nat}
def kc(nm:List (List Nat))(al:List Nat)(c:Nat):Nat:=num al (gx nm al c).tail
theorem Tree.Xd(t:Tree nm od al)(hc:c∈al):kc nm al c=kc nm al (par nm al c)* 8+al.idxOf c+1:=by
 obtain⟨l,r,rfl⟩:=List.append_of_mem hc;obtain e:=t.path.2;unfold kc;refine e▸?_;obtain ne:∀y,∃z,gx nm (l++c::r) y=47::z:=fun y=>by
  unfold gx;by_cases hy:y=47
  ·rw[if_pos hy];exact⟨_,rfl⟩
  ·rw[if_neg hy];exact⟨_,rfl⟩
 refine(ne (par nm (l++c::r) c)).elim fun z hz=>?_
 rw[hz];show num (l++c::r) (z++[c])=_;unfold num;simp only[List.foldl_append];rfl
structure Inv(nm:List (List Nat))(al V Q:List Nat):Prop where
 IG:(V++Q).Pairwise fun a b=>kc nm al a<kc nm al b
 top:∀h∈Q.head?,∀q∈Q,kc nm al q≤8* kc nm al h
 lG:∀c∈al,par nm al c∈V→c∈V++Q
 OC:∀c∈V++Q,c=47∨c∈al∧par nm al c∈V
 rt:47∈V++Q
theorem Inv.init:Inv nm al [] [47]:=⟨List.pairwise_singleton ..,fun h e q hq=>by obtain rfl:=Option.some.inj e;refine(List.mem_singleton.mp hq)▸?_;exact Nat.le_mul_of_pos_left _ (by decide),(fun a a h=>nomatch h),fun c h=>.inl (List.mem_singleton.mp h),.head _⟩
theorem Inv.nd(I:Inv nm al V Q):(V++Q).Nodup:=I.IG.imp fun{a b} h (e:a=b)=>by subst e;exact Nat.lt_irrefl _ h
theorem II{al:List Nat}(h:al.Nodup):al.Pairwise fun a b=>al.idxOf a<al.idxOf b:=by
 refine List.pairwise_iff_getElem.mpr fun i j hi hj k=>?_
 simp only[h.idxOf_getElem i hi,h.idxOf_getElem j hj];exact k
theorem Inv.step(t:Tree nm od al)(h5:al.length≤5)(I:Inv nm al V (h::Q)):Inv nm al (V++[h]) (Q++kids nm al h):=by
 have ea:(V++[h])++(Q++kids nm al h)=(V++h::Q)++kids nm al h:=by simp
 have kd:∀z∈kids nm al h,kc nm al z=kc nm al h* 8+al.idxOf z+1∧al.idxOf z<5:=fun z hz=>by
  refine(List.mem_filter.mp hz).elim fun h1 h2=>?_
  obtain e:=t.Xd h1;obtain e:=(eq_of_beq h2)▸e;exact⟨e,Nat.lt_of_lt_of_le (List.idxOf_lt_length_iff.mpr h1) h5⟩
 have hv:∀v∈V++h::Q,kc nm al v≤8* kc nm al h:=fun v hv=>by
  rcases List.mem_append.mp hv with k|k
  ·have :=(List.pairwise_append.mp I.IG).2.2 v k h (.head _);exact aA (nat_lit 27075491664129) ae this
  ·exact I.top h rfl v k
 obtain IG:((V++h::Q)++kids nm al h).Pairwise fun a b=>kc nm al a<kc nm al b:=by
  refine List.pairwise_append.mpr ⟨I.IG,?_,fun a ha b hb=>?_⟩
  ·refine List.Pairwise.imp_of_mem (fun{a b} ha hb k=>?_) ((II t.nd).filter _);simp only[(kd a ha).1,(kd b hb).1];exact aQ (nat_lit 0x19128b8819028b8811101101) ae k
  ·have :=hv a ha;rw[(kd b hb).1];exact aQ (nat_lit 0x19218b8801118a00101) ae this
 refine⟨ea▸IG,fun g e q hq=>?_,fun c hc k=>?_,fun c hc=>?_,?_⟩
 ·obtain hg:=List.mem_of_mem_head? e
  obtain b1:kc nm al q≤8* kc nm al h+5:=by
   rcases List.mem_append.mp hq with k|k
   ·obtain this:=hv q (List.mem_append_right _ (.tail _ k));exact aA (nat_lit 0x5918a800118a00101) ae this
   ·obtain this:=kd q k;exact aQ (nat_lit 0x5928a81015901119028b8812102) ae this.1 this.2
  obtain b2:kc nm al h<kc nm al g:=by
   rcases List.mem_append.mp hg with k|k
   ·exact(List.pairwise_cons.mp (List.pairwise_append.mp I.IG).2.1).1 g k
   ·obtain this:=kd g k;exact aQ (nat_lit 0x11119218b8803101) ae this.1
  exact aQ (nat_lit 0x18a20110185908a820102) ae b1 b2
 ·rw[ea];rcases List.mem_append.mp k with k|k
  ·exact List.mem_append_left _ (I.lG c hc k)
  ·exact List.mem_append_right _ (List.mem_filter.mpr ⟨hc,beq_iff_eq.mpr (List.mem_singleton.mp k)⟩)
 ·rw[ea] at hc;rcases List.mem_append.mp hc with k|k
  ·exact(I.OC c k).imp id fun k=>⟨k.1,List.mem_append_left _ k.2⟩
  ·obtain⟨h1,h2⟩:=List.mem_filter.mp k;exact .inr ⟨h1,List.mem_append_right _ (List.mem_singleton.mpr (eq_of_beq h2))⟩
 ·refine ea▸?_;exact List.mem_append_left _ I.rt
theorem Inv.full(t:Tree nm od al)(I:Inv nm al V []):∀c∈47::al,c∈V:=by
 obtain key:∀l r,al=l++r→∀c∈47::l,c∈V:=fun l=>by
  induction hl:l.length generalizing l with
  |zero=>
   intro r _ c hc;rw[List.length_eq_zero_iff.mp hl] at hc;have :=I.rt
   rw[List.append_nil] at this;exact List.mem_singleton.mp hc▸this
  |succ k ih=>
   intro r e c hc;rcases List.eq_nil_or_concat l with rfl|⟨l,z,rfl⟩
   ·exact nomatch hl
   ·rw[List.concat_eq_append] at hl hc e;have q:=ih l (by rw[List.length_append] at hl;exact Nat.succ.inj hl) (z::r) (by simp only[e,List.append_assoc];rfl);rcases List.mem_append.mp (show c∈(47::l)++[z] from hc) with h|h
    ·exact q c h
    ·have ez:=List.mem_singleton.mp h;have e2:al=l++z::r:=by simp only[e,List.append_assoc];rfl
     obtain p:=q _ (e2▸(e2▸t:Tree nm od (l++z::r)).path.1);have :=I.lG z (e2▸List.mem_append_right _ (.head _)) p
     rw[List.append_nil] at this;exact ez▸this
 exact key al [] (List.append_nil al).symm
theorem IJ(t:Tree nm od al)(h5:al.length≤5)(k:Nat)(V Q:List Nat)(I:Inv nm al V Q)(hk:V.length+k=al.length+1):(BL (kids nm al) k Q).length=k∧Inv nm al (V++BL (kids nm al) k Q) []:=by
 obtain sub:∀c∈V++Q,c∈47::al:=fun c hc=>(I.OC c hc).elim (fun e=>e▸.head _) fun h=>.tail _ h.1
 obtain le:=I.nd.length_le_of_subset sub;simp only[List.length_append,List.length_cons] at le;induction k generalizing V Q with
 |zero=>have :Q=[]:=List.length_eq_zero_iff.mp (aQ (nat_lit 0x9125192809083119281080112) ae le hk);subst this;exact⟨rfl,(List.append_nil V).symm▸I⟩|succ k ih=>
  induction Q with
  |nil=>
   have :=(List.nodup_cons.mpr ⟨t.no,t.nd⟩).length_le_of_subset fun c hc=>I.full t c hc
   simp only[List.length_cons] at this;lia
  |cons h Q=>
   obtain J:=I.step t h5;have sub:∀c∈(V++[h])++(Q++kids nm al h),c∈47::al:=fun c hc=>(J.OC c hc).elim (fun e=>e▸.head _) fun h=>.tail _ h.1
   obtain le:=J.nd.length_le_of_subset sub;rw[List.length_append,List.length_cons] at le;obtain q:=ih (V++[h]) (Q++kids nm al h) J (by simp only[List.length_append,List.length_cons];exact aQ (nat_lit 0x19281190980882519281918082511) ae hk) sub le;simp only[List.append_assoc] at q;exact⟨congrArg (·+1) q.1,q.2⟩
theorem wW(t:Tree nm od al)(h5:al.length≤5):(BL (kids nm al) (al.length+1) [47]).length=al.length+1∧(BL (kids nm al) (al.length+1) [47]).Perm (47::al)∧(BL (kids nm al) (al.length+1) [47]).Pairwise fun a b=>kc nm al a<kc nm al b:=by
 refine(IJ t h5 (al.length+1) [] [47] .init (Nat.zero_add _)).elim fun h1 I=>?_
 obtain nd:=I.nd;obtain sr:=I.IG;obtain fr:=I.OC;rw[List.append_nil] at nd sr fr;exact⟨h1,nG nd (List.nodup_cons.mpr ⟨t.no,t.nd⟩) fun x=>⟨fun h=>(fr x h).elim (fun e=>e▸.head _) fun h=>.tail _ h.1,I.full t x⟩,sr⟩
end
section
variable{d:Nat}{X B:AH}{a:Lx}{bg:Int}{K:List (Str×St)}{al ks:List Nat}{c k:Nat}{run:List Nat}{pu:List (List Nat)}{told:List (List Nat)}{nc:Nat→Nat}
theorem Sq(c:Nat)(kvs:List (Str×Int)):bI X .In (aV c) (.bf (aI V.int kvs))=some (.bool (kvs.lookup (bx c)).isSome):=by show some (V.bool ((aI V.int kvs).lookup (bx c)).isSome)=_;simp only[jH,Option.isSome_map]
theorem nI(r:List Nat)(c:Nat):slice X (bk (r++[c])) (some (-1)) none=some (aV c):=by
 obtain e:clipAt (r++[c]).length (-1)=r.length:=by rw[List.length_append];show clipAt (r.length+1) (-1)=_;unfold clipAt;lia
 show some (bk (((r++[c]).drop (clipAt (r++[c]).length (-1))).take ((r++[c]).length-clipAt (r++[c]).length (-1))))=_;rw[e,List.drop_left,List.length_append,Nat.add_sub_cancel_left];rfl
abbrev Ss:Stmt:=bR (bd 20) 2
abbrev Nx:List Stmt:=c9 Ss
abbrev OD:Stmt:=bR Nx 3
abbrev Jm(k:Nat)(K:List (Str×St))(al:List Nat)(told:List (List Nat)):ah:=[(T "lexer",.ref k),(T "book",dP K),(T "line",ltV al),(T "told",kM told)]
abbrev Xe:List Str:=[T "lexer",T "book",T "line",T "told"]
abbrev Ny:List Str:=[T "lexer",T "book",T "line",T "told",T "run",T "called"]
abbrev EW(k:Nat)(K:List (Str×St))(al:List Nat)(told:List (List Nat))(run ks:List Nat):ah:=Jm k K al told++[(T "run",bk run),(T "called",ltV ks)]
theorem EX{cl:List Nat}(h:a.Ok B)(hr:run.length<100)(hp:pu.length+ks.length<100):bX (d+4) (oh 20) (c8 OD) (c9 OD) (ks.map aV) (EW a.k K al told run cl) (a.hp B bg (pu.map bk) []) .next (EW a.k K al told run cl) (a.hp B bg ((pu++ks.map fun c=>run++[c]).map bk) []):=by
 obtain q:=bX.fold (d:=d+4) (sc:=oh 20) (t:=c8 OD) (body:=c9 OD) aV (fun f:List (List Nat)=>EW a.k K al told run cl) (fun s=>a.hp B bg (s.map bk) []) (fun s c=>s++[run++[c]]) (fun xs s=>s.length+xs.length<100)
  (fun c xs s hh=>by exact List.length_append▸(aA (nat_lit 0x64e1190980881164e1918081101) ae hh))
  (fun c xs s hh=>by obtain p:=qu (d:=d+2) (push:=s.map bk) h (by rw[List.length_map];exact aA (nat_lit 0x1000006f19081164e1918081101) ae hh);obtain p:=p.hp (show _=a.hp B bg ((s++[run++[c]]).map bk) [] by rw[List.map_append];rfl);obtain ad:=sY (a:=run) (b:=[c]) (by show _+1<_;lia);exact az Ny (.obj (h.self (bg:=bg) (push:=s.map bk) (cs:=[])) (.val 3 ad (.call p .nil)))) ks pu hp
 obtain e:∀(ks:List Nat) (s:List (List Nat)),ks.foldl (fun s c=>s++[run++[c]]) s=s++ks.map fun c=>run++[c]:=fun ks=>by
  induction ks with |nil=>intro s;exact(List.append_nil s).symm|cons c ks ih=>intro s;exact(ih _).trans (List.append_assoc ..)
 rw[e] at q;exact q
abbrev Xf:Expr:=dQ (bR Nx 1)
abbrev Xg:Expr:=fR (eJ (eJ (eJ (dQ (bR Nx 2)) 1) 1) 1) 0
end
section
variable{d:Nat}{X B:AH}{a:Lx}{bg:Int}{K:List (Str×St)}{al Q od:List Nat}{c j:Nat}{told nm:List (List Nat)}
def lc(nm:List (List Nat))(al:List Nat)(c:Nat):Nat:=(nm.filter fun n=>(cN al n).getLastD 126==c).length
noncomputable def nc(nm:List (List Nat))(al:List Nat)(c:Nat):Nat:=(nm.filter fun n=>(cN al n).contains c).length
theorem Tree.left(t:Tree nm od al)(c:Nat):nc nm al c=lc nm al c+((kids nm al c).map (nc nm al)).sum:=by
 refine(t.count c).trans (congrArg (fun l=>lc nm al c+List.sum l) (List.map_congr_left fun z hz=>?_));have hz:=(List.mem_filter.mp hz).1
 exact congrArg List.length (List.filter_congr fun n a=>(nH (fun e=>t.no (e▸hz)) hz).symm)
structure Tells(nm:List (List Nat))(al:List Nat)(K:List (Str×St)):Prop where
 has:∀c∈47::al,F7 K c
 sum:∀c∈47::al,vS (aL K c).cs=nc nm al c
 one:∀c∈al,(aL K c).cs.map (·.1)=[bx (par nm al c)]
theorem tD(c:Nat):∃p,gx nm al c=p++[c]:=by
 unfold gx;by_cases h:c=47
 ·subst h;exact⟨[],rfl⟩
 ·exact(if_neg h)▸(⟨_,rfl⟩)
theorem EY(h5:al.length≤5)(c:Nat):(gx nm al c).length<100:=by
 unfold gx;by_cases h:c=47
 ·rw[if_pos h];exact(by decide:1<100)
 ·rw[if_neg h,List.length_append]
  have h1:(cN (al.takeWhile (·!=c)) ((nm.find? (·.contains c)).getD [])).length≤6:=by
   show _+1≤_;obtain this:=List.length_filter_le (fun z=>((nm.find? (·.contains c)).getD []).contains z) (al.takeWhile (·!=c));have :=(List.takeWhile_sublist (l:=al) (·!=c)).length_le
   omega
  exact aJ (nat_lit 0x64e1908116900101) ae h1
theorem yE(h5:al.length≤5)(T':Tells nm al K)(hc:c∈47::al):bS (d+4) Xf (al.map aV) [(T "book",dP K),(T "run",bk (gx nm al c))] (.l []) X (.l ((kids nm al c).map aV)) X:=by
 obtain⟨p,hp⟩:=tD c;refine hp▸?_;refine aB.pick aV aV (fun z=>par nm al z==c) al [] (aJ (nat_lit 0x1000006f0098115900101) ae h5) fun z hz vs hv=>?_
 obtain sl:=nI (X:=X) p c;obtain it:=fV (X:=X) (T'.has z (.tail _ hz));obtain i0:=Sq (X:=X) c (aL K z).cs;obtain e:((aL K z).cs.lookup (bx c)).isSome=(par nm al z==c):=by
  obtain e1:=fD (aL K z).cs (bx c);simp only[T'.one z hz,List.mem_singleton] at e1;rw[←bC];induction h:(aL K z).cs.lookup (bx c) with |none=>exact(beq_false_of_ne fun q=>e1.mp h q.symm).symm|some v=>refine(beq_iff_eq.mpr ?_).symm;exact Classical.byContradiction fun q=>by rw[h] at e1;exact nomatch e1.mpr fun k=>q k.symm
 rw[e] at i0;induction hb:par nm al z==c with |false=>rw[hb] at i0;exact aF [T "book",T "run"] (.val 1 sl (.val 4 it (.val 6 i0 .nil)))|true=>rw[hb] at i0;exact aF [T "book",T "run"] (.val 1 sl (.val 4 it (.val 6 i0 (.no 9 (aD hv) .nil))))
theorem IK(T':Tells nm al K)(ks:List Nat)(hk:∀z∈ks,z∈al)(hl:ks.length<100):bS (d+4) Xg (ks.map aV) [(T "book",dP K)] (.l []) X (.l ((ks.map fun z=>(nc nm al z:Int)).map .int)) X:=by
 rw[List.map_map];refine aB.all _ _ ks (by unfold ak;lia) fun z hz vs hv=>?_
 obtain it:=fV (X:=X) (T'.has z (.tail _ (hk z hz)));obtain cc:=eu (d:=d+2) (H:=X) (aL K z).cs;rw[show((aL K z).cs.map (·.2)).sum=_ from T'.sum z (.tail _ (hk z hz))] at cc;exact aF [T "book"] (.val 3 it (.call cc (.no 5 (aD hv) .nil)))
theorem BN(l:List Nat)(f:Nat→Nat):(l.map fun z=>(f z:Int)).sum=((l.map f).sum:Nat):=by
 induction l with |nil=>rfl|cons a l ih=>simp only[List.map_cons,List.sum_cons,ih,List.map_cons,List.sum_cons,Int.natCast_add]
theorem EZ(t:Tree nm od al)(h:a.Ok B)(h5:al.length≤5)(hn:nm.length<100)(T':Tells nm al K)(hc:c∈47::al)(hq:Q.length<50)(ht:told.length<10000):
  Turn (d+4) (oh 20) (c8 Ss) Nx (.int j) (Jm a.k K al told) (a.hp B bg ((c::Q).map fun c=>bk (gx nm al c)) []) .next (Jm a.k K al (told++List.replicate (lc nm al c) (gx nm al c))) (a.hp B bg ((Q++kids nm al c).map fun c=>bk (gx nm al c)) []):=by
 let W:AH:=a.hp B bg (Q.map fun c=>bk (gx nm al c)) [];obtain hk:=h.self (bg:=bg) (push:=(c::Q).map fun c=>bk (gx nm al c)) (cs:=[]);obtain g:=m9 (d:=d+2) (x:=bk (gx nm al c)) (p:=Q.map fun c=>bk (gx nm al c)) (cs:=[]) (l:=bg) h;obtain cd:=yE (d:=d) (X:=W) h5 T' hc;have kl:(kids nm al c).length≤5:=Nat.le_trans (List.length_filter_le ..) h5
 have ka:∀z∈kids nm al c,z∈al:=fun z hz=>(List.mem_filter.mp hz).1
 have it:=fV (X:=W) (T'.has c hc);have cc:=eu (d:=d+2) (H:=W) (aL K c).cs
 rw[show((aL K c).cs.map (·.2)).sum=_ from T'.sum c hc] at cc;have sm:=IK (d:=d) (X:=W) T' (kids nm al c) ka (aJ (nat_lit 0x64e0115900101) ae kl)
 have su:=sQ (X:=W) ((kids nm al c).map fun z=>(nc nm al z:Int));rw[BN] at su;have le:=t.left c
 have ll:lc nm al c<100:=Nat.lt_of_le_of_lt (List.length_filter_le ..) hn;have sb:binop .Sub (.int (nc nm al c)) (.int ((kids nm al c).map (nc nm al)).sum)=some (.int (lc nm al c)):=by show some (V.int ((nc nm al c:Int)-(((kids nm al c).map (nc nm al)).sum:Nat)))=_;rw[show(nc nm al c:Int)-(((kids nm al c).map (nc nm al)).sum:Nat)=(lc nm al c:Int) by exact Iz.go (nat_lit 0x172707ca521802511) [_,_,_] [] ae le]
 have m:=sP (lc nm al c) (bk (gx nm al c)) (aJ (nat_lit 0x3e83f01164e01101) ae ll);have ad:=yd (a:=told.map bk) (b:=List.replicate (lc nm al c) (bk (gx nm al c))) (by rw[List.length_map,List.length_replicate];exact aA (nat_lit 0x1000006f0181127104f11164e01102) ae ll ht)
 have lp:=EX (d:=d) (K:=K) (al:=al) (told:=told++List.replicate (lc nm al c) (gx nm al c)) (run:=gx nm al c) (cl:=kids nm al c) (pu:=Q.map (gx nm al)) (bg:=bg) h (EY h5 c) (by rw[List.length_map];exact aA (nat_lit 0x64e0181132e1115900102) ae kl hq);have e1:(Q.map (gx nm al)).map bk=Q.map fun c=>bk (gx nm al c):=by rw[List.map_map];rfl
 have e2:(Q.map (gx nm al)++(kids nm al c).map fun z=>gx nm al c++[z]).map bk=(Q++kids nm al c).map fun c=>bk (gx nm al c):=by
  rw[List.map_append,e1,List.map_append,List.map_map];refine congrArg (_++·) (List.map_congr_left fun z hz=>?_);obtain⟨hz,hp⟩:=List.mem_filter.mp hz;obtain⟨l,r,rfl⟩:=List.append_of_mem hz;have :=t.path.2
  rw[eq_of_beq hp] at this;exact congrArg bk this.symm
 rw[e1,e2] at lp;have e3:kM (told++List.replicate (lc nm al c) (gx nm al c))=.lst (told.map bk++List.replicate (lc nm al c) (bk (gx nm al c))):=by rw[show kM _=V.lst _ from rfl,List.map_append,List.map_replicate]
 unfold EW at lp;unfold Jm at lp⊢;rw[e3] at lp⊢;obtain⟨p,hp⟩:=tD (nm:=nm) (al:=al) c;have sl:=nI (X:=W) p c
 rw[←hp] at sl;exact az Xe (.obj hk (.call g (.cmp cd (.val 7 sl (.val 8 it (.call cc (.cmp sm (.upd 12 su (.val 13 sb (.val 14 m (.val 15 ad (.ks Ny (.loop lp .nil)))))))))))))
end
section
variable{d:Nat}{X B:AH}{a:Lx}{bg:Int}{K:List (Str×St)}{al Q od:List Nat}{c j:Nat}{told nm:List (List Nat)}
abbrev vd(nm:List (List Nat))(al V:List Nat):List (List Nat):=V.flatMap fun c=>List.replicate (lc nm al c) (gx nm al c)
theorem E0(t:Tree nm od al)(h:a.Ok B)(h5:al.length≤5)(hn:nm.length<100)(T':Tells nm al K)(js:List Nat)(Q:List Nat)(told:List (List Nat))(hb:(BL (kids nm al) js.length Q).length=js.length)(hQ:∀c∈Q,c∈47::al)(hq:Q.length+5* js.length<50)(ht:told.length+100* js.length<10000):
  ∃p,bX (d+4) (oh 20) (c8 Ss) Nx (js.map fun(j:Nat)=>.int (0+(j:Int))) (Jm a.k K al told) (a.hp B bg (Q.map fun c=>bk (gx nm al c)) []) .next (Jm a.k K al (told++vd nm al (BL (kids nm al) js.length Q))) (a.hp B bg p []):=by
 induction js generalizing Q told with
 |nil=>exact⟨_,by rw[show told++vd nm al (BL (kids nm al) ([]:List Nat).length Q)=told from List.append_nil told];exact .nil⟩|cons j js ih=>
  induction Q with |nil=>exact nomatch hb|cons c Q=>obtain kl:=Nat.le_trans (List.length_filter_le ..) h5;obtain ll:=Nat.lt_of_le_of_lt (List.length_filter_le ..) hn;obtain tn:=EZ t h h5 hn T' (hQ c (.head _)) (aA (nat_lit 0x32e01132e19185a190881101) ae hq) (aA (nat_lit 0x27104f01127104f19180640a081101) ae ht);obtain⟨p,q⟩:=ih (Q++kids nm al c) (told++List.replicate (lc nm al c) (gx nm al c)) (Nat.succ.inj hb) (fun z hz=>(List.mem_append.mp hz).elim (fun h=>hQ z (.tail _ h)) fun h=>.tail _ (List.mem_filter.mp h).1) (by refine List.length_append▸?_;exact aQ (nat_lit 0x32e25a01881132e19285a19188115900102) ae kl hq) (by simp only[List.length_append,List.length_replicate];exact aQ (nat_lit 0x27104f20640a01881127104f19280640a181164e01102) ae ll ht);simp only[List.append_assoc] at q;exact⟨p,tn.next (.inl rfl) q⟩
theorem E1(t:Tree nm od al)(h:a.Ok B)(h5:al.length≤5)(hn:nm.length<100)(T':Tells nm al K):
  ∃p,aC (d+5) (.fn 217) [.ref a.k,dP K,ltV al] (a.hp B bg [] []) (kM (vd nm al (BL (kids nm al) (al.length+1) [47]))) (a.hp B bg p []):=by
 obtain hk:=h.self (bg:=bg) (push:=[]) (cs:=[]);obtain p:=qu (d:=d+2) (v:=bk [47]) (push:=[]) (cs:=[]) (l:=bg) h (by decide);obtain ad:binop .Add (.int ((al.map aV).length:Nat)) (.int 1)=some (.int ((al.length+1:Nat):Int)):=by rw[List.length_map];rfl
 obtain rg:=iy (al.length+1) (a.hp B bg [bk [47]] []) (aJ (nat_lit 0x1000000000000000100f1908115900101) ae h5);obtain e:[bk [47]]=[47].map fun c=>bk (gx nm al c):=by rfl
 refine(E0 (d:=d) (bg:=bg) t h h5 hn T' (List.range (al.length+1)) [47] [] (List.length_range▸((wW t h5).1)) (fun c h=>List.mem_singleton.mp h▸.head _) (by simp only[List.length_range,List.length_singleton];exact aJ (nat_lit 0x32e19085a198115900501) ae h5) (by simp only[List.length_range,List.length_nil];lia)).elim fun q lp=>?_
 simp only[List.length_range,←e,List.nil_append] at lp;exact⟨q,aS (.obj hk (.call p (.val 5 ad (.upd 6 rg (.loop lp .nil)))))⟩
theorem IL(V:List Nat)(h:V.Pairwise fun a b=>kc nm al a<kc nm al b):∀a∈V,∀b∈V,kc nm al a=kc nm al b→a=b:=by
 induction V with
 |nil=>intro a h;exact nomatch h|cons v V ih=>
  obtain⟨h1,h2⟩:=List.pairwise_cons.mp h;intro a ha b hb e;rcases bz ha with ea|ka<;>rcases bz hb with eb|kb
  ·exact ea.trans eb.symm
  ·exact absurd (ea▸e) (Nat.ne_of_lt (h1 b kb))
  ·exact absurd (eb▸e) (Nat.ne_of_gt (h1 a ka))
  ·exact ih h2 a ka b kb e
theorem yF{α:Type}(f:α→Nat)(V:List Nat)(hV:V.Nodup)(l:List α)(h:∀x∈l,f x∈V):(V.flatMap fun c=>l.filter fun x=>f x==c).Perm l:=by
 induction V generalizing l with
 |nil=>induction l with |nil=>exact .refl _|cons x l=>exact nomatch h x (.head _)
 |cons v V ih=>
  obtain⟨h1,h2⟩:=lE hV;rw[List.flatMap_cons];have e:(V.flatMap fun c=>l.filter fun x=>f x==c)=V.flatMap fun c=>(l.filter fun x=>!(f x==v)).filter fun x=>f x==c:=by
   have k:∀c∈V,(l.filter fun x=>f x==c)=(l.filter fun x=>!(f x==v)).filter fun x=>f x==c:=fun c hc=>by
    rw[List.filter_filter];refine List.filter_congr fun x a=>?_
    by_cases hx:f x=c
    ·rw[hx,beq_self_eq_true,beq_false_of_ne fun e:c=v=>h1 (e▸hc)];rfl
    ·rw[beq_false_of_ne hx];rfl
   rw[List.flatMap_def,List.flatMap_def];exact congrArg List.flatten (List.map_congr_left k)
  rw[e];refine(List.Perm.append_left _ (ih h2 _ fun x hx=>?_)).trans (List.filter_append_perm (fun x=>f x==v) l);obtain⟨h3,h4⟩:=List.mem_filter.mp hx;exact(bz (h x h3)).resolve_left fun e=>by rw[e,beq_self_eq_true] at h4;exact bE h4
theorem vf(t:Tree nm od al)(c:Nat):List.replicate (lc nm al c) (gx nm al c)=(nm.map (cN al)).filter fun w=>w.getLastD 126==c:=by
 symm
 refine List.eq_replicate_iff.mpr ⟨?_,fun w hw=>?_⟩
 ·simp only[List.filter_map,List.length_map];rfl
 ·obtain⟨h1,h2⟩:=List.mem_filter.mp hw;obtain⟨n,hn,rfl⟩:=tJ h1;obtain this:=(t.run hn).1;rw[eq_of_beq h2] at this;exact this
theorem BO(t:Tree nm od al)(h5:al.length≤5){bs:List (List Nat)}(hp:bs.Perm (nD al nm))(hs:bs.Pairwise fun a b=>num al a.tail≤num al b.tail):vd nm al (BL (kids nm al) (al.length+1) [47])=bs:=by
 obtain⟨_,pv,sv⟩:=wW t h5
 revert pv sv
 generalize BL (kids nm al) (al.length+1) [47]=V;intro pv sv;obtain nd:=pv.nodup_iff.mpr (List.nodup_cons.mpr ⟨t.no,t.nd⟩);obtain e:vd nm al V=V.flatMap fun c=>(nD al nm).filter fun w=>w.getLastD 126==c:=by exact congrArg List.flatten (List.map_congr_left fun c d=>vf t c)
 have ip:(vd nm al V).Perm (nD al nm):=by
  rw[e];refine yF _ V nd _ fun w hw=>?_
  obtain⟨n,hn,rfl⟩:=tJ hw;exact pv.mem_iff.mpr (t.run hn).2
 obtain ne:∀c,c∈V→∀w∈List.replicate (lc nm al c) (gx nm al c),num al w.tail=kc nm al c:=fun c d w hw=>by rw[(List.mem_replicate.mp hw).2];rfl
 obtain is:(vd nm al V).Pairwise fun a b=>num al a.tail≤num al b.tail:=by
  clear e ip nd pv;induction V with |nil=>exact .nil|cons v V ih=>obtain⟨s1,s2⟩:=List.pairwise_cons.mp sv;refine List.pairwise_append.mpr ⟨List.pairwise_replicate.mpr (.inr (Nat.le_refl _)),ih s2 fun c hc=>ne c (.tail _ hc),fun a ha b hb=>?_⟩;obtain⟨c,hc,hb⟩:=List.mem_flatMap.mp hb;simp only[ne v (.head _) a ha,ne c (.tail _ hc) b hb];exact Nat.le_of_lt (s1 c hc)
 refine List.Perm.eq_of_pairwise (fun a b ha hb h1 h2=>?_) is hs (ip.trans hp.symm);have k:∀w∈nD al nm,∃c∈V,w=gx nm al c:=fun w hw=>by obtain⟨n,hn,rfl⟩:=tJ hw;exact⟨_,pv.mem_iff.mpr (t.run hn).2,(t.run hn).1⟩
 obtain⟨c,hc,rfl⟩:=k a (ip.mem_iff.mp ha);obtain⟨z,hz,rfl⟩:=k b (hp.mem_iff.mp hb);exact congrArg _ (IL V sv c hc z hz (Nat.le_antisymm h1 h2))
end
section
variable{d:Nat}{X B:AH}{a:Lx}{bg:Int}{cs:List Int}{K:List (Str×St)}{mk lt af al od:List Nat}{nm:List (List Nat)}{tv:V}{runs:List (List Nat×Int)}
abbrev Nz(cs:List Int)(mk:List Nat)(k:Nat)(nm:List (List Nat))(lt:List Nat)(tv:V)(af:List Nat)(runs:List (List Nat×Int))(K:List (Str×St))(al:List Nat):ah:=wO cs mk k nm lt tv af runs K al++[(T "cut",kM (nD al nm))]
abbrev Xh:Expr:=Jf (DM (lS 27)) 1
abbrev OE:Expr:=D8 Xh
abbrev Su(al:List Nat):V:=.lG [T "run"] (AO (D9 OE)) (AP (D9 OE)) [(T "ahead",ltV al)]
theorem yG(h5:al.length≤5)(n:List Nat):aC (d+4) (Su al) [bk (cN al n)] X (.int ((num al (cN al n).tail:Nat):Int)) X:=by obtain q:=yi (d:=d+1) (X:=X) h5 (al.filter fun c=>n.contains c) (fun c hc=>(List.mem_filter.mp hc).1) (Nat.le_trans (List.length_filter_le ..) h5);obtain q:=e_ (.call q .nil);exact wg (by kernel_rfl) (by kernel_rfl) q
theorem BP(h5:al.length≤5)(nm:List (List Nat)):iD (d+4) (Su al) ((nD al nm).map bk) X ((nD al nm).map fun w=>.int ((num al w.tail:Nat):Int)) X:=by
 induction nm with |nil=>exact .nil|cons n r ih=>exact .cons (yG h5 n) ih
theorem IM{l:List Nat}(h0:l≠[])(hl:l.length<100):item X (nu l) (.int 0)=some (.int (l.headD 0:Nat)):=by
 induction l with |nil=>exact absurd rfl h0|cons a r=>exact gj rfl (by rw[List.length_map];exact aJ (nat_lit 0x1000000000000000100f01164e01101) ae hl)
theorem NB(t:Tree nm od al)(h:a.Ok B)(h5:al.length≤5)(hf:af.length≤12)(hn:nm.length<60)(T':Tells nm al K)(hm:(kO K af).headD 0=qG af nm):
  ∃p,LX d 27 (Nz cs mk a.k nm lt tv af runs K al) (a.hp B bg [] []) (.ret (.bool true)) (Nz cs mk a.k nm lt tv af runs K al) (a.hp B bg p []):=by
 obtain⟨bs,h1,h2,h3⟩:=nv (nD al nm) bk (fun w=>num al w.tail) (by rw[List.length_map];exact aJ (nat_lit 0x40e0113ce01101) ae hn);obtain⟨p,tl⟩:=E1 (d:=d+3) (bg:=bg) t h h5 (aJ (nat_lit 0x64e0113ce01101) ae hn) T';rw[BO t h5 h2 ((h3 (fun b b=>True) (List.pairwise_of_forall fun b b=>trivial)).imp fun h=>h.elim Nat.le_of_lt fun h=>Nat.le_of_eq h.1)] at tl;obtain i1:=IM (X:=a.hp B bg [] []) (l:=kO K af) (List.append_ne_nil_of_right_ne_nil _ (List.cons_ne_nil _ _)) (by unfold kO;rw[List.length_append,List.length_map];obtain this:=List.length_filter_le (fun p:Nat×Nat=>!decide ((aL K p.1).cs.length=1)) (af.zipIdx 0);rw[List.length_zipIdx] at this;exact aA (nat_lit 0x64e190811c9101100102) ae this hf);rw[hm] at i1;obtain i2:=s_ (X:=a.hp B bg [] []) (nm:=nm) hf;obtain e1:bI (a.hp B bg [] []) .Eq (.int (qG af nm:Nat)) (.int (qG af nm:Nat))=some (.bool true):=eq_int (beq_self_eq_true _);let W:AH:=a.hp B bg p []
 obtain arg:bN (d+7) iL (Nz cs mk a.k nm lt tv af runs K al) (fR OE 0) W (kM (nD al nm)) W:=e_ .nil;obtain Sj:bN (d+7) iL (Nz cs mk a.k nm lt tv af runs K al) (.Name (T "sorted") ⟨188,68,188,74⟩) W (.blt "sorted") W:=e_ .nil;obtain kf:bN (d+7) iL (Nz cs mk a.k nm lt tv af runs K al) (D9 OE) W (Su al) W:=e_ .nil;obtain so:=qp (kp:=⟨188,80,188,119⟩) (p:=⟨188,68,188,120⟩) (by kernel_rfl) Sj arg kf rfl rfl (BP h5 nm) h1;have e2:=eq_true (j8 (H:=W) bs)
 exact⟨p,bK (.val 1 i1 (.val 3 i2 (.val 4 e1 (.call tl (.ev so (.val 10 e2 .nil))))))⟩
end
theorem Lx.NC{a:Lx}{B:AH}(h:a.Ok B){l:Int}{p:List V}{cs:List Nat}(Y:AH):a.hp B l p cs++Y=a.hp (B++Y) l p cs∧a.Ok (B++Y):=by
 induction Y generalizing B with |nil=>rw[List.append_nil,List.append_nil];exact⟨rfl,h⟩|cons o Y ih=>rw[List.append_cons,List.append_cons B,Lx.app h];exact ih h.app
section
variable{nm:List (List Nat)}{od af lt al:List Nat}{cs:List Int}{c:Nat}
theorem ND:(k7 nm).Nodup:=List.Pairwise.filter _ (by decide:[107,109,112,97,118].Nodup)
theorem NF:47∉k7 nm:=fun h=>absurd (List.mem_filter.mp h).1 (by decide)
theorem IP:(k7 nm).length≤5:=List.length_filter_le ..
theorem IQ(h:c∈k7 nm):∃n∈nm,n.contains c=true:=by obtain⟨n,hn,k⟩:=List.mem_flatten.mp (List.contains_iff_mem.mp (List.mem_filter.mp h).2);exact⟨n,hn,List.contains_iff_mem.mpr k⟩
theorem NG(hf:af.Nodup)(qL:47∉af)(n:List Nat):(cN af n).Nodup:=List.nodup_cons.mpr ⟨fun h=>qL (List.mem_filter.mp h).1,hf.filter _⟩
theorem BQ(n:List Nat):(cN af n).length≤af.length+1:=Nat.succ_le_succ (List.length_filter_le ..)
theorem tF(p:Nat):small (Jl cs p)=true:=by unfold Jl;obtain⟨j,hj,e⟩:=jB (cs.getD p 0) 101 (Nat.succ_pos _);obtain e:(cs.getD p 0).fmod 101=j:=e;exact decide_eq_true (by omega)
theorem nJ{P:List Nat×Int→Prop}(h:∀n p,P (cN af n,Jl cs p)):∀r∈aT cs af nm,P r:=fun r hr=>by obtain⟨q,_,rfl⟩:=tJ hr;exact h q.1 q.2
theorem BR:(aT cs af nm).map (·.1)=nm.map (cN af):=by
 obtain key:∀(nm:List (List Nat)) (i:Nat),((nm.zipIdx i).map fun p=>(cN af p.1,Jl cs p.2)).map (·.1)=nm.map (cN af):=fun nm=>by
  induction nm with |nil=>intro i;rfl|cons n nm ih=>intro i;exact congrArg (_::·) (ih (i+1))
 exact key nm 0
theorem E2(c:Nat):(dO c (aT cs af nm)).length=(nm.filter fun n=>(cN af n).contains c).length:=by obtain e:dO c (aT cs af nm)=(aT cs af nm).filter ((fun r=>r.contains c)∘fun p=>p.1):=rfl;rw[e,←List.length_map,←List.filter_map,BR,List.filter_map,List.length_map];rfl
theorem vg(f:List Nat)(P:Nat→Nat→Bool)(i:Nat):∀j (hj:j<f.length),i+j<((((f.zipIdx i).filter fun p=>P p.1 p.2).map fun p=>p.2)++[i+f.length]).headD 0→P f[j] (i+j)=false:=by
 induction f generalizing i with
 |nil=>intro j hj;exact nomatch hj|cons a f ih=>
  intro j hj hl;simp only[List.zipIdx_cons,List.filter_cons] at hl;induction hp:P a i with
  |true=>rw[hp] at hl;exact absurd hl (aA (nat_lit 0x9096101081101) ae)|false=>
   rw[hp] at hl;induction j with |zero=>exact hp|succ j=>obtain q:=ih (i+1) j (Nat.lt_of_succ_lt_succ hj);rw[show i+1+j=i+(j+1) by exact aA (nat_lit 0x1918081190882510) ae,show i+1+f.length=i+(a::f).length by exact aA (nat_lit 0x1918081190882510) ae] at q;exact q hl
theorem BS(f:List Nat)(P:Nat→Nat→Bool)(i:Nat):((((f.zipIdx i).filter fun p=>P p.1 p.2).map fun p=>p.2)++[i+f.length]).headD 0≤i+f.length:=by
 induction f generalizing i with
 |nil=>exact Nat.le_refl _|cons a f ih=>
  simp only[List.zipIdx_cons,List.filter_cons];induction hp:P a i with |true=>exact Nat.le_add_right ..|false=>obtain q:=ih (i+1);obtain q:=(show i+1+f.length=i+(a::f).length by exact aA (nat_lit 0x1918081190882510) ae)▸q;exact q
theorem BU:(af.take (qG af nm)).Pairwise fun y z=>qC z y nm=false:=by
 have e:qG af nm=((((af.zipIdx 0).filter fun p=>!(qK af nm p.1 p.2).isEmpty).map fun p=>p.2)++[0+af.length]).headD 0:=by rw[Nat.zero_add];rfl
 refine wU (by rw[e];exact Nat.le_trans (BS af (fun x j=>!(qK af nm x j).isEmpty) 0) (Nat.le_of_eq (Nat.zero_add _))) fun i hi=>?_
 have hl:=Nat.lt_of_lt_of_le hi (e▸(Nat.le_trans (BS af (fun x j=>!(qK af nm x j).isEmpty) 0) (Nat.le_of_eq (Nat.zero_add _))));obtain q:=vg af (fun x j=>!(qK af nm x j).isEmpty) 0 i hl (by rw[Nat.zero_add,←e];exact hi);rw[Nat.zero_add] at q;exact q
theorem Line.tree(L:Line nm od af)(ho:∀c∈af,∃n∈nm,n.contains c=true):Tree nm od (af.take (qG af nm)):=by have s:(af.take (qG af nm)).Sublist af:=List.take_sublist ..;exact⟨⟨L.ord,L.down.sublist s,L.nd.sublist s,fun h=>L.no (s.subset h)⟩,BU,fun c hc=>ho c (s.subset hc)⟩
theorem tells_of{K:List (Str×St)}(L:Line nm od af)(ho:∀c∈af,∃n∈nm,n.contains c=true)(hH:∀c∈47::af,F7 K c)(hS:∀c∈af,cF c (dO c (aT cs af nm)) (aL K c))(hv:∀c∈47::af,vS (aL K c).cs=(dO c (aT cs af nm)).length):Tells nm (af.take (qG af nm)) K:=by
 obtain t:=L.tree ho;have s:∀c∈47::af.take (qG af nm),c∈47::af:=fun c h=>(bz h).elim (fun e=>e▸.head _) fun h=>.tail _ (List.mem_of_mem_take h)
 refine⟨fun c h=>hH c (s c h),fun c h=>?_,fun c h=>?_⟩
 ·simp only[hv c (s c h),E2];refine congrArg (fun l=>((List.length l:Nat):Int)) (List.filter_congr fun n a=>?_);rcases bz h with rfl|h
  ·rfl
  ·obtain hf:=List.mem_of_mem_take h;simp only[nH (fun e=>L.no (e▸hf)) hf,nH (fun e=>L.no (e▸hf)) h]
 ·obtain hf:=List.mem_of_mem_take h;obtain⟨n,hn,nc⟩:=ho c hf;obtain⟨l,r,e⟩:=List.append_of_mem h;obtain ef:af=l++c::(r++af.drop (qG af nm)):=by have :=List.take_append_drop (qG af nm) af;rw[e,List.append_assoc] at this;exact this.symm
  have S:=hS c hf;rw[ef] at L S;simp only[e] at t;have q:=BI L S (fun y hy=>(List.pairwise_append.mp t.pw).2.2 y hy c (.head _)) hn nc
  have :par nm (l++c::r) c=(cN l n).getLastD 126:=congrArg (·.getLastD 126) (t.pre hn nc);simp only[q,e,this]
end
section
variable{d:Nat}{X B:AH}{cs ns:List Int}{way bg:Int}{cnt:Nat}{mk od:List Nat}{nm:List (List Nat)}{a:Lx}
abbrev NH:List Stmt:=[lS 0,lS 1,lS 2,lS 3,lS 4,lS 5,lS 6,lS 7,lS 8,lS 9,lS 10,lS 11,lS 12,lS 13,lS 14,lS 15,lS 16,lS 17,lS 18,lS 19,lS 20,lS 21,lS 22,lS 23,lS 24,lS 25,lS 26,lS 27]
theorem IS{W:AH}{v:V}{aj:ah}(h:n7 (d+8) iL (TZ ns) NH X (.ret v) aj W):aC (d+9) (.fn 234) [.lst (ns.map .int)] X v W:=L_ (fl:=.ret v) (by kernel_rfl) (by kernel_rfl) h
theorem E4(h:a.Ok B)(i6:cs.length=8)(h3:3≤cnt)(h6:cnt≤6)(hm:mk.length=cnt)(hn:nm.length=cnt)(ho:od.Perm (List.range cnt))(hw:way=1∨way=-1):
  ∃aj W,n7 (d+8) iL (R8 cs way cnt mk od a.k nm (k7 nm)) (NH.drop 14) (a.hp B bg [] []) (.ret (.bool true)) aj W:=by
 have l5:=IP (nm:=nm);have hL:∀p∈od,p<nm.length:=fun p hp=>by have :=List.mem_range.mp (ho.mem_iff.mp hp);exact aQ (nat_lit 9025969084961026) ae this hn
 have Sv:=Nd (d:=d) (X:=a.hp B bg [] []) (cs:=cs) (k:=a.k) h3 h6 hm hn ho (by exact aJ (nat_lit 0x64e0115900101) ae l5) hw;rw[Ir hL,Lx.app h] at Sv;have h1:=h.app (o:=yP (Cb way mk od))
 generalize B++[yP (Cb way mk od)]=B1 at Sv h1;have Xi:=Nf (d:=d) (X:=a.hp B1 bg [] []) (cs:=cs) (way:=way) (mk:=mk) (k:=a.k) (tv:=nC way nm od (k7 nm)) h6 hn ho (by exact aJ (nat_lit 0x64e0115900101) ae l5)
 have Xj:=Nh (d:=d) (X:=a.hp B1 bg [] []) (cs:=cs) (cnt:=cnt) (mk:=mk) (od:=od) (k:=a.k) (nm:=nm) hw (by exact aJ (nat_lit 0x64e0115900101) ae l5);obtain⟨line,lp,ls,Xk⟩:=Ni (aJ (nat_lit 0x3ce0115900101) ae l5);have ll:line.length≤5:=lp.length_eq▸l5
 have Un:=Nk (d:=d) (X:=a.hp B1 bg [] []) (cs:=cs) (k:=a.k) (mk:=mk) (lt:=k7 nm) (nm:=nm) (tv:=nC way nm od (k7 nm)) hw (aJ (nat_lit 0xc90015900101) ae ll);have F:=EB (nm:=nm) (od:=od) hw lp ls
 generalize (if way<0 then line else line.reverse)=af at Un F;have f5:af.length≤5:=F.perm.length_eq▸l5
 have L:Line nm od af:=⟨hn▸ho,F.down,F.perm.nodup_iff.mpr ND,fun h=>NF (F.perm.mem_iff.mp h)⟩;have oc:∀c∈af,∃n∈nm,n.contains c=true:=fun c hc=>IQ (F.perm.mem_iff.mp hc)
 have Xl:=Nl (d:=d) (X:=a.hp B1 bg [] []) (mk:=mk) (k:=a.k) (lt:=k7 nm) (tv:=nC way nm od (k7 nm)) (by exact aJ (nat_lit 0xc90015900101) ae f5) i6 (by exact aA (nat_lit 0x6900169101102102) ae hn h6);have r1:∀r∈aT cs af nm,r.1.length≤10∧small r.2=true:=nJ fun n p=>⟨by have :=BQ (af:=af) n;show(cN af n).length≤10;exact aA (nat_lit 0xa900159101191800102) ae this f5,tF p⟩
 have r2:∀r∈aT cs af nm,r.1.length<100∧r.1≠[]∧small r.2=true:=nJ fun n p=>⟨by have :=BQ (af:=af) n;show(cN af n).length<100;exact aA (nat_lit 0x64e01159101191800102) ae this f5,List.cons_ne_nil _ _,tF p⟩
 have r3:∀r∈aT cs af nm,r.1.Nodup:=nJ fun n p=>NG L.nd L.no n
 have rl:(aT cs af nm).length≤6:=by rw[List.length_map,List.length_zipIdx];exact aA (nat_lit 0x6900169101102102) ae hn h6
 obtain⟨Y1,Sw⟩:=Nm r1 (aJ (nat_lit 0xa90016900101) ae rl);have b1:Bd 200 (bU ((aT cs af nm).take 2)):=(s8 fun r h=>(r1 r (List.mem_of_mem_take h)).1).mono (by have :=List.length_take_le 2 (aT cs af nm);exact aJ (nat_lit 0xc8e190aa8012900a01) ae this)
 have b2:Bd 200 (bU ((aT cs af nm).drop 2)):=(s8 fun r h=>(r1 r (List.mem_of_mem_drop h)).1).mono (by rw[List.length_drop];omega);obtain⟨Y2,IT⟩:=Nn (X:=a.hp B1 bg [] []++Y1) (by exact aJ (nat_lit 0xc90015900101) ae f5) b1 b2;obtain⟨e1,h2⟩:=Lx.NC h1 Y1;obtain⟨e2,Sx⟩:=Lx.NC h2 Y2;rw[e1] at Sw IT;rw[e2] at IT;generalize B1++Y1=B2 at Sw IT h2 Sx;generalize B2++Y2=B3 at IT Sx;have nd:=List.nodup_cons.mpr ⟨L.no,L.nd⟩
 have hk:=yz (K1:=bU ((aT cs af nm).take 2)) (K2:=bU ((aT cs af nm).drop 2)) (47::af) nd;have lk:∀c∈47::af,(oj (bU ((aT cs af nm).take 2)) (bU ((aT cs af nm).drop 2)) (47::af)).lookup (bx c)=some ((aL (bU ((aT cs af nm).take 2)) c).add (aL (bU ((aT cs af nm).drop 2)) c)):=fun c hc=>yn hc
 have hS:∀c∈47::af,cF c (dO c (aT cs af nm)) (aL (oj (bU ((aT cs af nm).take 2)) (bU ((aT cs af nm).drop 2)) (47::af)) c):=fun c hc=>by unfold aL;rw[lk c hc];exact BB r3
 have hv:∀c∈47::af,vS (aL (oj (bU ((aT cs af nm).take 2)) (bU ((aT cs af nm).drop 2)) (47::af)) c).cs=(dO c (aT cs af nm)).length:=fun c hc=>by rw[←yv r3];unfold aL;rw[lk c hc];rfl
 have hH:∀c∈47::af,F7 (oj (bU ((aT cs af nm).take 2)) (bU ((aT cs af nm).drop 2)) (47::af)) c:=fun c hc=>Iw (lk c hc)
 revert IT hk lk hS hv hH
 generalize oj (bU ((aT cs af nm).take 2)) (bU ((aT cs af nm).drop 2)) (47::af)=K;intro IT hk lk hS hv hH;have Xm:=Np (d:=d) (X:=a.hp B3 bg [] []) (cs:=cs) (mk:=mk) (k:=a.k) (nm:=nm) (lt:=k7 nm) (tv:=nC way nm od (k7 nm)) (af:=af) (runs:=aT cs af nm) (K:=K) (by exact aJ (nat_lit 0xc90015900101) ae f5) fun c hc=>hH c (.tail _ hc)
 have Xn:=Nq (d:=d) (X:=a.hp B3 bg [] []) (cs:=cs) (mk:=mk) (k:=a.k) (nm:=nm) (lt:=k7 nm) (tv:=nC way nm od (k7 nm)) (af:=af) (runs:=aT cs af nm) (K:=K) (by exact aJ (nat_lit 0xc90015900101) ae f5) (by exact aA (nat_lit 0x64e01169101102102) ae hn h6);have Xo:=Nr (d:=d) (X:=a.hp B3 bg [] []) (cs:=cs) (mk:=mk) (k:=a.k) (nm:=nm) (lt:=k7 nm) (tv:=nC way nm od (k7 nm)) (af:=af) (runs:=aT cs af nm) (K:=K) (by exact aJ (nat_lit 0xc90015900101) ae f5)
 have Xp:=Nu (d:=d) (X:=a.hp B3 bg [] []) (cs:=cs) (mk:=mk) (k:=a.k) (nm:=nm) (lt:=k7 nm) (tv:=nC way nm od (k7 nm)) (af:=af) (ahead:=af.take (qG af nm)) (runs:=aT cs af nm) (K:=K) (47::af) hk fun c hc=>EM r2 (aJ (nat_lit 0x64e0116900101) ae rl) (hH c hc) (hS c hc) (BD r3) (hv c hc)
 have Uo:(af.take (qG af nm)).length≤5:=Nat.le_trans (List.length_take_le' ..) f5;have Xq:=Nt (d:=d) (X:=a.hp B3 bg [] []) (cs:=cs) (mk:=mk) (k:=a.k) (nm:=nm) (lt:=k7 nm) (tv:=nC way nm od (k7 nm)) (af:=af) (ahead:=af.take (qG af nm)) (runs:=aT cs af nm) (K:=K) (aJ (nat_lit 0xc90015900101) ae Uo) (by exact aA (nat_lit 0x64e01169101102102) ae hn h6)
 obtain⟨p,Xr⟩:=NB (d:=d) (bg:=bg) (cs:=cs) (mk:=mk) (lt:=k7 nm) (tv:=nC way nm od (k7 nm)) (af:=af) (runs:=aT cs af nm) (L.tree oc) Sx Uo (by exact aJ (nat_lit 0xc90015900101) ae f5) (aA (nat_lit 0x3ce01169101102102) ae hn h6) (tells_of L oc hH (fun c hc=>hS c (.tail _ hc)) hv) (vc L oc fun c hc=>hS c (.tail _ hc));exact⟨_,_,bq Sv (bq Xi (bq Xj (bq Xk (bq Un (bq Xl (bq Sw (bq IT (bq Xm (bq Xn (bq Xo (bq Xp (bq Xq (FA Xr)))))))))))))⟩
theorem IU(ns:List Int)(X:AH):∃H',aC (d+9) (.fn 234) [.lst (ns.map .int)] X (.bool true) H':=by
 obtain⟨cs,i6,g0⟩:=RW;obtain⟨way,hw,g1⟩:=RX i6;obtain⟨cnt,h3,h6,g2⟩:=RY i6;obtain⟨mk,hm,_,g3⟩:=RZ i6 h6;obtain⟨od,ho,g4⟩:=R0 hm h6;obtain⟨ws,Jo,hW,g5⟩:=R1 i6 h6;obtain⟨e,he,g6⟩:=R2 i6 h3 h6;obtain⟨c6,g7⟩:=R4 i6 h3 h6 Jo hW he;have Jp:ws.length≤6:=Jo▸h6
 obtain Up:=wI Jp hW;obtain IV:=wD e he (Je ws c6) (fun h=>by have :=congrArg List.length h;rw[List.length_map,hU] at this;have h0:ws.length=0:=this;exact aA (nat_lit 0x909611031139010902103) ae h0 h3 Jo) [] rfl;rw[List.nil_append,List.length_map,hU,Jo,D5] at IV;generalize txtL (Je ws c6) e=t at g7 Up IV;obtain⟨a,kT,B,hT,g8⟩:=R6 (aJ (nat_lit 0x3e83f01164e01101) ae Up) h6;rw[IV] at g8;have g9:=R7 (d:=d) (ns:=ns) (cs:=cs) (cnt:=cnt) (way:=way) (mk:=mk) (od:=od) (e:=e) (t:=t) Jp hT
 have kt:(wu a kT (1+dX t) B (h_ ws) [])[kT]?=some (.lst ((h_ ws).map bk)):=(Lx.HO hT.n1 hT.n2 hT.n3).trans (List.getElem?_set_self hT.lt);have KQ:=M6 (d:=d) (ns:=ns) (cs:=cs) (cnt:=cnt) (way:=way) (mk:=mk) (od:=od) (e:=e) (t:=t) (a:=a) Jp hW kt
 have Xs:=M7 (d:=d) (ns:=ns) (cs:=cs) (way:=way) (mk:=mk) (od:=od) (e:=e) (t:=t) (a:=a) Jp Jo hW kt;have Xu:=M8 (d:=d) (X:=wu a kT (1+dX t) B (h_ ws) []) (ns:=ns) (cs:=cs) (cnt:=cnt) (way:=way) (mk:=mk) (od:=od) (e:=e) (t:=t) (a:=a) (kT:=kT) Jp
 have Xv:=M9 (d:=d) (X:=wu a kT (1+dX t) B (h_ ws) []) (ns:=ns) (cs:=cs) (cnt:=cnt) (way:=way) (mk:=mk) (od:=od) (e:=e) (t:=t) (a:=a) (kT:=kT) Jp hW;have ok:=hT.ok.AJ (o:=.lst ((h_ ws).map bk)) hT.n4
 obtain⟨aj,W,g⟩:=E4 (d:=d) (bg:=1+dX t-dX []) ok i6 h3 h6 hm (show(uS ws).length=cnt by rw[List.length_map,Jo]) ho hw;exact⟨W,IS (bq g0 (bq g1 (bq g2 (bq g3 (bq g4 (bq g5 (bq g6 (bq g7 (bq g8 (bq g9 (bq KQ (bq Xs (bq Xu (bq Xv g))))))))))))))⟩
end
end Mine
end
noncomputable section
open PySem PySem.W PySem.Calls PyProof.Rows
def Mine.dL:DefRec:=(DefRec.ofStmt? (Hd.st 23)).get (by kernel_rfl)
theorem Mine.good0:Mine.Good Mine.w0:=by intro s p loose qV mg mb fa a vs ns m E X₀ TT T hf g hI hl;obtain⟨H',run⟩:=Mine.IU (d:=0) ns [];exact Mine.Dm X₀ TT T hf g hI hl run
theorem Mine.BV(w:World):Mine.Good w:=by apply Classical.byContradiction (p:=Mine.Good w);intro h;exact Classical.epsilon_spec (p:=fun w=>¬Mine.Good w) ⟨w,h⟩ Mine.good0
set_option tactic.hygienic true in
theorem PySem.Challenge.cw_xb0034_03_holds : PySem.Challenge.rw_xb0034_03.Holds := by
 refine PySem.W.holds_law (by kernel_rfl) fun Xw=>?_
 refine PySem.W.holds_open (d:=Mine.dL) (kwd:=[]) (q:=Hd.qv) (loose:=Hd.pM) (Xt:=Hd.O8) (XP:=XL Hd.qv []) (Yf:=Hook.obs Hd.hk) (Ya:=Hook.val Hd.hk) (YP:=Hook.says Hd.hk) Hd.J4 (Hook.of Hd.hk) (Hook.keeps Hd.hk) (fun s e=>xl_of s (Mine.bj e).1) XL.keeps (by kernel_rfl) (by kernel_rfl) (by kernel_rfl) (fun s e=>recFacts_of (Mine.bj e).2) (by rfl) (by assumption) (by decide+kernel) ⟨rfl,rfl,rfl,rfl,rfl,by decide+kernel⟩ ?hw ?hc
 case hw=>w_witness2
 intro w s₀ s₁ mg mb G Y fa o pm cd doc dV kV ho hd KI hD Xx hg args vals as CD Sy Xy Xz Fy;have X₀:(Hd.kF w.params).In s₁.heap:=km_in_of Y
 have TT:=km_tabs_of Y;refine Ground.open G ?_;intro T B D TE TW
 wrow_args CD Sy Xy Xz Fy
 rename_i ns _ _ _ _ _ _ _ a vs _ hL _ w1 _ hI _ Uq _;have hlen:ns.length<64:=by omega
 have g:=Mine.Dl w1 hL;refine wpAny_mono (Mine.BV w X₀ TT T Xx g hI hlen) (fun v s' h=>?_) fun b b e=>e
 obtain⟨rfl,hold,qJ,NI⟩:=h;refine⟨.inl ⟨_,.bool true,[],rfl,fun b=>rfl,.bool true,?_,fun b=>⟨List.nodup_nil,fun a ha=>by cases ha⟩⟩,hold,qJ,.of_eq (NI.trans hg)⟩
 first|rfl|kernel_rfl|(unfold rw_xb0034_03;rfl)
end
