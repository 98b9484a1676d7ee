import PyProof.Rows.All
import Wide.All
import OpenK.AllK
import Wide.FinOn
import KE.KSortTup
import PyProof.ExcFactsAll.ZeroDivisionError
import PyProof.ExcStrAll.ZeroDivisionError
import PyProof.ExcStrCall
import PyProof.ExcAttrAll.ZeroDivisionError
import KE.KRevSl
import PySem.Challenge.RW_tc0078_01
open PySem PySem.Spec PySem.Calls PyProof.Rows PySem.W
open Sem (wp)
set_option Elab.async false
set_option compiler.extract_closed false
set_option genSizeOf false
set_option genInjectivity false
set_option maxRecDepth 100000
set_option linter.unusedVariables false
set_option linter.unusedSimpArgs false
namespace bg
section
local macro_rules | `(tactic| kd_p) => `(tactic| kernel_rfl)
local macro_rules | `(tactic| k_upd) => `(tactic| repeat kd_in)
set_option genCtorIdx false
inductive Cd where
 |v (i:Nat)|z (i:Nat)|k (c:Int)|ad (a b:Cd)|sb (a b:Cd)|ml (c:Int) (a:Cd)|ts (a b:Cd)
inductive Pc where
 |le (a b:Cd)|im (p q:Pc)|fl
set_option genCtorIdx true
structure Cx where
 a:List Nat
 b:List Int
noncomputable abbrev fL{τ:Type}(d:τ)(l:List τ):τ:=l.rec d fun a zz zz=>a
noncomputable abbrev D2{τ:Type}(l:List τ):List τ:=l.rec [] fun zz a zz=>a
noncomputable abbrev at'{τ:Type}(d:τ)(l:List τ)(i:Nat):τ:=i.rec (motive:=fun zz=>List τ→τ) (fun l=>fL d l) (fun zz r l=>r (D2 l)) l
noncomputable def Cd.ev(x:Cx):Cd→Int
 |v i=>(at' 0 x.a i:Nat)
 |z i=>at' 0 x.b i
 |k c=>c
 |ad a b=>a.ev x+b.ev x
 |sb a b=>a.ev x-b.ev x
 |ml c a=>c*a.ev x
 |ts a b=>(a.ev x-b.ev x).toNat
noncomputable def Pc.ev(x:Cx):Pc→Prop
 |le a b=>a.ev x≤b.ev x
 |im p q=>p.ev x→q.ev x
 |fl=>False
structure Li where
 c:Int
 l:List Int
noncomputable def fv(a:List Nat)(b:List Int):Nat→Int
 |0=>(fL 0 a:Nat)
 |1=>fL 0 b
 |i+2=>fv (D2 a) (D2 b) i
noncomputable def dot(f:Nat→Int)(l:List Int):Int:=l.rec (motive:=fun zz=>(Nat→Int)→Int) (fun zz=>0) (fun a zz r f=>a*f 0+r fun i=>f (i+1)) f
noncomputable def Li.ev(f:Nat→Int)(l:Li):Int:=l.c+dot f l.l
noncomputable def un:Nat→List Int
 |0=>[1]
 |n+1=>0::0::un n
noncomputable def uz:Nat→List Int
 |0=>[0,1]
 |n+1=>0::0::uz n
noncomputable def Gk(l b:List Int):List Int:=l.rec (motive:=fun zz=>List Int→List Int) (fun b=>b) (fun x zz r b=>(x+fL 0 b)::r (D2 b)) b
noncomputable def y5(c:Int)(l:List Int):List Int:=l.map (c * ·)
noncomputable def Li.ad(a b:Li):Li:=⟨a.c+b.c,Gk a.l b.l⟩
noncomputable def Li.sc(c:Int)(a:Li):Li:=⟨c*a.c,y5 c a.l⟩
noncomputable def Li.sb(a b:Li):Li:=a.ad (.sc (-1) b)
noncomputable def Li.pd(a:Li):Li:=⟨-1+a.c,a.l⟩
theorem Kz{f:Int→Int→Int}{a b c d:Int}(h:a=b)(e:c=d):f a c=f b d:=by rw[h,e]
theorem a4{a b c d:Int}:a+b+(c+d)=a+c+(b+d):=by rw[Int.add_assoc,Int.add_left_comm b,←Int.add_assoc]
theorem Gl{f:Nat→Int}{a:Int}{l:List Int}:dot f (a::l)=a*f 0+dot (fun i=>f (i+1)) l:=rfl
theorem z2{a b c:Int}:0*a+(0*b+c)=c:=by rw[Int.zero_mul,Int.zero_mul,Int.zero_add,Int.zero_add]
theorem u1{a:Int}:1*a+0=a:=by rw[Int.one_mul,Int.add_zero]
theorem CT(i:Nat):∀ {a:List Nat} {b:List Int},dot (fv a b) (un i)=(at' 0 a i:Nat):=by
 induction i with
 |zero=>exact u1
 |succ i ih=>exact z2.trans ih
theorem KA(i:Nat):∀ {a:List Nat} {b:List Int},dot (fv a b) (uz i)=at' 0 b i:=by
 induction i with
 |zero=>exact(congrArg (· + _) (Int.zero_mul _)).trans ((Int.zero_add _).trans u1)
 |succ i ih=>exact z2.trans ih
theorem CU{f:Nat→Int}(l:List Int):dot f l=fL 0 l*f 0+dot (fun i=>f (i+1)) (D2 l):=by
 cases l with
 |nil=>exact((congrArg (· + 0) (Int.zero_mul (f 0))).trans (Int.zero_add 0)).symm
 |cons=>rfl
theorem Gm(a:List Int):∀ {f:Nat→Int} {b:List Int},dot f (Gk a b)=dot f a+dot f b:=by
 induction a with
 |nil=>exact(Int.zero_add _).symm
 |cons x a ih=>
  intro f b;rw[CU b,Gl];refine(Kz (f:=(· + ·)) (Int.add_mul x (fL 0 b) (f 0)) ih).trans ?_
  exact a4
theorem y6(c:Int)(a:List Int):∀ {f:Nat→Int},dot f (y5 c a)=c*dot f a:=by
 induction a with
 |nil=>exact(Int.mul_zero c).symm
 |cons x a ih=>
  intro f;rw[Gl,Int.mul_add,←Int.mul_assoc];exact congrArg (fun z=>_+z) ih
section
variable{f:Nat→Int}{a b:Li}
theorem Li.AR:(a.ad b).ev f=a.ev f+b.ev f:=(congrArg (fun z=>_+z) (Gm ..)).trans a4
theorem Li.xE{c:Int}:(a.sc c).ev f=c*a.ev f:=(congrArg (fun z=>_+z) (y6 ..)).trans (Int.mul_add ..).symm
theorem Li.tw:(a.sb b).ev f=a.ev f-b.ev f:=by
 rw[show a.sb b=a.ad (.sc (-1) b) from rfl,Li.AR,Li.xE,Int.neg_mul,Int.one_mul,Int.sub_eq_add_neg]
theorem Li.Gn:a.pd.ev f = -1+a.ev f:=Int.add_assoc ..
end
noncomputable abbrev Sy:=List Li
noncomputable def Sat(f:Nat→Int)(s:Sy):Prop:=∀l∈s,0≤l.ev f
noncomputable def go:Cd→Sy→(Li→Sy→Bool)→Bool
 |.v i,s,k=>k ⟨0,un i⟩ s
 |.z i,s,k=>k ⟨0,uz i⟩ s
 |.k c,s,k=>k ⟨c,[]⟩ s
 |.ad a b,s,k=>go a s fun a s=>go b s fun b s=>k (a.ad b) s
 |.sb a b,s,k=>go a s fun a s=>go b s fun b s=>k (a.sb b) s
 |.ml c a,s,k=>go a s fun a s=>k (a.sc c) s
 |.ts a b,s,k=>go a s fun a s=>go b s fun b s=>k (a.sb b) (a.sb b::s)&&k ⟨0,[]⟩ ((b.sb a).pd::s)
noncomputable def as:Pc→Bool→Sy→(Sy→Bool)→Bool
 |.le a b,t,s,k=>go a s fun a s=>go b s fun b s=>k ((bif t then b.sb a else(a.sb b).pd)::s)
 |.im p q,t,s,k=>bif t then as p false s k&&as q true s k else as p true s fun s=>as q false s k
 |.fl,t,s,k=>t||k s
theorem Sat.cons{f:Nat→Int}{s:Sy}{l:Li}(h:Sat f s)(e:0≤l.ev f):Sat f (l::s):=fun m hm=>by
 cases hm with
 |head=>exact e
 |tail _ hm=>exact h m hm
theorem Gp{a b:Int}(h:b<a):0 ≤ -1+(a-b):=Int.add_comm .. ▸ Int.le_sub_one_of_lt (Int.sub_pos_of_lt h)
theorem Gq{x:Cx}{f:Nat→Int}(hf:f=fv x.a x.b)(a:Cd):∀ {s:Sy} {k:Li→Sy→Bool},go a s k=true→Sat f s→(∀l s,l.ev f=a.ev x→Sat f s→k l s=true→False)→False:=by
 induction a with
 |v i=>exact fun h hs K=>K _ _ (by rw[hf];exact(Int.zero_add _).trans (CT i)) hs h
 |z i=>exact fun h hs K=>K _ _ (by rw[hf];exact(Int.zero_add _).trans (KA i)) hs h
 |k c=>exact fun h hs K=>K ⟨c,[]⟩ _ (Int.add_zero c) hs h
 |ad a b ia ib=>exact fun h hs K=>ia h hs fun ag s e hs h=>ib h hs fun lb s e' hs h=>K _ s (by rw[Li.AR,e,e'];rfl) hs h
 |sb a b ia ib=>exact fun h hs K=>ia h hs fun ag s e hs h=>ib h hs fun lb s e' hs h=>K _ s (by rw[Li.tw,e,e'];rfl) hs h
 |ml c a ia=>exact fun h hs K=>ia h hs fun ag s e hs h=>K _ s (by rw[Li.xE,e];rfl) hs h
 |ts a b ia ib=>
  refine fun h hs K=>ia h hs fun ag s e hs h=>ib h hs fun lb s e' hs h=>?_;have h:=(Bool.and_eq_true ..).mp h;have e1:(ag.sb lb).ev f=a.ev x-b.ev x:=by rw[Li.tw,e,e']
  by_cases c:b.ev x≤a.ev x
  ·have c:=Int.sub_nonneg_of_le c
   exact K _ _ (e1.trans (Int.toNat_of_nonneg c).symm) (hs.cons (e1▸c)) h.1
  ·have c:=Int.lt_of_not_ge c
   exact K _ _ (congrArg Nat.cast (Int.toNat_of_nonpos (Int.le_of_lt (Int.sub_neg_of_lt c))).symm) (hs.cons (by rw[Li.Gn,Li.tw,e,e'];exact Gp c)) h.2
theorem Pf{x:Cx}{f:Nat→Int}(hf:f=fv x.a x.b)(p:Pc):∀ {t:Bool} {s:Sy} {k:Sy→Bool},as p t s k=true→(p.ev x↔t=true)→Sat f s→(∀s,Sat f s→k s=true→False)→False:=by
 induction p with
 |le a b=>
  refine fun{t} {zz zz} h hp hs K=>Gq hf a h hs fun ag s e hs h=>Gq hf b h hs fun lb s e' hs h=>K _ (hs.cons ?_) h;cases t with
  |true=>
   show 0≤(lb.sb ag).ev f;rw[Li.tw,e,e'];exact Int.sub_nonneg_of_le (hp.mpr rfl)
  |false=>
   show 0≤(ag.sb lb).pd.ev f;rw[Li.Gn,Li.tw,e,e'];exact Gp (Int.lt_of_not_ge fun z=>nomatch hp.mp z)
 |im p q ip iq=>
  intro t s k h hp hs K;cases t with
  |true=>
   have h:=(Bool.and_eq_true ..).mp h
   by_cases c:p.ev x
   ·exact iq h.2 ⟨fun zz=>rfl,fun zz=>hp.mpr rfl c⟩ hs K
   ·exact ip h.1 ⟨fun z=>absurd z c,fun z=>nomatch z⟩ hs K
  |false=>
   have hn:(p.ev x→q.ev x)→False:=fun z=>nomatch hp.mp z
   by_cases c:p.ev x
   ·exact ip h ⟨fun zz=>rfl,fun zz=>c⟩ hs fun s hs h=>iq h ⟨fun z=>(hn fun zz=>z).elim,fun z=>nomatch z⟩ hs K
   ·exact hn fun z=>absurd z c
 |fl=>
  intro t s k h hp hs K;cases t with
  |true=>exact hp.mpr rfl
  |false=>exact K s hs h
noncomputable def tl(l:Li):Li:=⟨l.c,D2 l.l⟩
noncomputable def ti(g:Int)(l:Li):Li:=bif decide (0<g)&&y5 g (l.l.map (· / g))==l.l then⟨l.c/g,l.l.map (· / g)⟩ else l
noncomputable def Pg(l:Li):Li:=ti (l.l.foldr (fun a g=>Nat.gcd g a.natAbs) 0:Nat) l
theorem Ph{f:Nat→Int}{l:Li}{g:Int}(h:0≤l.ev f):0≤(ti g l).ev f:=by
 unfold ti;cases c:decide (0<g)&&y5 g (l.l.map (· / g))==l.l with
 |false=>exact h
 |true=>
  have c:=(Bool.and_eq_true ..).mp c;have e:=eq_of_beq c.2;show 0≤l.c/g+dot f (l.l.map (· / g))
  have h:0≤l.c+dot f l.l:=h;rw[←e,y6]at h;rw[←Int.add_mul_ediv_left _ _ (Int.ne_of_gt (of_decide_eq_true c.1))];exact Int.ediv_nonneg h (Int.le_of_lt (of_decide_eq_true c.1))
noncomputable def pr(p q:Li):Li:=.ad (.sc (-fL 0 q.l) p) (.sc (fL 0 p.l) q)
noncomputable def pairs(p:Li)(s:Sy):Sy:=(s.filter fun q=>decide (fL 0 q.l<0)).map fun q=>Pg (tl (pr p q))
noncomputable def elim(s:Sy):Sy:=((s.filter fun p=>decide (fL 0 p.l=0)).map tl)++(s.filter fun p=>decide (0<fL 0 p.l)).flatMap fun p=>pairs p s
noncomputable def bad(l:Li):Bool:=decide (l.c<0)&&l.l.all fun a=>decide (a=0)
noncomputable def fm:Nat→Sy→Bool
 |0,s=>s.any bad
 |n+1,s=>s.any bad||fm n (elim s)
theorem D3(l:List Int):∀ {f:Nat→Int},(l.all fun a=>decide (a=0))=true→dot f l=0:=by
 induction l with
 |nil=>exact fun zz=>rfl
 |cons a l ih=>
  intro f h;have h:=(Bool.and_eq_true ..).mp h;rw[Gl,ih h.2,of_decide_eq_true h.1,Int.zero_mul];rfl
theorem y7{f:Nat→Int}{s:Sy}(h:s.any bad=true)(hs:Sat f s):False:=
 let⟨l,m,b⟩:=List.any_eq_true.mp h
 have b:=(Bool.and_eq_true ..).mp b
 absurd (of_decide_eq_true b.1) (Int.not_lt_of_ge ((Int.add_zero l.c)▸D3 l.l (f:=f) b.2▸hs l m))
theorem Pj{f:Nat→Int}{l:Li}:l.ev f=fL 0 l.l*f 0+(tl l).ev (fun i=>f (i+1)):=
 (congrArg (l.c + ·) (CU l.l)).trans (Int.add_left_comm ..)
theorem M3{f:Nat→Int}{l:Li}(h:fL 0 l.l=0):(tl l).ev (fun i=>f (i+1))=l.ev f:=by
 rw[Pj (f:=f) (l:=l),h,Int.zero_mul,Int.zero_add]
theorem CV{c:Int}{a:List Int}:fL 0 (y5 c a)=c*fL 0 a:=by
 cases a with
 |nil=>exact(Int.mul_zero c).symm
 |cons=>rfl
theorem KC{a b:List Int}:fL 0 (Gk a b)=fL 0 a+fL 0 b:=by
 cases a with
 |nil=>exact(Int.zero_add _).symm
 |cons=>rfl
theorem Pk{p q:Li}:fL 0 (pr p q).l=0:=by
 refine KC.trans ?_;rw[show fL 0 (Li.sc (-fL 0 q.l) p).l=_ from CV,show fL 0 (Li.sc (fL 0 p.l) q).l=_ from CV,Int.neg_mul,Int.mul_comm];exact Int.add_left_neg _
theorem Gr{f:Nat→Int}{s:Sy}(hs:Sat f s):Sat (fun i=>f (i+1)) (elim s):=fun l m=>by
 rcases List.mem_append.mp m with m|m
 ·let⟨p,m,e⟩:=List.mem_map.mp m
  have m:=List.mem_filter.mp m;exact e▸M3 (f:=f) (of_decide_eq_true m.2)▸hs p m.1
 ·let⟨p,m,e⟩:=List.mem_flatMap.mp m
  have m:=List.mem_filter.mp m
  let⟨q,n,e⟩:=List.mem_map.mp e
  have n:=List.mem_filter.mp n;rw[←e];refine Ph ?_;rw[M3 Pk];have:=Int.le_of_lt (of_decide_eq_true m.2);have:=Int.neg_nonneg_of_nonpos (Int.le_of_lt (of_decide_eq_true n.2));rw[show pr p q=.ad (.sc (-fL 0 q.l) p) (.sc (fL 0 p.l) q) from rfl,Li.AR,Li.xE,Li.xE];exact Int.add_nonneg (Int.mul_nonneg this (hs p m.1)) (Int.mul_nonneg (Int.le_of_lt (of_decide_eq_true m.2)) (hs q n.1))
theorem Pl(n:Nat):∀ {f:Nat→Int} {s:Sy},fm n s=true→Sat f s→False:=by
 induction n with
 |zero=>exact y7
 |succ n ih=>exact fun h hs=>((Bool.or_eq_true ..).mp h).elim (fun h=>y7 h hs) fun h=>ih h (Gr hs)
noncomputable def nn:Nat→Sy
 |0=>[]
 |n+1=>⟨0,un n⟩::nn n
noncomputable def S9(n m:Nat)(p:Pc):Bool:=as p false (nn n) (fm (n+n+m+m))
theorem Pm{a:List Nat}{b:List Int}(n:Nat):Sat (fv a b) (nn n):=by
 induction n with
 |zero=>exact fun l m=>nomatch m
 |succ n ih=>exact ih.cons (((Int.zero_add _).trans (CT n)).symm.subst (motive:=fun z=>0≤z) (Int.natCast_nonneg _))
theorem KD{n m:Nat}{p:Pc}(h:S9 n m p=true)(x:Cx):p.ev x:=Classical.byContradiction fun c=>
 Pf rfl p h ⟨fun z=>absurd z c,fun z=>nomatch z⟩ (Pm n) fun s hs h=>Pl _ h hs
structure Nx where
 d:Cx→Nat
 c:Cd
 ok:∀x,((d x:Nat):Int)=c.ev x
structure Zx where
 d:Cx→Int
 c:Cd
 ok:∀x,d x=c.ev x
structure Px where
 d:Cx→Prop
 c:Pc
 ok:∀x,d x↔c.ev x
theorem Ta{a b:Int}:a=b↔((a≤b→b≤a→False)→False):=⟨fun e k=>k (Int.le_of_eq e) (Int.le_of_eq e.symm),fun h=>Classical.byContradiction fun c=>h fun p q=>c (Int.le_antisymm p q)⟩
theorem Pn{m n:Nat}:((m-n:Nat):Int)=((m:Int)-(n:Int)).toNat:=congrArg Nat.cast (Int.toNat_sub m n).symm
theorem Pp{a b:Int}:min a b=a-(a-b).toNat:=by
 rw[Int.min_def]
 by_cases h:a≤b
 ·rw[if_pos h,Int.toNat_of_nonpos (Int.sub_nonpos_of_le h)];exact(Int.sub_zero a).symm
 ·rw[if_neg h,Int.toNat_of_nonneg (Int.sub_nonneg_of_le (Int.le_of_lt (Int.not_le.mp h))),Int.sub_sub_self]
theorem Pq{a b:Int}:max a b=b+(a-b).toNat:=by
 rw[Int.max_def]
 by_cases h:a≤b
 ·rw[if_pos h,Int.toNat_of_nonpos (Int.sub_nonpos_of_le h)];exact(Int.add_zero b).symm
 ·rw[if_neg h,Int.toNat_of_nonneg (Int.sub_nonneg_of_le (Int.le_of_lt (Int.not_le.mp h))),Int.add_comm,Int.sub_add_cancel]
theorem KG{a b:Nat}:((min a b:Nat):Int)=min (a:Int) b:=by
 rw[Nat.min_def,Int.min_def]
 by_cases h:a≤b
 ·rw[if_pos h,if_pos (Int.ofNat_le.mpr h)]
 ·rw[if_neg h,if_neg fun z=>h (Int.ofNat_le.mp z)]
noncomputable abbrev nv(i:Nat):Nx:=⟨fun x=>at' 0 x.a i,.v i,fun zz=>rfl⟩
noncomputable abbrev nk(n:Nat):Nx:=⟨fun zz=>n,.k n,fun zz=>rfl⟩
section
variable(a b:Nx)(p q:Zx)
noncomputable abbrev aj:Nx:=⟨fun x=>a.d x+b.d x,.ad a.c b.c,fun x=>Kz (f:=(· + ·)) (a.ok x) (b.ok x)⟩
noncomputable abbrev bb:Nx:=⟨fun x=>a.d x-b.d x,.ts a.c b.c,fun x=>by rw[Pn,a.ok,b.ok];rfl⟩
noncomputable abbrev cZ(c:Nat)(a:Nx):Nx:=⟨fun x=>c*a.d x,.ml c a.c,fun x=>congrArg ((c:Int) * ·) (a.ok x)⟩
noncomputable abbrev sj(c:Nat):Nx:=⟨fun x=>a.d x*c,.ml c a.c,fun x=>(congrArg (· * (c:Int)) (a.ok x)).trans (Int.mul_comm ..)⟩
noncomputable abbrev AS:Zx:=⟨fun x=>min (p.d x) (q.d x),.sb p.c (.ts p.c q.c),fun x=>by rw[Pp,p.ok,q.ok];rfl⟩
noncomputable abbrev xF:Zx:=⟨fun x=>max (p.d x) (q.d x),.ad q.c (.ts p.c q.c),fun x=>by rw[Pq,p.ok,q.ok];rfl⟩
noncomputable abbrev az:Zx:=⟨fun x=>(a.d x:Nat),a.c,a.ok⟩
noncomputable abbrev jS:Nx:=⟨fun x=>min (a.d x) (b.d x),(AS (az a) (az b)).c,fun x=>KG.trans ((AS (az a) (az b)).ok x)⟩
noncomputable abbrev dB:Nx:=⟨fun x=>(p.d x).toNat,.ts p.c (.k 0),fun x=>by rw[p.ok,←Int.sub_zero (p.c.ev x)];rfl⟩
noncomputable abbrev zv(i:Nat):Zx:=⟨fun x=>at' 0 x.b i,.z i,fun zz=>rfl⟩
noncomputable abbrev zk(n:Int):Zx:=⟨fun zz=>n,.k n,fun zz=>rfl⟩
noncomputable abbrev bh:Zx:=⟨fun x=>p.d x+q.d x,.ad p.c q.c,fun x=>Kz (f:=(· + ·)) (p.ok x) (q.ok x)⟩
noncomputable abbrev bR:Zx:=⟨fun x=>p.d x-q.d x,.sb p.c q.c,fun x=>Kz (f:=(· - ·)) (p.ok x) (q.ok x)⟩
noncomputable abbrev cI:Zx:=⟨fun x => -p.d x,.ml (-1) p.c,fun x=>(congrArg (- ·) (p.ok x)).trans (Int.neg_eq_neg_one_mul _)⟩
noncomputable abbrev xG(c:Int)(p:Zx):Zx:=⟨fun x=>c*p.d x,.ml c p.c,fun x=>congrArg (c * ·) (p.ok x)⟩
noncomputable abbrev Pr(c:Int):Zx:=⟨fun x=>p.d x*c,.ml c p.c,fun x=>(congrArg (· * c) (p.ok x)).trans (Int.mul_comm ..)⟩
noncomputable abbrev ja:Nx:=⟨fun x=>(p.d x).natAbs,(aj (dB p) (dB (cI p))).c,fun x=>(congrArg Nat.cast (Int.toNat_add_toNat_neg_eq_natAbs _).symm).trans ((aj (dB p) (dB (cI p))).ok x)⟩
noncomputable abbrev ai:Px:=⟨fun x=>p.d x≤q.d x,.le p.c q.c,fun x=>by rw[p.ok,q.ok];rfl⟩
noncomputable abbrev aK:Px:=⟨fun x=>p.d x<q.d x,.le (.ad p.c (.k 1)) q.c,fun x=>by rw[p.ok,q.ok];rfl⟩
noncomputable abbrev aS:Px:=⟨fun x=>p.d x=q.d x,.im (.im (.le p.c q.c) (.im (.le q.c p.c) .fl)) .fl,fun x=>by rw[p.ok,q.ok];exact Ta⟩
noncomputable abbrev ae:Px:=⟨fun x=>a.d x≤b.d x,.le a.c b.c,fun x=>Int.ofNat_le.symm.trans ((ai (az a) (az b)).ok x)⟩
noncomputable abbrev ak:Px:=⟨fun x=>a.d x<b.d x,.le (.ad a.c (.k 1)) b.c,fun x=>Int.ofNat_lt.symm.trans ((aK (az a) (az b)).ok x)⟩
noncomputable abbrev ax:Px:=⟨fun x=>a.d x=b.d x,(aS (az a) (az b)).c,fun x=>Int.ofNat_inj.symm.trans ((aS (az a) (az b)).ok x)⟩
end
section
variable(p q:Px)
noncomputable abbrev aa:Px:=⟨fun x=>p.d x→q.d x,.im p.c q.c,fun x=>imp_congr (p.ok x) (q.ok x)⟩
noncomputable abbrev KH:Px:=⟨fun zz=>False,.fl,fun zz=>Iff.rfl⟩
noncomputable abbrev dJ:Px:=⟨fun x=>¬p.d x,.im p.c .fl,fun x=>not_congr (p.ok x)⟩
noncomputable abbrev aT:Px:=⟨fun x=>p.d x∧q.d x,.im (.im p.c (.im q.c .fl)) .fl,fun x=>by rw[p.ok,q.ok];exact⟨fun h k=>k h.1 h.2,fun h=>Classical.byContradiction fun c=>h fun a b=>c ⟨a,b⟩⟩⟩
noncomputable abbrev lpo:Px:=⟨fun x=>p.d x∨q.d x,.im (.im p.c .fl) q.c,fun x=>by rw[p.ok,q.ok];exact⟨fun h k=>h.resolve_left k,fun h=>Classical.byCases (fun c:p.c.ev x=>.inl c) fun c=>.inr (h c)⟩⟩
end
noncomputable abbrev Gs(a b:Nx):Px:=dJ (ax a b)
noncomputable abbrev fI(a b:Zx):Px:=dJ (aS a b)
noncomputable abbrev b6:Nx:=nk 0
noncomputable abbrev aC:Nx:=nk 1
noncomputable abbrev fe:Nx:=nk 10
noncomputable abbrev cy:Nx:=nk 100
noncomputable abbrev bw:Nx:=nk 1000
noncomputable abbrev aQ:Nx:=nk 1000000
noncomputable abbrev bq:Nx:=nk 16777216
noncomputable abbrev gU:Nx:=nk 2
noncomputable abbrev cm:Nx:=nk 3
noncomputable abbrev cS:Nx:=nk 300
noncomputable abbrev eg:Nx:=nk 64
noncomputable abbrev d4:Nx:=nk 900
noncomputable abbrev c9:Nx:=nk 9000
noncomputable abbrev ab:Nx:=nv 0
noncomputable abbrev af:Nx:=nv 1
noncomputable abbrev au:Nx:=nv 2
noncomputable abbrev aM:Nx:=nv 3
noncomputable abbrev de:Nx:=nv 4
noncomputable abbrev Gu:Nx:=nv 5
noncomputable abbrev Tb:Nx:=nv 6
noncomputable abbrev aJ:Zx:=zk 0
noncomputable abbrev bV:Zx:=zk 1
noncomputable abbrev dm:Zx:=zk 100
noncomputable abbrev jT:Zx:=zk 2
noncomputable abbrev dC:Zx:=zk 20
noncomputable abbrev aq:Zx:=zv 0
noncomputable abbrev aN:Zx:=zv 1
noncomputable abbrev cu:Zx:=zv 2
noncomputable abbrev fy:Zx:=zv 3
noncomputable abbrev kR:Zx:=zv 4
noncomputable abbrev Gv:Zx:=zv 5
def Tc(n:Nat)(l:List Int)(f:List Int→Prop):Prop:=n.rec (motive:=fun zz=>List Int→Prop) f (fun zz r l=>∀ {x:Int},r (x::l)) l
def Td(n:Nat)(l:List Nat)(f:List Nat→Prop):Prop:=n.rec (motive:=fun zz=>List Nat→Prop) f (fun zz r l=>∀ {x:Nat},r (x::l)) l
theorem KI{f:List Int→Prop}(h:∀l,f l)(n:Nat):∀ {l:List Int},Tc n l f:=by
 induction n with
 |zero=>exact h _
 |succ n ih=>exact ih
theorem KJ{f:List Nat→Prop}(h:∀l,f l)(n:Nat):∀ {l:List Nat},Td n l f:=by
 induction n with
 |zero=>exact h _
 |succ n ih=>exact ih
def LA(n m:Nat)(p:Px):Prop:=Td n [] fun a=>Tc m [] fun b=>p.d ⟨a,b⟩
theorem ag(n m:Nat)(p:Px)(h:S9 n m p.c=true):LA n m p:=KJ (fun a=>KI (fun b=>(p.ok ⟨a,b⟩).mpr (KD h ⟨a,b⟩)) m) n
theorem o1:LA 3 0 (aa (ae af ab) (aa (ae (aj au ab) d4) (ae (aj au af) d4))):=@ag _ _ _ (by kd_p)
theorem o2:LA 3 0 (aa (ae af ab) (aa (ae (aj au (cZ 16 ab)) c9) (ae (aj au (cZ 16 af)) c9))):=@ag _ _ _ (by kd_p)
theorem o6:LA 2 0 (aa (ae (aj af (cZ 16 (aj ab aC))) c9) (ae (aj (aj af cm) (cZ 16 ab)) c9)):=@ag _ _ _ (by kd_p)
theorem Yc:∀ {i0 i1:Int},i1<i0→(i0-i1-(1:Int))/(1:Int)+(1:Int)=(↑(i0-i1).toNat:Int):=by first|lia|omega
theorem Gw:LA 2 0 (aa (ak ab af) (ak (bb af (aj ab aC)) (bb af ab))):=@ag _ _ _ (by kd_p)
theorem Pt:LA 2 0 (aa (ae af ab) (aa (dJ (ak af ab)) (ax af ab))):=@ag _ _ _ (by kd_p)
theorem AU:LA 2 0 (aa (ae af ab) (ae af (aj ab aC))):=@ag _ _ _ (by kd_p)
theorem Pu:LA 2 0 (aa (ae (aj af aC) ab) (ae af ab)):=@ag _ _ _ (by kd_p)
theorem Te:LA 3 1 (aa (ai (cI (az au)) aq) (aa (ak au (nk (2 ^ 62))) (aa (ax au af) (aa (ax ab au) (ai (cI (zk (2 ^ 63))) aq))))):=@ag _ _ _ (by kd_p)
theorem Tf:LA 0 1 (aa (dJ (aK aq aJ)) (ai aJ aq)):=@ag _ _ _ (by kd_p)
theorem Th:LA 2 1 (aa (ak af (nk (2 ^ 62))) (aa (ax af ab) (aa (ak (dB aq) af) (aK aq (zk (2 ^ 63)))))):=@ag _ _ _ (by kd_p)
theorem Pw:LA 2 0 (aa (dJ (ak ab af)) (ae af ab)):=@ag _ _ _ (by kd_p)
theorem Py:LA 1 0 (aa (ak ab (nk (2 ^ 62))) (aK (az ab) (zk 9223372036854775808))):=@ag _ _ _ (by kd_p)
theorem Ti:LA 2 0 (aa (ax (bb af ab) b6) (ae af ab)):=@ag _ _ _ (by kd_p)
theorem Pz:LA 2 0 (aa (ae ab af) (aa (dJ (ak ab af)) (ae af ab))):=@ag _ _ _ (by kd_p)
theorem Tj:LA 3 0 (aa (ae au af) (aa (ax (bb af au) (aj ab aC)) (ak au af))):=@ag _ _ _ (by kd_p)
theorem Gx:LA 2 0 (aa (ae af ab) (ae (aj af aC) (aj ab aC))):=@ag _ _ _ (by kd_p)
theorem Gy:LA 2 0 (aa (ak af ab) (ae (aj af aC) ab)):=@ag _ _ _ (by kd_p)
theorem Yd:∀ {n0 n1:Nat},((↑n0:Int)+(↑n1:Int))/(2:Int)=(↑((n0+n1)/(2:Nat)):Int):=by first|lia|omega
theorem Ye:∀ {n0 n1 n2:Nat},n1≤n2→n0<n1→(n0+n1)/(2:Nat)<n2:=by first|lia|omega
theorem Tn:∀ {n0 n1:Nat},n0<n1→n0≤(n0+n1)/(2:Nat):=by first|lia|omega
theorem PC:∀ {n0 n1:Nat},n0<n1→(n0+n1)/(2:Nat)<n1:=by first|lia|omega
theorem AV:LA 1 0 (aa (ae ab (nk 100000)) (ae ab aQ)):=@ag _ _ _ (by kd_p)
theorem xH:LA 1 0 (dJ (aK (az ab) aJ)):=@ag _ _ _ (by kd_p)
theorem To:LA 3 0 (aa (ae au (nk 100000)) (aa (ax ab af) (ai (cI (az au)) (az af)))):=@ag _ _ _ (by kd_p)
theorem Tp:LA 1 0 (aa (aK aJ (az ab)) (ak b6 ab)):=@ag _ _ _ (by kd_p)
theorem M4:LA 0 1 (aa (ai (zk (-1000000)) aq) (aa (ai aq (zk 1000000)) (ai (zk (-4611686018427387904)) aq))):=@ag _ _ _ (by kd_p)
theorem M5:LA 0 1 (aa (ai (zk (-1000000)) aq) (aa (ai aq (zk 1000000)) (aK aq (zk 4611686018427387904)))):=@ag _ _ _ (by kd_p)
theorem M6:LA 1 0 (ai (zk (-1000000)) (az ab)):=@ag _ _ _ (by kd_p)
theorem Tq:∀ {n0 n1:Nat} {i2:Int},n1=(6:Nat)→i2=(↑(n0%(6:Nat)):Int)→n0%(6:Nat)<n1:=by first|lia|omega
theorem Tr:∀ {n0 n1:Nat} {i2:Int},n1=(6:Nat)→i2=(↑(n0%(6:Nat)):Int)→(↑n0:Int)%(6:Int)<(↑n1:Int):=by first|lia|omega
theorem Tt:∀ {n0 n1:Nat} {i2:Int},i2=(↑(n1%(6:Nat)):Int) → -(↑n0:Int)≤(↑(n1%(6:Nat)):Int):=by first|lia|omega
theorem Gz:∀ {n0 n1 n2:Nat} {i3:Int},n2≤(60:Nat)→n1<n2→i3=(↑(n1%(6:Nat)):Int) → -(↑n0:Int)≤(↑n1:Int):=by first|lia|omega
theorem GA:LA 1 0 (aa (ae ab cy) (ae ab aQ)):=@ag _ _ _ (by kd_p)
theorem M7:LA 3 0 (aa (ae ab cy) (aa (ak af ab) (ai (cI (az au)) (az af)))):=@ag _ _ _ (by kd_p)
theorem GB:LA 3 0 (aa (ae af cy) (aa (ak ab af) (aa (ae au (aj cy (cZ 3 ab))) (ae au aQ)))):=@ag _ _ _ (by kd_p)
theorem Tu:∀ {n0:Nat} {i1:Int} {n2:Nat},(i1+(3:Int)*(↑n2:Int))%(8:Int)<(8:Int)→(i1+(3:Int)*(↑n2:Int))%(8:Int)=(↑n0:Int)→n0<(8:Nat):=by first|lia|omega
theorem tA:LA 1 0 (aa (ae ab bw) (ae ab aQ)):=@ag _ _ _ (by kd_p)
theorem GC:LA 1 0 (ax (bb (aj ab aC) ab) aC):=@ag _ _ _ (by kd_p)
theorem CW:LA 2 0 (aa (ae (aj af aC) ab) (ak af ab)):=@ag _ _ _ (by kd_p)
theorem CX:LA 1 0 (aa (ae ab cS) (ae ab aQ)):=@ag _ _ _ (by kd_p)
theorem M8:LA 2 0 (aa (dJ (ax (aj af aC) ab)) (dJ (aS (bh (az af) bV) (az ab)))):=@ag _ _ _ (by kd_p)
theorem M9:∀ {n0 n1:Nat},n0<n1→¬n0+(1:Nat)=n1→n0<(n0+n1)/(2:Nat):=by first|lia|omega
theorem Na:LA 2 0 (aa (ak ab af) (aS (bR (az af) (az ab)) (az (bb af ab)))):=@ag _ _ _ (by kd_p)
theorem Nb:LA 2 0 (aa (ak ab af) (aa (aS (bR (az af) (az ab)) (az (bb af ab))) (aK (cI (az (nk 400))) (az (bb af ab))))):=@ag _ _ _ (by kd_p)
theorem Nc:LA 4 0 (aa (ae af cS) (aa (ae ab af) (aa (ak aM ab) (aa (aS (bR (az aM) (az au)) (az (bb aM au))) (aK (az (bb aM au)) (az (nk 400))))))):=@ag _ _ _ (by kd_p)
theorem Nd:LA 1 0 (aa (ae ab (nk 5000)) (aK (cI (az (nk 5001))) (az ab))):=@ag _ _ _ (by kd_p)
theorem Nf:LA 1 0 (aa (ae ab (nk 5000)) (aK (az ab) (az (nk 5001)))):=@ag _ _ _ (by kd_p)
theorem Ng:LA 3 0 (aa (ak ab au) (aa (ak ab af) (aa (ak af au) (aa (aS (bR (az af) (az ab)) (az (bb af ab))) (ak (bb au af) (bb au ab)))))):=@ag _ _ _ (by kd_p)
theorem Nh:LA 4 0 (aa (ae af cS) (aa (ae ab af) (aa (ak aM ab) (aa (aS (bR (az aM) (az au)) (az (bb aM au))) (ae (bb aM au) cS))))):=@ag _ _ _ (by kd_p)
theorem GD:LA 3 0 (aa (ae ab af) (aa (ak au ab) (ae au af))):=@ag _ _ _ (by kd_p)
theorem Ni:LA 3 0 (aa (ak af ab) (aa (ak au ab) (aa (aS (bR (az au) (az af)) (az (bb au af))) (ak (bb au af) (bb ab af))))):=@ag _ _ _ (by kd_p)
theorem Nj:LA 5 0 (aa (ae (bb af ab) (aj au aC)) (aa (ak (bb de aM) (bb af ab)) (ae (bb de aM) au))):=@ag _ _ _ (by kd_p)
theorem y8:LA 0 1 (aa (aK aJ aq) (fI aq aJ)):=@ag _ _ _ (by kd_p)
theorem Nk:LA 2 0 (aa (ax ab af) (aa (ae af (nk 4000)) (aa (ak b6 af) (ae af (nk 5000))))):=@ag _ _ _ (by kd_p)
theorem Nl:LA 1 0 (aa (ae (nk 302) ab) (ae (nk 301) ab)):=@ag _ _ _ (by kd_p)
theorem Nm:LA 3 0 (aa (ak b6 au) (aa (ak af ab) (fI (az au) aJ))):=@ag _ _ _ (by kd_p)
theorem tB:LA 0 1 (aa (aK aJ aq) (ai aJ aq)):=@ag _ _ _ (by kd_p)
theorem Nn:LA 0 4 (aa (aK cu fy) (aa (aS aN (bh (bR (bR fy cu) bV) aq)) (ai aJ (bR (bR fy cu) bV)))):=@ag _ _ _ (by kd_p)
theorem Np:LA 0 2 (aa (ai aJ aq) (aK (bR (bR aN aq) bV) aN)):=@ag _ _ _ (by kd_p)
theorem Nq:LA 0 5 (aa (aK aJ kR) (aa (aT (aS (bR (cI fy) bV) cu) (aS (bh kR (bR (cI aN) bV)) aq)) (ai aJ kR))):=@ag _ _ _ (by kd_p)
theorem y9:LA 0 1 (aa (fI aq aJ) (aa (dJ (aK aJ aq)) (aK aq aJ))):=@ag _ _ _ (by kd_p)
theorem Tv:∀ {n0 n1 n2:Nat},n2<n1→n0≤(n2+n1)/(2:Nat)→n0≤n1:=by first|lia|omega
theorem Tw:∀ {n0 n1:Nat},n0<n1→(n0+n1)/(2:Nat)+(1:Nat)≤n1:=by first|lia|omega
theorem Tx:∀ {n0 n1 n2:Nat},n0<n2→(n0+n2)/(2:Nat)+(1:Nat)≤n1→n0≤n1:=by first|lia|omega
theorem Nr:LA 1 0 (aa (ae ab bw) (ae ab (nk 100000))):=@ag _ _ _ (by kd_p)
theorem Nt:LA 2 0 (aa (dJ (ax af ab)) (dJ (aS (az af) (az ab)))):=@ag _ _ _ (by kd_p)
theorem Nu:LA 2 0 (aa (ae af ab) (aa (dJ (ax af ab)) (ak af ab))):=@ag _ _ _ (by kd_p)
theorem GF:LA 2 0 (ae af (aj af ab)):=@ag _ _ _ (by kd_p)
theorem Nv:LA 1 0 (aa (ae ab cy) (ae ab bw)):=@ag _ _ _ (by kd_p)
theorem GG:LA 1 0 (aa (ae ab cm) (ae (aj ab aC) aQ)):=@ag _ _ _ (by kd_p)
theorem GH:LA 0 1 (aa (aT (ai aJ aq) (ai aq dm)) (ai (cI (zk (2 ^ 63))) aq)):=@ag _ _ _ (by kd_p)
theorem GI:LA 0 1 (aa (aT (ai aJ aq) (ai aq dm)) (aK aq (zk (2 ^ 63)))):=@ag _ _ _ (by kd_p)
theorem GJ:LA 0 1 (aa (aT (ai aJ aq) (ai aq dm)) (ai aq (zk 16777216))):=@ag _ _ _ (by kd_p)
theorem GK:LA 2 0 (aa (ae ab cy) (aa (ae af ab) (ae af cy))):=@ag _ _ _ (by kd_p)
theorem Nw:LA 1 0 (aS (az ab) (bR (az (aj ab aC)) bV)):=@ag _ _ _ (by kd_p)
theorem Ny:LA 4 0 (aa (ae (aj au aC) aM) (aa (ax (aj au aC) af) (aa (ax au ab) (ax (bb (bb aM aC) au) (aj (bb aM (aj au aC)) b6))))):=@ag _ _ _ (by kd_p)
theorem Nz:LA 4 0 (aa (ae (aj au aC) aM) (aa (ax (aj au aC) af) (aa (ax au ab) (ax (bb aM au) (aj (bb aM (aj au aC)) aC))))):=@ag _ _ _ (by kd_p)
theorem NA:LA 4 0 (aa (ae (aj aM aC) au) (aa (ax (aj aM aC) af) (aa (ax aM ab) (ae aM au)))):=@ag _ _ _ (by kd_p)
theorem za:LA 2 0 (aa (ae af (aj ab aC)) (ae af (aj (aj ab aC) aC))):=@ag _ _ _ (by kd_p)
theorem NB:LA 2 0 (aa (ae ab bw) (aa (ae af ab) (ae af aQ))):=@ag _ _ _ (by kd_p)
theorem GL:LA 2 0 (aa (ae ab bw) (aa (ae af ab) (ae af bw))):=@ag _ _ _ (by kd_p)
theorem GN:LA 2 0 (aa (ax (jS af ab) af) (ae af ab)):=@ag _ _ _ (by kd_p)
theorem NC:LA 1 0 (aa (ae ab (nk 5000)) (ae ab aQ)):=@ag _ _ _ (by kd_p)
theorem GO:LA 1 0 (aa (ae ab (nk 2000)) (ae ab aQ)):=@ag _ _ _ (by kd_p)
theorem ND:LA 2 0 (aa (dJ (ae ab af)) (ak af ab)):=@ag _ _ _ (by kd_p)
theorem NF:LA 4 0 (aa (aT (ae aM (aj (aj (aj au aC) af) aC)) (ae ab (aj (aj au aC) af))) (aT (ae aM (aj (aj au (aj af aC)) aC)) (ae ab (aj au (aj af aC))))):=@ag _ _ _ (by kd_p)
theorem NG:LA 3 0 (aa (ae af ab) (aa (ae au af) (ae (aj au (aj (bb af au) aC)) (aj (aj ab aC) aC)))):=@ag _ _ _ (by kd_p)
theorem NH:LA 4 0 (aa (ae au d4) (aa (ax af au) (aa (ae aM (aj ab aC)) (aa (ak ab af) (ae aM (nk 2000)))))):=@ag _ _ _ (by kd_p)
theorem NI:LA 2 0 (aa (ae (aj af (aj ab aC)) (nk 1001)) (ae (aj af ab) (nk 1001))):=@ag _ _ _ (by kd_p)
theorem GP:LA 1 0 (aa (ae ab (nk 950)) (ae ab aQ)):=@ag _ _ _ (by kd_p)
theorem NJ:LA 1 1 (aa (aT (ai aJ aq) (ai aq (az ab))) (aT (ai aJ aq) (ai aq (az (aj ab aC))))):=@ag _ _ _ (by kd_p)
theorem NK:LA 3 0 (aa (ae au af) (ae au (aj (aj af aC) ab))):=@ag _ _ _ (by kd_p)
theorem NL:LA 1 0 (ae aC (aj gU ab)):=@ag _ _ _ (by kd_p)
theorem NM:LA 1 1 (aa (aT (ai aJ aq) (ai aq (zk 950))) (aa (ak ab (dB aq)) (ae (aj gU ab) bw))):=@ag _ _ _ (by kd_p)
theorem NN:∀ {n0:Nat},n0<(9:Nat)→n0/(3:Nat)<(3:Nat):=by first|lia|omega
theorem NO:∀ {n0:Nat},n0%(3:Nat)<(3:Nat):=by first|lia|omega
theorem NP:LA 1 0 (aS (bR (az (aj ab aC)) bV) (az ab)):=@ag _ _ _ (by kd_p)
theorem wd:LA 2 0 (ai (cI (az af)) (az ab)):=@ag _ _ _ (by kd_p)
theorem NQ:∀ {n0 n1:Nat} {i2 i3:Int},n1<(9:Nat)→i2=(↑(n1/(3:Nat)):Int)→i3=(↑(n1%(3:Nat)):Int) → -(↑n0:Int)≤(↑(n1/(3:Nat)):Int):=by first|lia|omega
theorem GQ:LA 2 0 (ai (cI (az af)) (az (aj ab aC))):=@ag _ _ _ (by kd_p)
theorem NR:∀ {n0 n1:Nat} {i2 i3:Int},i2=(↑(n1/(3:Nat)):Int)→i3=(↑(n1%(3:Nat)):Int) → -(↑n0:Int)≤(↑(n1%(3:Nat)):Int):=by first|lia|omega
theorem we:LA 1 0 (aa (ae ab fe) (ae ab aQ)):=@ag _ _ _ (by kd_p)
theorem NS:LA 2 0 (aa (lpo (ax ab aC) (ax ab gU)) (aa (ax af ab) (ae af aQ))):=@ag _ _ _ (by kd_p)
theorem NT:LA 1 0 (aa (ae ab cy) (ae ab bq)):=@ag _ _ _ (by kd_p)
theorem NU:LA 1 0 (aa (ae aC ab) (aa (ak ab cm) (lpo (ax ab aC) (ax ab gU)))):=@ag _ _ _ (by kd_p)
theorem NV:LA 0 1 (aa (aT (ai aJ aq) (ai aq jT)) (ai aq dC)):=@ag _ _ _ (by kd_p)
theorem NW:LA 0 2 (aa (aT (ai aJ aN) (ai aN jT)) (aa (aT (ai bV aq) (ai aq (zk 4))) (ai (bh aN aq) dC))):=@ag _ _ _ (by kd_p)
theorem NX:LA 1 0 (aa (ae ab fe) (ae ab cy)):=@ag _ _ _ (by kd_p)
theorem NY:LA 1 0 (aa (ax ab cm) (ae ab fe)):=@ag _ _ _ (by kd_p)
theorem NZ:LA 1 0 (aa (ae ab (nk 99)) (ae (aj ab aC) aQ)):=@ag _ _ _ (by kd_p)
theorem GR:LA 2 0 (aa (ae ab (nk 5)) (aa (ak b6 ab) (aa (ak af (bb ab aC)) (ak (aj af aC) ab)))):=@ag _ _ _ (by kd_p)
theorem N0:LA 2 0 (aa (ae ab (nk 5)) (aa (ak b6 ab) (aa (ak af (bb ab aC)) (ak af ab)))):=@ag _ _ _ (by kd_p)
theorem N1:LA 2 0 (ax (aj (aj af aC) ab) (aj af (aj ab aC))):=@ag _ _ _ (by kd_p)
theorem N2:LA 4 0 (aa (ax af aM) (aa (ax ab af) (aa (dJ (ak au aM)) (ae aM au)))):=@ag _ _ _ (by kd_p)
theorem N3:LA 3 0 (aa (ax af ab) (aa (ak au ab) (ak au af))):=@ag _ _ _ (by kd_p)
theorem CY:LA 2 0 (aa (ae aC ab) (aa (ak ab eg) (aa (ax af ab) (ae af bq)))):=@ag _ _ _ (by kd_p)
theorem N4:LA 1 0 (aa (ak ab bw) (ae ab aQ)):=@ag _ _ _ (by kd_p)
theorem GS:LA 1 0 (aa (ae (aj ab aC) cm) (ae (aj ab aC) aQ)):=@ag _ _ _ (by kd_p)
theorem N5:LA 0 2 (aS (bh (cI aN) (cI aq)) (cI (bh aN aq))):=@ag _ _ _ (by kd_p)
theorem N6:LA 1 0 (ax (dB (bh (az ab) jT)) (aj ab gU)):=@ag _ _ _ (by kd_p)
theorem N7:LA 1 0 (ax (dB (bh (az ab) bV)) (aj ab aC)):=@ag _ _ _ (by kd_p)
theorem N8:LA 1 0 (ax (dB (az ab)) ab):=@ag _ _ _ (by kd_p)
theorem N9:LA 2 0 (aa (ak (aj af aC) ab) (ak af ab)):=@ag _ _ _ (by kd_p)
theorem Tz:∀ {i0:Int},(i0%(3:Int)).toNat<(3:Nat):=by first|lia|omega
theorem TB:∀ {i0:Int},(i0/(3:Int)%(3:Int)).toNat<(3:Nat):=by first|lia|omega
theorem TF:∀ {i0:Int},i0%(9:Int)<(4:Int)→(i0%(3:Int)).toNat+(3:Nat)*(i0/(3:Int)%(3:Int)).toNat<(4:Nat):=by first|lia|omega
theorem TG:∀ {i0:Int},(↑(i0%(3:Int)).toNat:Int)=i0%(3:Int):=by first|lia|omega
theorem TH:∀ {i0:Int},(↑(i0/(3:Int)%(3:Int)).toNat:Int)=i0/(3:Int)%(3:Int):=by first|lia|omega
theorem TJ:∀ {i0:Int},(i0%(5:Int)).toNat<(5:Nat):=by first|lia|omega
theorem TK:∀ {i0:Int},(1:Int)+i0/(16:Int)%(2:Int)=(1:Int)∨(1:Int)+i0/(16:Int)%(2:Int)=(2:Int):=by first|lia|omega
theorem TL:∀ {i0:Int},i0/(32:Int)%(3:Int)=(0:Int)∨i0/(32:Int)%(3:Int)=(1:Int)∨i0/(32:Int)%(3:Int)=(2:Int):=by first|lia|omega
theorem TM:∀ {i0:Int},(0:Int)≤i0/(16:Int)%(2:Int)∧i0/(16:Int)%(2:Int)≤(1:Int):=by first|lia|omega
theorem Oa:LA 0 1 (aa (aT (ai aJ aq) (ai aq bV)) (aK aJ (bh (zk 3) aq))):=@ag _ _ _ (by kd_p)
theorem TN:∀ {i0:Int},(0:Int)≤i0%(5:Int)∧i0%(5:Int)<(5:Int):=by first|lia|omega
theorem Ob:LA 0 1 (aa (aT (ai aJ aq) (aK aq (zk 5))) (aS aq (az (dB aq)))):=@ag _ _ _ (by kd_p)
theorem Oc:LA 1 1 (aa (aT (ai aJ aq) (aK aq (zk 5))) (ai (cI (az ab)) aq)):=@ag _ _ _ (by kd_p)
theorem Od:LA 1 0 (aa (ae ab (nk 5)) (ak (ja (bh (az ab) bV)) (nk (2 ^ 10)))):=@ag _ _ _ (by kd_p)
theorem TO:∀ {i0:Int} {n1:Nat},(i0%(8:Int)+(3:Int)*(↑n1:Int))%(8:Int)=(i0+(3:Int)*(↑n1:Int))%(8:Int):=by first|lia|omega
theorem TP:∀ {i0:Int},(↑(i0%(8:Int)).toNat:Int)=i0%(8:Int):=by first|lia|omega
theorem TQ:∀ {i0:Int},(i0%(8:Int)).toNat<(8:Nat):=by first|lia|omega
theorem GU:LA 1 0 (aa (ae ab fe) (ai (az ab) (az fe))):=@ag _ _ _ (by kd_p)
theorem Oe:LA 1 0 (aa (ae ab cy) (ak ab (nk (2 ^ 62)))):=@ag _ _ _ (by kd_p)
theorem CZ:LA 1 0 (aa (ak ab cm) (lpo (ax ab b6) (lpo (ax ab aC) (ax ab gU)))):=@ag _ _ _ (by kd_p)
theorem Of:LA 2 0 (aa (ak ab cm) (ai (cI (az af)) (az ab))):=@ag _ _ _ (by kd_p)
theorem Og:LA 1 0 (aa (lpo (ax ab (nk 91)) (lpo (ax ab (nk 122)) (lpo (ax ab (nk 118)) (ax ab (nk 93))))) (aa (lpo (ax ab (nk 60)) (lpo (ax ab (nk 63)) (lpo (ax ab (nk 127)) (lpo (ax ab (nk 130)) (lpo (ax ab (nk 69)) (lpo (ax ab (nk 68)) (lpo (ax ab (nk 113)) (lpo (ax ab (nk 112)) (lpo (ax ab (nk 102)) (ax ab (nk 105))))))))))) KH)):=@ag _ _ _ (by kd_p)
theorem Oh:LA 0 1 (aa (aT (ai aJ aq) (aK aq (zk 8))) (ai aq (zk 7))):=@ag _ _ _ (by kd_p)
theorem TR:∀ {i0 i1:Int},(0:Int)<i1→(0:Int)≤i0→i0≤i1*(7:Int)→(0:Int)≤i0/(8:Int)∧i0/(8:Int)<i1:=by first|lia|omega
theorem Oi:LA 0 1 (aa (aK aq aJ) (ai aJ (cI aq))):=@ag _ _ _ (by kd_p)
theorem TS:∀ {i0 i1:Int},i1<(0:Int)→(0:Int)≤i0→i0 ≤ -i1*(7:Int) → -(i0/(8:Int))≤(0:Int)∧i1 < -(i0/(8:Int)):=by first|lia|omega
theorem Oj:LA 5 0 (aa (ak au eg) (aa (ae af au) (aa (ax ab af) (aa (ak aM af) (aa (ak aM ab) (ai (cI (az de)) (az aM))))))):=@ag _ _ _ (by kd_p)
theorem Ol:LA 2 0 (aa (ak ab eg) (aa (ae af ab) (ae af cy))):=@ag _ _ _ (by kd_p)
theorem GV:LA 1 0 (aa (ak ab eg) (ae ab (nk 100000))):=@ag _ _ _ (by kd_p)
theorem Om:LA 1 0 (aa (ak ab eg) (ae ab aQ)):=@ag _ _ _ (by kd_p)
theorem GW:LA 0 2 (aS (bh aN (cI aq)) (bR aN aq)):=@ag _ _ _ (by kd_p)
theorem qe  {P1 P2 P3:Prop} {G:Prop} (h:P1∧P2∧P3) (k:P1→P2→P3→G):G:=by
 obtain⟨h1,h2,h3⟩:=h;exact k h1 h2 h3
theorem PD{aE:Sort _}{P1:Prop}{P2:aE→Prop}{G:Prop}(h:P1∧∃a1,P2 a1)(k:P1→∀a1,P2 a1→G):G:=by
 obtain⟨h1,a1,h2⟩:=h;exact k h1 a1 h2
theorem aW{aE:Sort _}{P1 P2:aE→Prop}{G:Prop}(h:∃a1,P1 a1∧P2 a1)(k:∀a1,P1 a1→P2 a1→G):G:=by
 obtain⟨a1,h1,h2⟩:=h;exact k a1 h1 h2
theorem PE{aE aV:Sort _}{P1:aE→aV→Prop}{G:Prop}(h:∃a1 a2,P1 a1 a2)(k:∀a1 a2,P1 a1 a2→G):G:=by
 obtain⟨a1,a2,h1⟩:=h;exact k a1 a2 h1
theorem wg  {P1 P2 P3 P4:Prop} {G:Prop} (h:P1∧P2∧P3∧P4) (k:P1→P2→P3→P4→G):G:=by
 obtain⟨h1,h2,h3,h4⟩:=h;exact k h1 h2 h3 h4
theorem zb{aE:Sort _}{P1 P2:Prop}{P3:aE→Prop}{G:Prop}(h:P1∧P2∧∃a1,P3 a1)(k:P1→P2→∀a1,P3 a1→G):G:=by
 obtain⟨h1,h2,a1,h3⟩:=h;exact k h1 h2 a1 h3
theorem GX{aE:Sort _}{P1:Prop}{P2 P3:aE→Prop}{G:Prop}(h:P1∧∃a1,P2 a1∧P3 a1)(k:P1→∀a1,P2 a1→P3 a1→G):G:=by
 obtain⟨h1,a1,h2,h3⟩:=h;exact k h1 a1 h2 h3
theorem gJ{aE:Sort _}{P1 P2 P3:aE→Prop}{G:Prop}(h:∃a1,P1 a1∧P2 a1∧P3 a1)(k:∀a1,P1 a1→P2 a1→P3 a1→G):G:=by
 obtain⟨a1,h1,h2,h3⟩:=h;exact k a1 h1 h2 h3
theorem j0{aE aV:Sort _}{P1 P2:aE→aV→Prop}{G:Prop}(h:∃a1 a2,P1 a1 a2∧P2 a1 a2)(k:∀a1 a2,P1 a1 a2→P2 a1 a2→G):G:=by
 obtain⟨a1,a2,h1,h2⟩:=h;exact k a1 a2 h1 h2
theorem GY{aE aV dK:Sort _}{P1:aE→aV→dK→Prop}{G:Prop}(h:∃a1 a2 a3,P1 a1 a2 a3)(k:∀a1 a2 a3,P1 a1 a2 a3→G):G:=by
 obtain⟨a1,a2,a3,h1⟩:=h;exact k a1 a2 a3 h1
theorem PF  {P1 P2 P3 P4 P5:Prop} {G:Prop} (h:P1∧P2∧P3∧P4∧P5) (k:P1→P2→P3→P4→P5→G):G:=by
 obtain⟨h1,h2,h3,h4,h5⟩:=h;exact k h1 h2 h3 h4 h5
theorem GZ{aE:Sort _}{P1 P2 P3:Prop}{P4:aE→Prop}{G:Prop}(h:P1∧P2∧P3∧∃a1,P4 a1)(k:P1→P2→P3→∀a1,P4 a1→G):G:=by
 obtain⟨h1,h2,h3,a1,h4⟩:=h;exact k h1 h2 h3 a1 h4
theorem ew{aE aV:Sort _}{P1:Prop}{P2 P3:aE→aV→Prop}{G:Prop}(h:P1∧∃a1 a2,P2 a1 a2∧P3 a1 a2)(k:P1→∀a1 a2,P2 a1 a2→P3 a1 a2→G):G:=by
 obtain⟨h1,a1,a2,h2,h3⟩:=h;exact k h1 a1 a2 h2 h3
theorem PG{aE:Sort _}{P1 P2 P3 P4:aE→Prop}{G:Prop}(h:∃a1,P1 a1∧P2 a1∧P3 a1∧P4 a1)(k:∀a1,P1 a1→P2 a1→P3 a1→P4 a1→G):G:=by
 obtain⟨a1,h1,h2,h3,h4⟩:=h;exact k a1 h1 h2 h3 h4
theorem oy{aE aV:Sort _}{P1 P2 P3:aE→aV→Prop}{G:Prop}(h:∃a1 a2,P1 a1 a2∧P2 a1 a2∧P3 a1 a2)(k:∀a1 a2,P1 a1 a2→P2 a1 a2→P3 a1 a2→G):G:=by
 obtain⟨a1,a2,h1,h2,h3⟩:=h;exact k a1 a2 h1 h2 h3
theorem oz{aE aV dK:Sort _}{P1 P2:aE→aV→dK→Prop}{G:Prop}(h:∃a1 a2 a3,P1 a1 a2 a3∧P2 a1 a2 a3)(k:∀a1 a2 a3,P1 a1 a2 a3→P2 a1 a2 a3→G):G:=by
 obtain⟨a1,a2,a3,h1,h2⟩:=h;exact k a1 a2 a3 h1 h2
theorem sX  {P1 P2 P3 P4 P5 P6:Prop} {G:Prop} (h:P1∧P2∧P3∧P4∧P5∧P6) (k:P1→P2→P3→P4→P5→P6→G):G:=by
 obtain⟨h1,h2,h3,h4,h5,h6⟩:=h;exact k h1 h2 h3 h4 h5 h6
theorem sY{aE:Sort _}{P1 P2 P3 P4:Prop}{P5:aE→Prop}{G:Prop}(h:P1∧P2∧P3∧P4∧∃a1,P5 a1)(k:P1→P2→P3→P4→∀a1,P5 a1→G):G:=by
 obtain⟨h1,h2,h3,h4,a1,h5⟩:=h;exact k h1 h2 h3 h4 a1 h5
theorem KL{aE aV:Sort _}{P1:Prop}{P2 P3 P4:aE→aV→Prop}{G:Prop}(h:P1∧∃a1 a2,P2 a1 a2∧P3 a1 a2∧P4 a1 a2)(k:P1→∀a1 a2,P2 a1 a2→P3 a1 a2→P4 a1 a2→G):G:=by
 obtain⟨h1,a1,a2,h2,h3,h4⟩:=h;exact k h1 a1 a2 h2 h3 h4
theorem C8{aE:Sort _}{P1 P2 P3 P4 P5:aE→Prop}{G:Prop}(h:∃a1,P1 a1∧P2 a1∧P3 a1∧P4 a1∧P5 a1)(k:∀a1,P1 a1→P2 a1→P3 a1→P4 a1→P5 a1→G):G:=by
 obtain⟨a1,h1,h2,h3,h4,h5⟩:=h;exact k a1 h1 h2 h3 h4 h5
theorem KN{aE aV:Sort _}{P1 P2 P3 P4:aE→aV→Prop}{G:Prop}(h:∃a1 a2,P1 a1 a2∧P2 a1 a2∧P3 a1 a2∧P4 a1 a2)(k:∀a1 a2,P1 a1 a2→P2 a1 a2→P3 a1 a2→P4 a1 a2→G):G:=by
 obtain⟨a1,a2,h1,h2,h3,h4⟩:=h;exact k a1 a2 h1 h2 h3 h4
theorem ph{aE aV dK:Sort _}{P1 P2 P3:aE→aV→dK→Prop}{G:Prop}(h:∃a1 a2 a3,P1 a1 a2 a3∧P2 a1 a2 a3∧P3 a1 a2 a3)(k:∀a1 a2 a3,P1 a1 a2 a3→P2 a1 a2 a3→P3 a1 a2 a3→G):G:=by
 obtain⟨a1,a2,a3,h1,h2,h3⟩:=h;exact k a1 a2 a3 h1 h2 h3
theorem C9{aE aV dK fz:Sort _}{P1 P2:aE→aV→dK→fz→Prop}{G:Prop}(h:∃a1 a2 a3 a4,P1 a1 a2 a3 a4∧P2 a1 a2 a3 a4)(k:∀a1 a2 a3 a4,P1 a1 a2 a3 a4→P2 a1 a2 a3 a4→G):G:=by
 obtain⟨a1,a2,a3,a4,h1,h2⟩:=h;exact k a1 a2 a3 a4 h1 h2
theorem Dc{aE aV dK fz iM:Sort _}{P1:aE→aV→dK→fz→iM→Prop}{G:Prop}(h:∃a1 a2 a3 a4 a5,P1 a1 a2 a3 a4 a5)(k:∀a1 a2 a3 a4 a5,P1 a1 a2 a3 a4 a5→G):G:=by
 obtain⟨a1,a2,a3,a4,a5,h1⟩:=h;exact k a1 a2 a3 a4 a5 h1
theorem G0{aE aV:Sort _}{P1 P2 P3:Prop}{P4 P5:aE→aV→Prop}{G:Prop}(h:P1∧P2∧P3∧∃a1 a2,P4 a1 a2∧P5 a1 a2)(k:P1→P2→P3→∀a1 a2,P4 a1 a2→P5 a1 a2→G):G:=by
 obtain⟨h1,h2,h3,a1,a2,h4,h5⟩:=h;exact k h1 h2 h3 a1 a2 h4 h5
theorem mw{aE aV:Sort _}{P1 P2 P3 P4 P5:aE→aV→Prop}{G:Prop}(h:∃a1 a2,P1 a1 a2∧P2 a1 a2∧P3 a1 a2∧P4 a1 a2∧P5 a1 a2)(k:∀a1 a2,P1 a1 a2→P2 a1 a2→P3 a1 a2→P4 a1 a2→P5 a1 a2→G):G:=by
 obtain⟨a1,a2,h1,h2,h3,h4,h5⟩:=h;exact k a1 a2 h1 h2 h3 h4 h5
theorem br{aE aV dK:Sort _}{P1 P2 P3 P4:aE→aV→dK→Prop}{G:Prop}(h:∃a1 a2 a3,P1 a1 a2 a3∧P2 a1 a2 a3∧P3 a1 a2 a3∧P4 a1 a2 a3)(k:∀a1 a2 a3,P1 a1 a2 a3→P2 a1 a2 a3→P3 a1 a2 a3→P4 a1 a2 a3→G):G:=by
 obtain⟨a1,a2,a3,h1,h2,h3,h4⟩:=h;exact k a1 a2 a3 h1 h2 h3 h4
theorem G1{aE aV dK fz iM PH:Sort _}{P1:aE→aV→dK→fz→iM→PH→Prop}{G:Prop}(h:∃a1 a2 a3 a4 a5 a6,P1 a1 a2 a3 a4 a5 a6)(k:∀a1 a2 a3 a4 a5 a6,P1 a1 a2 a3 a4 a5 a6→G):G:=by
 obtain⟨a1,a2,a3,a4,a5,a6,h1⟩:=h;exact k a1 a2 a3 a4 a5 a6 h1
theorem D4  {P1 P2 P3 P4 P5 P6 P7 P8:Prop} {G:Prop} (h:P1∧P2∧P3∧P4∧P5∧P6∧P7∧P8) (k:P1→P2→P3→P4→P5→P6→P7→P8→G):G:=by
 obtain⟨h1,h2,h3,h4,h5,h6,h7,h8⟩:=h;exact k h1 h2 h3 h4 h5 h6 h7 h8
theorem cw{aE aV:Sort _}{P1 P2 P3 P4:Prop}{P5 P6:aE→aV→Prop}{G:Prop}(h:P1∧P2∧P3∧P4∧∃a1 a2,P5 a1 a2∧P6 a1 a2)(k:P1→P2→P3→P4→∀a1 a2,P5 a1 a2→P6 a1 a2→G):G:=by
 obtain⟨h1,h2,h3,h4,a1,a2,h5,h6⟩:=h;exact k h1 h2 h3 h4 a1 a2 h5 h6
theorem D5{aE aV:Sort _}{P1 P2 P3 P4 P5 P6:aE→aV→Prop}{G:Prop}(h:∃a1 a2,P1 a1 a2∧P2 a1 a2∧P3 a1 a2∧P4 a1 a2∧P5 a1 a2∧P6 a1 a2)(k:∀a1 a2,P1 a1 a2→P2 a1 a2→P3 a1 a2→P4 a1 a2→P5 a1 a2→P6 a1 a2→G):G:=by
 obtain⟨a1,a2,h1,h2,h3,h4,h5,h6⟩:=h;exact k a1 a2 h1 h2 h3 h4 h5 h6
theorem qf{aE aV dK fz:Sort _}{P1 P2 P3 P4:aE→aV→dK→fz→Prop}{G:Prop}(h:∃a1 a2 a3 a4,P1 a1 a2 a3 a4∧P2 a1 a2 a3 a4∧P3 a1 a2 a3 a4∧P4 a1 a2 a3 a4)(k:∀a1 a2 a3 a4,P1 a1 a2 a3 a4→P2 a1 a2 a3 a4→P3 a1 a2 a3 a4→P4 a1 a2 a3 a4→G):G:=by
 obtain⟨a1,a2,a3,a4,h1,h2,h3,h4⟩:=h;exact k a1 a2 a3 a4 h1 h2 h3 h4
theorem AW  {P1 P2 P3 P4 P5 P6 P7 P8 P9:Prop} {G:Prop} (h:P1∧P2∧P3∧P4∧P5∧P6∧P7∧P8∧P9) (k:P1→P2→P3→P4→P5→P6→P7→P8→P9→G):G:=by
 obtain⟨h1,h2,h3,h4,h5,h6,h7,h8,h9⟩:=h;exact k h1 h2 h3 h4 h5 h6 h7 h8 h9
theorem tC{aE aV dK fz iM:Sort _}{P1:Prop}{P2 P3 P4:aE→aV→dK→fz→iM→Prop}{G:Prop}(h:P1∧∃a1 a2 a3 a4 a5,P2 a1 a2 a3 a4 a5∧P3 a1 a2 a3 a4 a5∧P4 a1 a2 a3 a4 a5)(k:P1→∀a1 a2 a3 a4 a5,P2 a1 a2 a3 a4 a5→P3 a1 a2 a3 a4 a5→P4 a1 a2 a3 a4 a5→G):G:=by
 obtain⟨h1,a1,a2,a3,a4,a5,h2,h3,h4⟩:=h;exact k h1 a1 a2 a3 a4 a5 h2 h3 h4
theorem tD{aE aV dK fz:Sort _}{P1 P2 P3 P4 P5:aE→aV→dK→fz→Prop}{G:Prop}(h:∃a1 a2 a3 a4,P1 a1 a2 a3 a4∧P2 a1 a2 a3 a4∧P3 a1 a2 a3 a4∧P4 a1 a2 a3 a4∧P5 a1 a2 a3 a4)(k:∀a1 a2 a3 a4,P1 a1 a2 a3 a4→P2 a1 a2 a3 a4→P3 a1 a2 a3 a4→P4 a1 a2 a3 a4→P5 a1 a2 a3 a4→G):G:=by
 obtain⟨a1,a2,a3,a4,h1,h2,h3,h4,h5⟩:=h;exact k a1 a2 a3 a4 h1 h2 h3 h4 h5
theorem tE{aE aV dK fz iM:Sort _}{P1 P2 P3 P4:aE→aV→dK→fz→iM→Prop}{G:Prop}(h:∃a1 a2 a3 a4 a5,P1 a1 a2 a3 a4 a5∧P2 a1 a2 a3 a4 a5∧P3 a1 a2 a3 a4 a5∧P4 a1 a2 a3 a4 a5)(k:∀a1 a2 a3 a4 a5,P1 a1 a2 a3 a4 a5→P2 a1 a2 a3 a4 a5→P3 a1 a2 a3 a4 a5→P4 a1 a2 a3 a4 a5→G):G:=by
 obtain⟨a1,a2,a3,a4,a5,h1,h2,h3,h4⟩:=h;exact k a1 a2 a3 a4 a5 h1 h2 h3 h4
theorem zc  {P1 P2 P3 P4 P5 P6 P7 P8 P9 tG:Prop} {G:Prop} (h:P1∧P2∧P3∧P4∧P5∧P6∧P7∧P8∧P9∧tG) (k:P1→P2→P3→P4→P5→P6→P7→P8→P9→tG→G):G:=by
 obtain⟨h1,h2,h3,h4,h5,h6,h7,h8,h9,vA⟩:=h;exact k h1 h2 h3 h4 h5 h6 h7 h8 h9 vA
theorem zd{aE aV dK:Sort _}{P1:Prop}{P2:aE→Prop}{P3 P4 P5 P6 P7:aE→aV→dK→Prop}{G:Prop}(h:P1∧∃a1,P2 a1∧∃a2 a3,P3 a1 a2 a3∧P4 a1 a2 a3∧P5 a1 a2 a3∧P6 a1 a2 a3∧P7 a1 a2 a3)(k:P1→∀a1,P2 a1→∀a2 a3,P3 a1 a2 a3→P4 a1 a2 a3→P5 a1 a2 a3→P6 a1 a2 a3→P7 a1 a2 a3→G):G:=by
 obtain⟨h1,a1,h2,a2,a3,h3,h4,h5,h6,h7⟩:=h;exact k h1 a1 h2 a2 a3 h3 h4 h5 h6 h7
theorem q7{aE:Sort _}{P1 P2 P3 P4 P5 P6 P7 P8 P9:aE→Prop}{G:Prop}(h:∃a1,P1 a1∧P2 a1∧P3 a1∧P4 a1∧P5 a1∧P6 a1∧P7 a1∧P8 a1∧P9 a1)(k:∀a1,P1 a1→P2 a1→P3 a1→P4 a1→P5 a1→P6 a1→P7 a1→P8 a1→P9 a1→G):G:=by
 obtain⟨a1,h1,h2,h3,h4,h5,h6,h7,h8,h9⟩:=h;exact k a1 h1 h2 h3 h4 h5 h6 h7 h8 h9
theorem pj{aE aV dK:Sort _}{P1 P2 P3 P4 P5 P6 P7 P8:aE→aV→dK→Prop}{G:Prop}(h:∃a1 a2 a3,P1 a1 a2 a3∧P2 a1 a2 a3∧P3 a1 a2 a3∧P4 a1 a2 a3∧P5 a1 a2 a3∧P6 a1 a2 a3∧P7 a1 a2 a3∧P8 a1 a2 a3)(k:∀a1 a2 a3,P1 a1 a2 a3→P2 a1 a2 a3→P3 a1 a2 a3→P4 a1 a2 a3→P5 a1 a2 a3→P6 a1 a2 a3→P7 a1 a2 a3→P8 a1 a2 a3→G):G:=by
 obtain⟨a1,a2,a3,h1,h2,h3,h4,h5,h6,h7,h8⟩:=h;exact k a1 a2 a3 h1 h2 h3 h4 h5 h6 h7 h8
theorem n4{aE aV:Sort _}{P1 P2 P3 P4 P5 P6 P7 P8 P9 tG:aE→aV→Prop}{G:Prop}(h:∃a1 a2,P1 a1 a2∧P2 a1 a2∧P3 a1 a2∧P4 a1 a2∧P5 a1 a2∧P6 a1 a2∧P7 a1 a2∧P8 a1 a2∧P9 a1 a2∧tG a1 a2)(k:∀a1 a2,P1 a1 a2→P2 a1 a2→P3 a1 a2→P4 a1 a2→P5 a1 a2→P6 a1 a2→P7 a1 a2→P8 a1 a2→P9 a1 a2→tG a1 a2→G):G:=by
 obtain⟨a1,a2,h1,h2,h3,h4,h5,h6,h7,h8,h9,vA⟩:=h;exact k a1 a2 h1 h2 h3 h4 h5 h6 h7 h8 h9 vA
theorem vB{aE aV dK fz iM:Sort _}{P1 P2 P3 P4 P5 P6 P7:aE→aV→dK→fz→iM→Prop}{G:Prop}(h:∃a1 a2 a3 a4 a5,P1 a1 a2 a3 a4 a5∧P2 a1 a2 a3 a4 a5∧P3 a1 a2 a3 a4 a5∧P4 a1 a2 a3 a4 a5∧P5 a1 a2 a3 a4 a5∧P6 a1 a2 a3 a4 a5∧P7 a1 a2 a3 a4 a5)(k:∀a1 a2 a3 a4 a5,P1 a1 a2 a3 a4 a5→P2 a1 a2 a3 a4 a5→P3 a1 a2 a3 a4 a5→P4 a1 a2 a3 a4 a5→P5 a1 a2 a3 a4 a5→P6 a1 a2 a3 a4 a5→P7 a1 a2 a3 a4 a5→G):G:=by
 obtain⟨a1,a2,a3,a4,a5,h1,h2,h3,h4,h5,h6,h7⟩:=h;exact k a1 a2 a3 a4 a5 h1 h2 h3 h4 h5 h6 h7
theorem ky{aE aV dK fz iM PH D6 D7:Sort _}{P1 P2 P3 P4 P5 P6 P7 P8 P9 tG KO D8 TU TV TX:aE→aV→dK→fz→iM→PH→D6→D7→Prop}{G:Prop}(h:∃a1 a2 a3 a4 a5 a6 a7 a8,P1 a1 a2 a3 a4 a5 a6 a7 a8∧P2 a1 a2 a3 a4 a5 a6 a7 a8∧P3 a1 a2 a3 a4 a5 a6 a7 a8∧P4 a1 a2 a3 a4 a5 a6 a7 a8∧P5 a1 a2 a3 a4 a5 a6 a7 a8∧P6 a1 a2 a3 a4 a5 a6 a7 a8∧P7 a1 a2 a3 a4 a5 a6 a7 a8∧P8 a1 a2 a3 a4 a5 a6 a7 a8∧P9 a1 a2 a3 a4 a5 a6 a7 a8∧tG a1 a2 a3 a4 a5 a6 a7 a8∧KO a1 a2 a3 a4 a5 a6 a7 a8∧D8 a1 a2 a3 a4 a5 a6 a7 a8∧TU a1 a2 a3 a4 a5 a6 a7 a8∧TV a1 a2 a3 a4 a5 a6 a7 a8∧TX a1 a2 a3 a4 a5 a6 a7 a8)(k:∀a1 a2 a3 a4 a5 a6 a7 a8,P1 a1 a2 a3 a4 a5 a6 a7 a8→P2 a1 a2 a3 a4 a5 a6 a7 a8→P3 a1 a2 a3 a4 a5 a6 a7 a8→P4 a1 a2 a3 a4 a5 a6 a7 a8→P5 a1 a2 a3 a4 a5 a6 a7 a8→P6 a1 a2 a3 a4 a5 a6 a7 a8→P7 a1 a2 a3 a4 a5 a6 a7 a8→P8 a1 a2 a3 a4 a5 a6 a7 a8→P9 a1 a2 a3 a4 a5 a6 a7 a8→tG a1 a2 a3 a4 a5 a6 a7 a8→KO a1 a2 a3 a4 a5 a6 a7 a8→D8 a1 a2 a3 a4 a5 a6 a7 a8→TU a1 a2 a3 a4 a5 a6 a7 a8→TV a1 a2 a3 a4 a5 a6 a7 a8→TX a1 a2 a3 a4 a5 a6 a7 a8→G):G:=by
 obtain⟨a1,a2,a3,a4,a5,a6,a7,a8,h1,h2,h3,h4,h5,h6,h7,h8,h9,vA,PI,PJ,PK,PL,Yf⟩:=h;exact k a1 a2 a3 a4 a5 a6 a7 a8 h1 h2 h3 h4 h5 h6 h7 h8 h9 vA PI PJ PK PL Yf
section
noncomputable abbrev ay:=Addr→Option Obj
def ay.le(B B':ay):Prop:=∀a o,B a=some o→B' a=some o
theorem ay.le.refl(B:ay):ay.le B B:=fun zz zz e=>e
theorem ay.le.trans{B B' mx:ay}(h:ay.le B B')(h':ay.le B' mx):ay.le B mx:=fun a o e=>h' a o (h a o e)
inductive V where
 |none
 |bool (b:Bool)
 |int (i:Int)
 |str (s:Str)
 |list (xs:List V)
 |tuple (xs:List V)
 |ml (i:Nat)
 |obj (fs:List V)
 |fn (fd:FuncData)
 |gE (a b:Int)
 |raw (v:Value)
noncomputable abbrev Mu:=List (Option (List V))
noncomputable abbrev lobj(vs:List Value)(n:Nat):Obj:={cls:=.type "list",dict:=.none,data:=.seq vs.toArray n,slots:=#[]}
noncomputable abbrev gY(vs:List Value)(n:Nat):Obj:={cls:=.type "tuple",dict:=.none,data:=.seq vs.toArray n,slots:=#[]}
noncomputable def fNames:List Str:=[Str.ofString "raw",Str.ofString "n",Str.ofString "nt",Str.ofString "norm",Str.ofString "is_simple"]
noncomputable def sZ:List Str:=[Str.ofString "longest_run_of_spaces",Str.ofString "indent_level",Str.ofString "less"]
structure PM(es:List DictEntry)(vs:List Value):Prop where
 own:∀ (i:Nat) nm,fNames[i]?=some nm→∃u,vs[i]?=some u∧getL nm es=some (some u)∧handedIn u=true
 no:∀nm∈sZ,getL nm es=some none
def fX(B:ay)(c:Value)(q:Str):Prop:=∃c' o vs t,c=.ref c'∧B c'=some o∧o.data=.fields vs∧vs[1]?=some (.str q t)
theorem fX.mono{B B':ay}{c:Value}{q:Str}(h:fX B c q)(hB:ay.le B B'):fX B' c q:=let⟨c',o,vs,t,e,g,r⟩:=h;⟨c',o,vs,t,e,hB _ _ g,r⟩
inductive VR(B:ay)(Z:List Addr):V→Value→Prop where
 |none:VR B Z .none .none
 |bool {b:Bool}:VR B Z (.bool b) (.bool b)
 |int {i:Int} {t:Tok}:VR B Z (.int i) (.int i t)
 |str {x:Str} {t:Tok}:VR B Z (.str x) (.str x t)
 |list {a:Addr} {xs:List V} {vs:List Value} {n:Nat}:B a=some (lobj vs n)→xs.length=vs.length→
   (∀ (i:Nat) x v,xs[i]?=some x→vs[i]?=some v→VR B Z x v)→VR B Z (.list xs) (.ref a)
 |tuple {a:Addr} {xs:List V} {vs:List Value} {n:Nat}:B a=some (gY vs n)→xs.length=vs.length→
   (∀ (i:Nat) x v,xs[i]?=some x→vs[i]?=some v→VR B Z x v)→VR B Z (.tuple xs) (.ref a)
 |ml {i:Nat} {a:Addr}:Z[i]?=some a→VR B Z (.ml i) (.ref a)
 |gE {r:Addr} {a b:Int} {t u v:Tok}:B r=some {cls:=.type "range",dict:=.none,data:=.fields #[.int a t,.int b u,.int 1 v],slots:=#[]}→VR B Z (.gE a b) (.ref r)
 |raw {v:Value}:VR B Z (.raw v) v
 |fn {a:Addr} {fd:FuncData} {c ct d pm:Value}:B a=some {cls:=.type "function",data:=.func {fd with code:=c,closureTuple:=ct,doc:=d,pyModule:=pm}}→fX B c fd.qualname→VR B Z (.fn fd) (.ref a)
 |obj {x dx:Addr} {es:List DictEntry} {n:Nat} {fs:List V} {vs:List Value}:B x=some (instObj 173 dx)→B dx=some (dictOf es n)→PM es vs→fs.length=vs.length→
   (∀ (i:Nat) f v,fs[i]?=some f→vs[i]?=some v→VR B Z f v)→VR B Z (.obj fs) (.ref x)
section
variable{B:ay}{Z:List Addr}{x:Value}{C:Value→Prop}
@[elab_as_elim] theorem VR.bC{i:Int}(r:VR B Z (.int i) x)(k:∀t,C (.int i t)):C x:=by cases r;exact k _
@[elab_as_elim] theorem VR.fQ{i:Str}(r:VR B Z (.str i) x)(k:∀t,C (.str i t)):C x:=by cases r;exact k _
@[elab_as_elim] theorem VR.tH{i:Bool}(r:VR B Z (.bool i) x)(k:C (.bool i)):C x:=by cases r;exact k
@[elab_as_elim] theorem VR.xI(r:VR B Z .none x)(k:C .none):C x:=by cases r;exact k
@[elab_as_elim] theorem VR.j2{v:Value}(r:VR B Z (.raw v) x)(k:C v):C x:=by cases r;exact k
@[elab_as_elim] theorem VR.eList{xs:List V}(r:VR B Z (.list xs) x)(k:∀a vs n,B a=some (lobj vs n)→xs.length=vs.length→(∀ (i:Nat) x v,xs[i]?=some x→vs[i]?=some v→VR B Z x v)→C (.ref a)):C x:=by cases r with|list a b c=>exact k _ _ _ a b c
@[elab_as_elim] theorem VR.Oo{xs:List V}(r:VR B Z (.tuple xs) x)(k:∀a vs n,B a=some (gY vs n)→xs.length=vs.length→(∀ (i:Nat) x v,xs[i]?=some x→vs[i]?=some v→VR B Z x v)→C (.ref a)):C x:=by cases r with|tuple a b c=>exact k _ _ _ a b c
@[elab_as_elim] theorem VR.Yg{fd:FuncData}(r:VR B Z (.fn fd) x)(k:∀a c ct d pm,B a=some {cls:=.type "function",data:=.func {fd with code:=c,closureTuple:=ct,doc:=d,pyModule:=pm}}→fX B c fd.qualname→C (.ref a)):C x:=by cases r with|fn a b=>exact k _ _ _ _ _ a b
end
theorem bk{τ:Type}{a:τ}{P:Prop}(h:none=some a):P:=nomatch h
theorem ff{τ:Type}{a:τ}{P:Prop}(h:some a=none):P:=nomatch h
theorem iO{P:Prop}(h:false=true):P:=nomatch h
def aB(B:ay)(Z:List Addr)(xs:List V)(vs:List Value):Prop:=
 xs.length=vs.length∧∀ (i:Nat) x v,xs[i]?=some x→vs[i]?=some v→VR B Z x v
theorem VR.mono{B B':ay}{Z aH:List Addr}{x:V}{v:Value}(h:VR B Z x v)(hB:ay.le B B')(dM:Z <+: aH):VR B' aH x v:=by
 induction h with
 |none=>exact .none
 |bool=>exact .bool
 |int=>exact .int
 |str=>exact .str
 |list e l _ ih=>exact .list (hB _ _ e) l ih
 |tuple e l _ ih=>exact .tuple (hB _ _ e) l ih
 |ml e=>
  obtain⟨t,rfl⟩:=dM;exact .ml (by rw[List.getElem?_append_left (List.getElem?_eq_some_iff.mp e).1];exact e)
 |gE e=>exact .gE (hB _ _ e)
 |raw=>exact .raw
 |fn e c=>exact .fn (hB _ _ e) (c.mono hB)
 |obj e e' f l _ ih=>exact .obj (hB _ _ e) (hB _ _ e') f l ih
theorem aB.mono{B B':ay}{Z aH:List Addr}{x:List V}{v:List Value}(h:aB B Z x v)(hB:ay.le B B')(dM:Z <+: aH):aB B' aH x v:=
 ⟨h.1,fun i a b p q=>(h.2 i a b p q).mono hB dM⟩
theorem aB.nil{B:ay}{Z:List Addr}:aB B Z [] []:=⟨rfl,fun i x v h=>by simp at h⟩
theorem aB.cons{B:ay}{Z:List Addr}{x:V}{v:Value}{xs:List V}{vs:List Value}(h:VR B Z x v)(hs:aB B Z xs vs):aB B Z (x::xs) (v::vs):=
 ⟨by simp[hs.1],fun i a b p q=>by
  cases i with
  |zero=>simp at p q;subst p q;exact h
  |succ i=>simp at p q;exact hs.2 i a b p q⟩
theorem aB.append{B:ay}{Z:List Addr}{xs ys:List V}{vs us:List Value}(h:aB B Z xs vs)(hs:aB B Z ys us):aB B Z (xs++ys) (vs++us):=
 ⟨by simp[h.1,hs.1],fun i a b p q=>by
  by_cases hi:i<xs.length
  ·rw[List.getElem?_append_left hi]at p
   rw[List.getElem?_append_left (h.1▸hi)]at q;exact h.2 i a b p q
  ·rw[List.getElem?_append_right (Nat.le_of_not_lt hi)]at p
   rw[List.getElem?_append_right (h.1▸Nat.le_of_not_lt hi),←h.1]at q;exact hs.2 _ a b p q⟩
theorem aB.get{B:ay}{Z:List Addr}{xs:List V}{vs:List Value}(h:aB B Z xs vs){i:Nat}{x:V}(e:xs[i]?=some x):∃v,vs[i]?=some v∧VR B Z x v:=by
 have hi:=(List.getElem?_eq_some_iff.mp e).1;rw[h.1]at hi;exact⟨vs[i],List.getElem?_eq_getElem hi,h.2 i x _ e (List.getElem?_eq_getElem hi)⟩
theorem aB.D9{B:ay}{Z:List Addr}{x:V}{xs:List V}{vs:List Value}(h:aB B Z (x::xs) vs):∃v us,vs=v::us∧VR B Z x v∧aB B Z xs us:=by
 cases vs with
 |nil=>have:=h.1;simp at this
 |cons v us=>exact⟨v,us,rfl,h.2 0 x v rfl rfl,by have:=h.1;simpa using this,fun i a b p q=>h.2 (i+1) a b (by simpa using p) (by simpa using q)⟩
theorem aB.fg{B:ay}{Z:List Addr}{vs:List Value}(h:aB B Z [] vs):vs=[]:=by
 have:=h.1;simpa using this.symm
@[elab_as_elim] theorem aB.bE{B:ay}{Z:List Addr}{vs:List Value}{C:List Value→Prop}(h:aB B Z [] vs)(k:C []):C vs:=by rw[h.fg];exact k
@[elab_as_elim] theorem aB.aO{B:ay}{Z:List Addr}{x:V}{xs:List V}{vs:List Value}{C:List Value→Prop}(h:aB B Z (x::xs) vs)(k:∀y us,VR B Z x y→aB B Z xs us→C (y::us)):C vs:=by
 obtain⟨y,us,rfl,a,b⟩:=h.D9;exact k y us a b
theorem aB.reverse{B:ay}{Z:List Addr}{xs:List V}{vs:List Value}(h:aB B Z xs vs):aB B Z xs.reverse vs.reverse:=by
 refine⟨by simp[h.1],fun i a b p q=>?_⟩
 have hi:i<xs.length:=by have:=(List.getElem?_eq_some_iff.mp p).1;simpa using this
 rw[List.getElem?_reverse hi]at p;rw[List.getElem?_reverse (h.1▸hi),←h.1]at q;exact h.2 _ a b p q
theorem aB.set{B:ay}{Z:List Addr}{xs:List V}{vs:List Value}(h:aB B Z xs vs){x:V}{v:Value}(hx:VR B Z x v)(i:Nat):aB B Z (xs.set i x) (vs.set i v):=by
 refine⟨by simp[h.1],fun j a b p q=>?_⟩
 rw[List.getElem?_set]at p q
 by_cases e:i=j
 ·subst e
  rw[if_pos rfl]at p q;split at p
  ·split at q
   ·cases Option.some.inj p;cases Option.some.inj q;exact hx
   ·exact bk q
  ·exact bk p
 ·rw[if_neg e]at p q;exact h.2 j a b p q
theorem aB.take{B:ay}{Z:List Addr}{xs:List V}{vs:List Value}(h:aB B Z xs vs)(k:Nat):aB B Z (xs.take k) (vs.take k):=by
 refine⟨by simp[h.1],fun j a b p q=>?_⟩
 rw[List.getElem?_take]at p q;split at p
 ·rename_i hj;rw[if_pos hj]at q;exact h.2 j a b p q
 ·exact bk p
theorem aB.drop{B:ay}{Z:List Addr}{xs:List V}{vs:List Value}(h:aB B Z xs vs)(k:Nat):aB B Z (xs.drop k) (vs.drop k):=by
 refine⟨by simp[h.1],fun j a b p q=>?_⟩
 rw[List.getElem?_drop]at p q;exact h.2 _ a b p q
inductive Cl:V→Prop where
 |none:Cl .none
 |bool {b:Bool}:Cl (.bool b)
 |int {i:Int}:Cl (.int i)
 |str {x:Str}:Cl (.str x)
 |list {xs:List V}:(∀x∈xs,Cl x)→Cl (.list xs)
 |tuple {xs:List V}:(∀x∈xs,Cl x)→Cl (.tuple xs)
 |obj {xs:List V}:(∀x∈xs,Cl x)→Cl (.obj xs)
 |gE {a b:Int}:Cl (.gE a b)
 |raw {v:Value}:Cl (.raw v)
 |fn {fd:FuncData}:Cl (.fn fd)
theorem VR.clean{B:ay}{Z:List Addr}{x:V}{v:Value}(h:VR B Z x v)(c:Cl x)(aH:List Addr):VR B aH x v:=by
 induction h with
 |none=>exact .none
 |bool=>exact .bool
 |int=>exact .int
 |str=>exact .str
 |list e l _ ih=>cases c with|list c=>exact .list e l fun i x v p q=>ih i x v p q (c x (List.mem_of_getElem? p))
 |tuple e l _ ih=>cases c with|tuple c=>exact .tuple e l fun i x v p q=>ih i x v p q (c x (List.mem_of_getElem? p))
 |ml e=>cases c
 |gE e=>exact .gE e
 |raw=>exact .raw
 |fn e k=>exact .fn e k
 |obj e e' f l _ ih=>cases c with|obj c=>exact .obj e e' f l fun i x v p q=>ih i x v p q (c x (List.mem_of_getElem? p))
theorem aB.clean{B:ay}{Z:List Addr}{xs:List V}{vs:List Value}(h:aB B Z xs vs)(c:∀x∈xs,Cl x)(aH:List Addr):aB B aH xs vs:=
 ⟨h.1,fun i x v p q=>(h.2 i x v p q).clean (c x (List.mem_of_getElem? p)) aH⟩
theorem aB.any{B:ay}{xs:List V}{vs:List Value}(h:aB B [] xs vs)(Z:List Addr):aB B Z xs vs:=h.mono (.refl B) (List.nil_prefix)
def lX(W:List Addr)(h h':Heap):Prop:=∀b o,b∉W→h.get? b=some o→h'.get? b=some o
theorem lX.refl(W:List Addr)(h:Heap):lX W h h:=fun zz zz zz e=>e
theorem lX.mono{W W':List Addr}{h h':Heap}(k:lX W h h')(hs:∀a∈W,a∈W'):lX W' h h':=fun b o n e=>k b o (fun m=>n (hs b m)) e
theorem lX.all{h h':Heap}(k:∀b o,h.get? b=some o→h'.get? b=some o)(W:List Addr):lX W h h':=fun b o zz e=>k b o e
noncomputable def tabs:List Addr:=[65,58,222]
structure Rest(s s':Shared):Prop where
 os:s'.os=s.os
 bare:AllBare s.gens→AllBare s'.gens
 gens:∀ (g:Nat) (x:GenState),s.gens[g]?=some x→s'.gens[g]?=some x
theorem Rest.refl(s:Shared):Rest s s:=⟨rfl,id,fun zz zz e=>e⟩
theorem Rest.trans{s s' dj:Shared}(h:Rest s s')(h':Rest s' dj):Rest s dj:=⟨h'.os.trans h.os,fun b=>h'.bare (h.bare b),fun g x e=>h'.gens g x (h.gens g x e)⟩
theorem Rest.heap{s:Shared}{h:Heap}{t:Nat}:Rest s {s with heap:=h,toks:=t}:=⟨rfl,id,fun zz zz e=>e⟩
structure Oq(TI:ay→Heap→Prop):Prop where
 mono:∀ {B B' h h'},TI B h→ay.le B B'→(∀a∈tabs,∀o,h.get? a=some o→h'.get? a=some o)→TI B' h'
 there:∀ {B h},TI B h→∀a∈tabs,∃o,h.get? a=some o
 strip:∀ {B B' h},TI B h→(∀a o,B a=some o→(∀v,o.data≠.cell v)→B' a=some o)→TI B' h
structure dn where
 prog:Program
 w:World
 Bs:ay
 A₀:List Addr
 K:Frag
 hK:∀a o,K.lookup a=some o→Bs a=some o
 TI:ay→Heap→Prop
 hT:Oq TI
 nm:Nat→Str
 gl:Nat→Option Value
 nolimit:∀h:Heap,(∀a o,Bs a=some o→h.get? a=some o)→h.NoLimit
 inj:∀i j,nm i=nm j→i=j
 odd:∀i,(nm i==("__debug__":Str))=false∧(nm i==("__classdict__":Str))=false
 load:∀ {A:Around} {E:Value→Shared→Prop} {s:Shared} {env:Env} {x:Nat} {v:Value} {Q:Value→Shared→Prop},gl x=some v→env.globals=mainGlobals→env.builtins=builtinsNs→
  (∀a o,Bs a=some o→s.heap.get? a=some o)→Q v s→wpAny (model prog w) A (loadGlobal env (nm x)) Q E s
def oA(Bs:ay)(A₀ Z:List Addr):Prop:=A₀ <+: Z∧∀a∈Z,a∈A₀∨Bs a=none
theorem oA.snoc{Bs:ay}{A₀ Z:List Addr}{a:Addr}(h:oA Bs A₀ Z)(ha:Bs a=none):oA Bs A₀ (Z++[a]):=
 ⟨h.1.trans (List.prefix_append _ _),fun b m=>(List.mem_append.mp m).elim (h.2 b) fun m=>.inr (List.mem_singleton.mp m▸ha)⟩
theorem oA.shrink{Bs:ay}{A₀ Z aH:List Addr}(h:oA Bs A₀ aH)(p:Z <+: aH)(p0:A₀ <+: Z):oA Bs A₀ Z:=⟨p0,fun b m=>h.2 b (by obtain⟨t,rfl⟩:=p;simp[m])⟩
theorem ay.le.off{B B':ay}(h:ay.le B B'){a:Addr}(e:B' a=none):B a=none:=by
 cases q:B a with
 |none=>rfl
 |some o=>rw[h a o q]at e;exact ff e
variable(G:dn)
structure Inv(B:ay)(Z:List Addr)(O:Mu)(h:Heap):Prop where
 base:ay.le G.Bs B
 holds:∀a o,B a=some o→h.get? a=some o
 len:Z.length=O.length
 ml:∀ (i:Nat) a xs,Z[i]?=some a→O[i]?=some (some xs)→B a=none∧∃vs n,h.get? a=some (lobj vs n)∧aB B [] xs vs
 dp:∀a∈Z,∃o,h.get? a=some o
 nodup:Z.Nodup
 cg:∀a∈tabs,B a=none∧a∉Z
 tab:G.TI B h
 ey:oA G.Bs G.A₀ Z
structure aG(W:List Addr)(B:ay)(Z:List Addr)(s:Shared)(B':ay)(aH:List Addr)(ar:Mu)(s':Shared):Prop where
 le:ay.le B B'
 pre:Z <+: aH
 inv:Inv G B' aH ar s'.heap
 keep:lX (W++(Z++tabs)) s.heap s'.heap
 bL:∀a∈W,∃o,s'.heap.get? a=some o
 rest:Rest s s'
 dF:∀a,B' a≠none→B a≠none∨a∈Z∨s.heap.get? a=none
 da:∀a∈aH,a∈Z∨s.heap.get? a=none
variable {G}
theorem aG.refl{W:List Addr}{B:ay}{Z:List Addr}{O:Mu}{s:Shared}(I:Inv G B Z O s.heap)(hW:∀a∈W,∃o,s.heap.get? a=some o):aG G W B Z s B Z O s:=
 ⟨.refl B,List.prefix_refl _,I,.refl _ _,hW,.refl s,fun zz h=>.inl h,fun zz h=>.inl h⟩
theorem Inv.there{B:ay}{Z:List Addr}{O:Mu}{h:Heap}(I:Inv G B Z O h){a:Addr}(m:a∈Z++tabs):∃o,h.get? a=some o:=by
 rcases List.mem_append.mp m with m|m
 ·exact I.dp a m
 ·exact G.hT.there I.tab a m
theorem aG.back{W:List Addr}{B B':ay}{Z aH:List Addr}{ar:Mu}{s s':Shared}(h:aG G W B Z s B' aH ar s'){a:Addr}(ha:s'.heap.get? a=none):s.heap.get? a=none:=by
 cases q:s.heap.get? a with
 |none=>rfl
 |some o=>
  by_cases hm:a∈W++(Z++tabs)
  ·exfalso
   rcases List.mem_append.mp hm with m|m
   ·obtain⟨o',g⟩:=h.bL a m
    rw[ha]at g;exact bk g
   ·have xJ:a∈aH++tabs:=by
     rcases List.mem_append.mp m with m|m
     ·obtain⟨t,rfl⟩:=h.pre;simp[m]
     ·simp[m]
    obtain⟨o',g⟩:=h.inv.there xJ;rw[ha]at g;exact bk g
  ·have:=h.keep a o hm q
   rw[ha]at this;exact bk this
theorem aG.trans{W:List Addr}{B B' mx:ay}{Z aH j4:List Addr}{ar cU:Mu}{s s' dj:Shared}
  (h:aG G W B Z s B' aH ar s')(h':aG G W B' aH s' mx j4 cU dj):aG G W B Z s mx j4 cU dj:=by
 refine⟨h.le.trans h'.le,h.pre.trans h'.pre,h'.inv,?_,h'.bL,h.rest.trans h'.rest,fun a ha=>?_,fun a ha=>?_⟩
 ·intro b o hb e
  have e1:=h.keep b o hb e;refine h'.keep b o (fun m=>?_) e1;rcases List.mem_append.mp m with m|m
  ·exact hb (List.mem_append_left _ m)
  rcases List.mem_append.mp m with m|m
  ·rcases h.da b m with q|q
   ·exact hb (List.mem_append_right _ (List.mem_append_left _ q))
   ·rw[e]at q;exact ff q
  ·exact hb (List.mem_append_right _ (List.mem_append_right _ m))
 ·rcases h'.dF a ha with q|q|q
  ·exact h.dF a q
  ·exact .inr (h.da a q)
  ·exact .inr (.inr (h.back q))
 ·rcases h'.da a ha with q|q
  ·exact h.da a q
  ·exact .inr (h.back q)
theorem aG.kept{W:List Addr}{B B':ay}{Z aH:List Addr}{ar:Mu}{s s':Shared}(h:aG G W B Z s B' aH ar s'){a:Addr}{o:Obj}(e:s.heap.get? a=some o)(hW:a∉W)(dM:a∉Z)(ht:a∉tabs):s'.heap.get? a=some o:=
 h.keep a o (by simp[hW,dM,ht]) e
theorem aG.eZ{W:List Addr}{B B':ay}{Z aH:List Addr}{ar:Mu}{s s':Shared}(h:aG G W B Z s B' aH ar s'){a:Addr}{o:Obj}(e:s.heap.get? a=some o)(hB:B a=none)(dM:a∉Z):B' a=none:=by
 cases q:B' a with
 |none=>rfl
 |some x=>
  rcases h.dF a (by rw[q];simp) with r|r|r
  ·exact absurd hB r
  ·exact absurd r dM
  ·rw[e]at r;exact ff r
theorem aG.fJ{W:List Addr}{B B':ay}{Z aH:List Addr}{ar:Mu}{s s':Shared}(h:aG G W B Z s B' aH ar s'){a:Addr}{o:Obj}(e:s.heap.get? a=some o)(dM:a∉Z):a∉aH:=fun m=>by
 rcases h.da a m with r|r
 ·exact dM r
 ·rw[e]at r;exact ff r
theorem aG.widen{W:List Addr}{B B':ay}{Z aH:List Addr}{ar:Mu}{s s':Shared}(h:aG G [] B Z s B' aH ar s')(hW:∀a∈W,∃o,s.heap.get? a=some o)(dM:∀a∈W,a∉Z)(ht:∀a∈W,a∉tabs):aG G W B Z s B' aH ar s':=
 ⟨h.le,h.pre,h.inv,h.keep.mono (fun a m=>by simp at m ⊢;exact .inr m),fun a m=>let⟨o,e⟩:=hW a m;⟨o,h.kept e (by simp) (dM a m) (ht a m)⟩,h.rest,h.dF,h.da⟩
noncomputable abbrev aw:=List (Nat×V)
noncomputable def get:aw→Nat→Option V
 |[],_=>.none
 |(y,v)::r,x=>bif Nat.beq y x then some v else get r x
noncomputable def set:aw→Nat→V→aw
 |[],x,v=>[(x,v)]
 |(y,u)::r,x,v=>bif Nat.beq y x then(x,v)::r else(y,u)::set r x v
theorem ng{a b:Nat}(h:a≠b):Nat.beq a b=false:=by
 cases q:Nat.beq a b with
 |false=>rfl
 |true=>exact absurd (Nat.eq_of_beq_eq_true q) h
theorem get_set(U:aw)(x:Nat)(v:V)(y:Nat):get (set U x v) y=if x=y then some v else get U y:=by
 induction U with
 |nil=>
  simp only[set,get]
  by_cases h:x=y
  ·subst h;simp
  ·simp[h,ng h]
 |cons p r ih=>
  obtain⟨z,u⟩:=p;simp only[set]
  by_cases hz:z=x
  ·subst hz
   simp only[Nat.beq_refl,cond_true,get]
   by_cases h:z=y
   ·subst h;simp
   ·simp[h,ng h]
  ·have:Nat.beq z x=false:=ng hz
   simp only[this,cond_false,get,ih]
   by_cases h:z=y
   ·subst h;simp[Ne.symm hz]
   ·have:Nat.beq z y=false:=ng h
    simp[this]
variable (G)
noncomputable def fa(env:Env)(own:List Nat):List Addr:=env.locals::own.filterMap fun x=>env.cells.lookup (G.nm x)
structure bt(env:Env)(B:ay)(Z:List Addr)(U:aw)(h:Heap):Prop where
 kind:env.scope.kind=.function
 gl:env.globals=mainGlobals
 bi:env.builtins=builtinsNs
 ns:∃m,h.Ns env.locals m∧∀x v,get U x=some v→env.kindOf (G.nm x)=some .local→∃u,m (G.nm x)=some u∧VR B Z v u
 cl:∀x v,get U x=some v→env.kindOf (G.nm x)=some .local∨((env.kindOf (G.nm x)=some .cell∨env.kindOf (G.nm x)=some .free)∧∃c u,env.cells.lookup (G.nm x)=some c∧h.IsCell c (some u)∧VR B Z v u)
 cV:B env.locals=none∧env.locals∉Z∧env.locals∉tabs
 dI:∀n c,(n,c)∈env.cells→(env.kindOf n=some .free∨B c=none)∧c∉Z∧c∉tabs∧c≠env.locals∧∃v,h.IsCell c v
 inj:∀n n' c,env.cells.lookup n=some c→env.cells.lookup n'=some c→n=n'
 all:∀n,env.kindOf n=some .cell→∃c,env.cells.lookup n=some c
variable {G}
theorem gs{U:aw}{x:Nat}{v:V}:get (set U x v) x=some v:=by rw[get_set,if_pos rfl]
theorem gn{U:aw}{x y:Nat}{v:V}{w:Option V}(h:get U y=w)(n:¬x=y:=by decide):get (set U x v) y=w:=by rw[get_set,if_neg n];exact h
theorem aY{l:List (Str×Addr)}{n:Str}{c:Addr}(h:l.lookup n=some c):(n,c)∈l:=by
 induction l with
 |nil=>cases h
 |cons p r ih=>
  obtain⟨a,b⟩:=p;rw[List.lookup_cons]at h;split at h
  ·rename_i e;cases h;rw[eq_of_beq e];exact .head _
  ·exact .tail _ (ih h)
theorem ez{env:Env}{own:List Nat}{a:Addr}(m:a∈fa G env own):a=env.locals∨∃n,env.cells.lookup n=some a:=by
 rcases List.mem_cons.mp m with h|h
 ·exact .inl h
 ·refine aW (List.mem_filterMap.mp h) ?_;intro x zz hx
  exact .inr ⟨_,hx⟩
theorem bt.bL{env:Env}{B:ay}{Z:List Addr}{U:aw}{h:Heap}(F:bt G env B Z U h){own:List Nat}:∀a∈fa G env own,∃o,h.get? a=some o:=by
 intro a m;rcases ez m with rfl|⟨n,hn⟩
 ·refine aW F.ns ?_;intro m z1;obtain⟨o,_,_,e,_⟩:=z1;intro zz;exact⟨o,e⟩
 ·refine cw (F.dI n a (aY hn)) ?_;intro zz zz zz zz v o e zz
  exact⟨o,e⟩
theorem bt.fJ{env:Env}{B:ay}{Z:List Addr}{U:aw}{h:Heap}(F:bt G env B Z U h){own:List Nat}:∀a∈fa G env own,a∉Z:=by
 intro a m;rcases ez m with rfl|⟨n,hn⟩
 ·exact F.cV.2.1
 ·exact(F.dI n a (aY hn)).2.1
theorem bt.i5{env:Env}{B:ay}{Z:List Addr}{U:aw}{h:Heap}(F:bt G env B Z U h){own:List Nat}:∀a∈fa G env own,a∉tabs:=by
 intro a m;rcases ez m with rfl|⟨n,hn⟩
 ·exact F.cV.2.2
 ·exact(F.dI n a (aY hn)).2.2.1
theorem bt.keep{env:Env}{W:List Addr}{B B':ay}{Z aH:List Addr}{U:aw}{ar:Mu}{s s':Shared}(F:bt G env B Z U s.heap)(P:aG G W B Z s B' aH ar s')(hL:env.locals∉W)(hC:∀n c,(n,c)∈env.cells→c∉W):bt G env B' aH U s'.heap:=by
 refine aW F.ns ?_;intro m z1;obtain⟨o,es,ep,e,r⟩:=z1;intro hm;have eL:=P.kept e hL F.cV.2.1 F.cV.2.2;refine⟨F.kind,F.gl,F.bi,⟨m,⟨o,es,ep,eL,r⟩,fun x v hx hk=>?_⟩,fun x v hx=>?_,⟨P.eZ e F.cV.1 F.cV.2.1,P.fJ e F.cV.2.1,F.cV.2.2⟩,fun n c hc=>?_,F.inj,F.all⟩
 ·refine aW (hm x v hx hk) ?_;intro u h1 h2;exact⟨u,h1,h2.mono P.le P.pre⟩
 ·rcases F.cl x v hx with h|⟨hk,c,u,hc,⟨o',eo,ed⟩,h2⟩
  ·exact .inl h
  ·have A:=F.dI _ c (aY hc)
   exact .inr ⟨hk,c,u,hc,⟨o',P.kept eo (hC _ c (aY hc)) A.2.1 A.2.2.1,ed⟩,h2.mono P.le P.pre⟩
 ·refine cw (F.dI n c hc) ?_;intro a1 a2 a3 a4 v o' eo ed
  exact⟨a1.imp id fun a1=>P.eZ eo a1 a2,P.fJ eo a2,a3,a4,v,o',P.kept eo (hC n c hc) a2 a3,ed⟩
structure bY(n:Nat)(A:Around):Prop where
 handled:A.handled=none
 depth:A.depth+n≤900
 units:A.units+16*n≤9000
 guards:A.guards=some []
theorem bY.le{n n':Nat}{A:Around}(h:bY n A)(hn:n'≤n):bY n' A:=⟨h.handled,by have:=h.depth;exact o1 hn this,by have:=h.units;exact o2 hn this,h.guards⟩
theorem bY.room{n:Nat}{A:Around}(h:bY n A):A.depth<recursionLimit:=by have:=h.depth;unfold recursionLimit;exact ag 2 0 (aa (ae (aj af ab) d4) (ak af bw)) (by kd_p) this
theorem bY.Dd{n:Nat}{A:Around}(h:bY n A):A.units<cLine:=by have:=h.units;unfold cLine;exact ag 2 0 (aa (ae (aj af (cZ 16 ab)) c9) (ak af (nk 9900))) (by kd_p) this
theorem bY.deeper{n:Nat}{A:Around}(h:bY (n+1) A)(env:Env):bY n (A.deeper env):=
 ⟨h.handled,by have:=h.depth;show A.depth+1+n≤900;exact ag 2 0 (aa (ae (aj af (aj ab aC)) d4) (ae (aj (aj af aC) ab) d4)) (by kd_p) this,by have:=h.units;show A.units+3+16*n≤9000;exact o6 this,h.guards⟩
theorem bY.in1{n:Nat}{A:Around}(h:bY (n+1) A):bY n A.in1:=
 ⟨h.handled,by have:=h.depth;show A.depth+n≤900;exact ag 2 0 (aa (ae (aj af (aj ab aC)) d4) (ae (aj af ab) d4)) (by kd_p) this,by have:=h.units;show A.units+1+16*n≤9000;exact ag 2 0 (aa (ae (aj af (cZ 16 (aj ab aC))) c9) (ae (aj (aj af aC) (cZ 16 ab)) c9)) (by kd_p) this,h.guards⟩
def bM:Value→Shared→Prop:=fun zz zz=>False
inductive Fl where
 |next|brk|cont|ret (v:V)
inductive Ea(B:ay)(Z:List Addr):Fl→Flow→Prop where
 |next:Ea B Z .next .next
 |brk:Ea B Z .brk .brk
 |cont:Ea B Z .cont .cont
 |ret {v:V} {x:Value}:VR B Z v x→Ea B Z (.ret v) (.ret x)
variable (G)
inductive PV(B:ay)(Z:List Addr)(s:Shared)(Q:V→Mu→Prop)(x:Value)(s':Shared):Prop
 |mk (v:V) (ar:Mu) (B':ay) (aH:List Addr) (q:Q v ar) (h:aG G [] B Z s B' aH ar s'∧VR B' aH v x)
inductive Yh(B:ay)(Z:List Addr)(s:Shared)(Q:List V→Mu→Prop)(xs:List Value)(s':Shared):Prop
 |mk (vs:List V) (ar:Mu) (B':ay) (aH:List Addr) (q:Q vs ar) (h:aG G [] B Z s B' aH ar s'∧aB B' aH vs xs)
inductive PB(B:ay)(Z:List Addr)(s:Shared)(Q:Bool→Mu→Prop)(b:Bool)(s':Shared):Prop
 |mk (ar:Mu) (B':ay) (aH:List Addr) (q:Q b ar) (P:aG G [] B Z s B' aH ar s')
inductive PA{τ:Type}(env:Env)(own:List Nat)(B:ay)(Z:List Addr)(s:Shared)(Q:aw→Mu→Prop)(u:τ)(s':Shared):Prop
 |mk (ao:aw) (ar:Mu) (B':ay) (aH:List Addr) (q:Q ao ar) (h:aG G (fa G env own) B Z s B' aH ar s'∧bt G env B' aH ao s'.heap)
inductive PS(env:Env)(own:List Nat)(B:ay)(Z:List Addr)(s:Shared)(Q:Fl→aw→Mu→Prop)(fl:Flow)(s':Shared):Prop
 |mk (r:Fl) (ao:aw) (ar:Mu) (B':ay) (aH:List Addr) (q:Q r ao ar) (h:aG G (fa G env own) B Z s B' aH ar s'∧bt G env B' aH ao s'.heap∧Ea B' aH r fl)
def bz(n:Nat)(env:Env)(t:Sem Value)(U:aw)(O:Mu)(Q:V→Mu→Prop):Prop:=
 ∀A,bY n A→∀B Z s,Inv G B Z O s.heap→bt G env B Z U s.heap→wpAny (model G.prog G.w) A t (PV G B Z s Q) bM s
def e7(n:Nat)(env:Env)(t:Sem (List Value))(U:aw)(O:Mu)(Q:List V→Mu→Prop):Prop:=
 ∀A,bY n A→∀B Z s,Inv G B Z O s.heap→bt G env B Z U s.heap→wpAny (model G.prog G.w) A t (Yh G B Z s Q) bM s
def fY(n:Nat)(env:Env)(t:Sem Bool)(U:aw)(O:Mu)(Q:Bool→Mu→Prop):Prop:=
 ∀A,bY n A→∀B Z s,Inv G B Z O s.heap→bt G env B Z U s.heap→wpAny (model G.prog G.w) A t (PB G B Z s Q) bM s
def cn(n:Nat)(env:Env)(own:List Nat)(t:Sem Flow)(U:aw)(O:Mu)(Q:Fl→aw→Mu→Prop):Prop:=
 ∀A,bY n A→∀B Z s,Inv G B Z O s.heap→bt G env B Z U s.heap→wpAny (model G.prog G.w) A t (PS G env own B Z s Q) bM s
def aU(n:Nat)(f:Value)(vs:List V)(kw:List (Str×V))(O:Mu)(Q:V→Mu→Prop):Prop:=
 ∀A,bY n A→∀B Z s xs ks,Inv G B Z O s.heap→aB B Z vs xs→aB B Z (kw.map (·.2)) ks→
  wpAny (model G.prog G.w) A (call f xs ((kw.map (·.1)).zip ks)) (PV G B Z s Q) bM s
variable {G}
theorem bz.mono{n:Nat}{env:Env}{t:Sem Value}{U:aw}{O:Mu}{Q Q':V→Mu→Prop}(h:bz G n env t U O Q)(hQ:∀v ar,Q v ar→Q' v ar):bz G n env t U O Q':=
 fun A hA B Z s I F=>wpAny_mono (h A hA B Z s I F) (fun zz _ ⟨v,ar,B',aH,q,r⟩=>⟨v,ar,B',aH,hQ _ _ q,r⟩) fun zz zz x=>x
end
section
variable{G:dn}
noncomputable def ay.add(B:ay)(a:Addr)(o:Obj):ay:=fun x=>if x=a then some o else B x
theorem ay.dc(B:ay)(a:Addr)(o:Obj):B.add a o a=some o:=if_pos rfl
theorem ay.iA{B:ay}{a:Addr}{o:Obj}(h:B a=none):ay.le B (B.add a o):=fun x y e=>by
 unfold ay.add
 by_cases q:x=a
 ·subst q;rw[h]at e;exact bk e
 ·rw[if_neg q];exact e
theorem cx(h:Heap):h.get? h.objs.size=none:=by
 cases q:h.get? h.objs.size with
 |none=>rfl
 |some o=>exact absurd (Heap.lt_size q) (Nat.lt_irrefl _)
section
variable{B:ay}{Z:List Addr}{O:Mu}{s:Shared}
theorem Inv.eZ{h:Heap}(I:Inv G B Z O h){a:Addr}(e:h.get? a=none):B a=none:=by
 cases q:B a with
 |none=>rfl
 |some o=>rw[I.holds a o q]at e;exact ff e
theorem Inv.fJ{h:Heap}(I:Inv G B Z O h){a:Addr}(e:h.get? a=none):a∉Z:=fun m=>by
 obtain⟨o,g⟩:=I.there (List.mem_append_left _ m);rw[g]at e;exact ff e
theorem Inv.i5{h:Heap}(I:Inv G B Z O h){a:Addr}(e:h.get? a=none):a∉tabs:=fun m=>by
 obtain⟨o,g⟩:=I.there (List.mem_append_right _ m);rw[g]at e;exact ff e
theorem Inv.post{W:List Addr}{t:Nat}(I:Inv G B Z O s.heap)(hW:∀a∈W,∃o,s.heap.get? a=some o):aG G W B Z s B Z O {s with toks:=t}:=
 ⟨.refl B,List.prefix_refl _,I,.refl _ _,hW,.heap,fun zz h=>.inl h,fun zz h=>.inl h⟩
theorem Inv.tI{t:Nat}(I:Inv G B Z O s.heap):aG G [] B Z s B Z O {s with toks:=t}:=I.post (fun zz m=>nomatch m)
theorem Inv.keeps{h h':Heap}(I:Inv G B Z O h)(k:∀b o,h.get? b=some o→h'.get? b=some o):Inv G B Z O h':=
 ⟨I.base,fun a o e=>k _ _ (I.holds a o e),I.len,fun i a xs h1 h2=>let⟨b,vs,n,g,r⟩:=I.ml i a xs h1 h2;⟨b,vs,n,k _ _ g,r⟩,fun a m=>let⟨o,e⟩:=I.dp a m;⟨o,k _ _ e⟩,I.nodup,I.cg,
  G.hT.mono I.tab (.refl _) fun a zz o e=>k _ _ e,I.ey⟩
theorem Inv.kz{W:List Addr}{h':Heap}{t:Nat}(I:Inv G B Z O s.heap)(k:∀b o,s.heap.get? b=some o→h'.get? b=some o)(hW:∀a∈W,∃o,s.heap.get? a=some o):aG G W B Z s B Z O {s with heap:=h',toks:=t}:=
 ⟨.refl B,List.prefix_refl _,I.keeps k,lX.all k _,fun a m=>let⟨o,e⟩:=hW a m;⟨o,k _ _ e⟩,.heap,fun zz h=>.inl h,fun zz h=>.inl h⟩
theorem bN(h:Heap)(o:Obj):∀b x,h.get? b=some x→(h.push o).get? b=some x:=fun zz zz e=>Heap.get?_push_of_some _ e
theorem Inv.frozen{h h':Heap}{a:Addr}{o:Obj}(I:Inv G B Z O h)(hn:h.get? a=none)(k:∀b o,h.get? b=some o→h'.get? b=some o)(e:h'.get? a=some o):Inv G (B.add a o) Z O h':=by
 have hB:B a=none:=I.eZ hn;have hA:a∉Z:=I.fJ hn;have hT:a∉tabs:=I.i5 hn;have le:=ay.iA (o:=o) hB;refine⟨I.base.trans le,fun b x hb=>?_,I.len,fun i b xs h1 h2=>?_,fun b hb=>?_,I.nodup,fun b hb=>⟨?_,(I.cg b hb).2⟩,G.hT.mono I.tab le fun b zz x hb=>k _ _ hb,I.ey⟩
 ·unfold ay.add at hb
  by_cases q:b=a
  ·subst q;rw[if_pos rfl]at hb;cases Option.some.inj hb;exact e
  ·rw[if_neg q]at hb;exact k _ _ (I.holds b x hb)
 ·refine ew (I.ml i b xs h1 h2) ?_;intro hb vs n g r
  refine⟨?_,vs,n,k _ _ g,r.mono le (List.prefix_refl _)⟩;unfold ay.add;rw[if_neg (fun q:b=a=>hA (q▸List.mem_of_getElem? h1))];exact hb
 ·obtain⟨x,ex⟩:=I.dp b hb;exact⟨x,k _ _ ex⟩
 ·unfold ay.add;rw[if_neg (fun q:b=a=>hT (q▸hb))];exact(I.cg b hb).1
theorem Inv.PN{h':Heap}{a:Addr}{o:Obj}{t:Nat}(I:Inv G B Z O s.heap)(hn:s.heap.get? a=none)(k:∀b o,s.heap.get? b=some o→h'.get? b=some o)(e:h'.get? a=some o):
  aG G [] B Z s (B.add a o) Z O {s with heap:=h',toks:=t}:=by
 refine⟨ay.iA (I.eZ hn),List.prefix_refl _,I.frozen hn k e,lX.all k _,(fun zz m=>nomatch m),.heap,fun b hb=>?_,fun zz h=>.inl h⟩;unfold ay.add at hb
 by_cases q:b=a
 ·subst q;exact .inr (.inr hn)
 ·rw[if_neg q]at hb;exact .inl hb
theorem Inv.push{o:Obj}{t:Nat}(I:Inv G B Z O s.heap)(hf:o.isFreed=false):
  aG G [] B Z s (B.add s.heap.objs.size o) Z O {s with heap:=s.heap.push o,toks:=t}:=
 I.PN (cx _) (bN _ _) (Heap.get?_push_size _ hf)
theorem Inv.G2{xs:List V}{vs:List Value}{t:Nat}(I:Inv G B Z O s.heap)(h:aB B [] xs vs):
  aG G [] B Z s B (Z++[s.heap.objs.size]) (O++[some xs]) {s with heap:=s.heap.push (lobj vs 0),toks:=t}:=by
 have hn:=cx s.heap;have k:=bN s.heap (lobj vs 0);have pre:Z <+: Z++[s.heap.objs.size]:=List.prefix_append _ _;refine⟨.refl _,pre,⟨I.base,fun b x hb=>k _ _ (I.holds b x hb),by simp[I.len],fun i b ys h1 h2=>?_,fun b hb=>?_,?_,fun b hb=>⟨(I.cg b hb).1,fun m=>?_⟩,G.hT.mono I.tab (.refl _) fun b zz x hb=>k _ _ hb,I.ey.snoc (I.base.off (I.eZ hn))⟩,
  lX.all k _,(fun zz m=>nomatch m),.heap,fun zz h=>.inl h,fun b hb=>?_⟩
 ·by_cases q:i<Z.length
  ·rw[List.getElem?_append_left q]at h1
   rw[List.getElem?_append_left (I.len▸q)]at h2;refine ew (I.ml i b ys h1 h2) ?_;intro e us n g r;exact⟨e,us,n,k _ _ g,r⟩
  ·rw[List.getElem?_append_right (Nat.le_of_not_lt q)]at h1
   rw[List.getElem?_append_right (I.len▸Nat.le_of_not_lt q),←I.len]at h2;cases q2:i-Z.length with
   |zero=>
    rw[q2]at h1 h2;cases h1;cases h2;exact⟨I.eZ hn,vs,0,Heap.get?_push_size _ rfl,h⟩
   |succ j=>rw[q2]at h1;cases h1
 ·rcases List.mem_append.mp hb with m|m
  ·obtain⟨x,ex⟩:=I.dp b m;exact⟨x,k _ _ ex⟩
  ·rw[List.mem_singleton.mp m];exact⟨_,Heap.get?_push_size _ rfl⟩
 ·refine List.nodup_append.mpr ⟨I.nodup,by simp,fun b hb c hc=>?_⟩
  rw[List.mem_singleton.mp hc];exact fun q=>I.fJ hn (q▸hb)
 ·rcases List.mem_append.mp m with m|m
  ·exact(I.cg b hb).2 m
  ·exact I.i5 hn (List.mem_singleton.mp m▸hb)
 ·rcases List.mem_append.mp hb with m|m
  ·exact .inl m
  ·rw[List.mem_singleton.mp m];exact .inr hn
theorem Inv.xK{i:Nat}{l:Addr}{xs ys:List V}{vs:List Value}{n:Nat}{h':Heap}{t:Nat}(I:Inv G B Z O s.heap)(hi:Z[i]?=some l)(hy:O[i]?=some (some ys))(h:aB B [] xs vs)
  (e:h'.get? l=some (lobj vs n))(hs:Heap.SameBut l s.heap h'):aG G [] B Z s B Z (O.set i (some xs)) {s with heap:=h',toks:=t}:=by
 have hl:l∈Z:=List.mem_of_getElem? hi;have hB:=(I.ml i l ys hi hy).1;have kp:∀b o,b≠l→s.heap.get? b=some o→h'.get? b=some o:=fun b o q g=>(hs.2 b q).trans g;refine⟨.refl _,List.prefix_refl _,⟨I.base,fun b x hb=>kp b x (fun q=>by subst q;rw[hB]at hb;exact bk hb) (I.holds b x hb),by simp[I.len],fun j b zs h1 h2=>?_,fun b hb=>?_,I.nodup,I.cg,
  G.hT.mono I.tab (.refl _) fun b hb x g=>kp b x (fun q=>(I.cg b hb).2 (q▸hl)) g,I.ey⟩,fun b o hb g=>kp b o (fun q=>hb (by subst q;simp[hl])) g,(fun zz m=>nomatch m),.heap,fun zz h=>.inl h,fun zz h=>.inl h⟩
 ·by_cases q:j=i
  ·subst q
   rw[hi]at h1;cases Option.some.inj h1;rw[List.getElem?_set]at h2;rw[if_pos rfl]at h2;split at h2
   ·cases Option.some.inj h2;exact⟨hB,vs,n,e,h⟩
   ·exact bk h2
  ·rw[List.getElem?_set_ne (Ne.symm q)]at h2
   refine ew (I.ml j b zs h1 h2) ?_;intro hb us m g r;refine⟨hb,us,m,kp b _ (fun z=>q ?_) g,r⟩;subst z;obtain⟨p1,e1⟩:=List.getElem?_eq_some_iff.mp h1;obtain⟨p2,e2⟩:=List.getElem?_eq_some_iff.mp hi;exact(List.getElem_inj I.nodup).mp (e1.trans e2.symm)
 ·by_cases q:b=l
  ·subst q;exact⟨_,e⟩
  ·obtain⟨o,eo⟩:=I.dp b hb;exact⟨o,kp b o q eo⟩
theorem Inv.freeze{h:Heap}{i:Nat}{l:Addr}{xs:List V}(I:Inv G B Z O h)(hi:Z[i]?=some l)(hx:O[i]?=some (some xs)):
  ∃vs n,aB B [] xs vs∧h.get? l=some (lobj vs n)∧Inv G (B.add l (lobj vs n)) Z (O.set i none) h:=by
 refine ew (I.ml i l xs hi hx) ?_;intro hB vs n e r;have le:=ay.iA (o:=lobj vs n) hB;have hl:l∈Z:=List.mem_of_getElem? hi;refine⟨vs,n,r,e,I.base.trans le,fun b x hb=>?_,by simp[I.len],fun j b zs h1 h2=>?_,I.dp,I.nodup,fun b hb=>⟨?_,(I.cg b hb).2⟩,G.hT.mono I.tab le fun zz zz zz x=>x,I.ey⟩
 ·unfold ay.add at hb
  by_cases q:b=l
  ·subst q;rw[if_pos rfl]at hb;cases Option.some.inj hb;exact e
  ·rw[if_neg q]at hb;exact I.holds b x hb
 ·by_cases q:j=i
  ·subst q
   rw[List.getElem?_set,if_pos rfl]at h2;split at h2<;>cases h2
  ·rw[List.getElem?_set_ne (Ne.symm q)]at h2
   refine ew (I.ml j b zs h1 h2) ?_;intro hb us m g r;have fb:b≠l:=fun z=>q (by
    subst z;obtain⟨p1,e1⟩:=List.getElem?_eq_some_iff.mp h1;obtain⟨p2,e2⟩:=List.getElem?_eq_some_iff.mp hi;exact(List.getElem_inj I.nodup).mp (e1.trans e2.symm))
   refine⟨?_,us,m,g,r.mono le (List.prefix_refl _)⟩;unfold ay.add;rw[if_neg fb];exact hb
 ·unfold ay.add;rw[if_neg (fun q:b=l=>(I.cg b hb).2 (q▸hl))];exact(I.cg b hb).1
end
variable (G)
variable {G}
section
variable{n:Nat}{env:Env}{U:aw}{O:Mu}{Q:V→Mu→Prop}
theorem PV.after{B B':ay}{Z aH:List Addr}{s s':Shared}{ar:Mu}(P:aG G [] B Z s B' aH ar s'){x:Value}{dj:Shared}(h:PV G B' aH s' Q x dj):PV G B Z s Q x dj:=by
 obtain⟨v,aZ,B2,aV,q,P2,r⟩:=h;exact⟨v,aZ,B2,aV,q,P.trans P2,r⟩
theorem PV.here{B:ay}{Z:List Addr}{s:Shared}{x:Value}{v:V}{t:Nat}(I:Inv G B Z O s.heap)(r:VR B Z v x)(q:Q v O):PV G B Z s Q x {s with toks:=t}:=⟨v,O,B,Z,q,I.tI,r⟩
theorem PV.bQ{B:ay}{Z:List Addr}{s:Shared}{x:Value}{v:V}(I:Inv G B Z O s.heap)(r:VR B Z v x)(q:Q v O):PV G B Z s Q x s:=⟨v,O,B,Z,q,aG.refl I (fun zz m=>nomatch m),r⟩
theorem xM{x:Nat}{v:V}{pos:Pos}(h:get U x=some v)(q:Q v O):bz G n env (eval (.Name (G.nm x) pos) env) U O Q:=by
 intro A hA B Z s I F;refine wpAny_Name ?_ (G.odd x).1;rcases F.cl x v h with hl|⟨hk,c,u,hc,eX,r⟩
 ·refine aW F.ns ?_;intro m hn hm
  refine aW (hm x v h hl) ?_;intro u hu r;exact wpAny_loadName_local F.kind hl hn hu (PV.bQ I r q)
 ·rcases hk with hk|hk
  ·exact wpAny_loadName_cell F.kind hk hc eX (PV.bQ I r q)
  ·exact wpAny_loadName_free F.kind hk hc eX (PV.bQ I r q) (G.odd x).2
theorem KQ{x:Nat}{v:Value}{pos:Pos}(hk:env.kindOf (G.nm x)=some .globalImplicit)(h:G.gl x=some v)(q:Q (.raw v) O):bz G n env (eval (.Name (G.nm x) pos) env) U O Q:=by
 intro A hA B Z s I F;exact Name_function_global F.kind hk (G.load h F.gl F.bi (fun a o e=>I.holds a o (I.base a o e)) (PV.bQ I .raw q)) (G.odd x).1
theorem PO{i:Int}{k:Nat}{pos:Pos}(q:Q (.int i) O):bz G n env (eval (.Constant (.int i) k pos) env) U O Q:=
 fun A hA B Z s I F=>wpAny_Constant_int (PV.here I .int q)
theorem PQ{x:Str}{k:Nat}{pos:Pos}(q:Q (.str x) O):bz G n env (eval (.Constant (.str x) k pos) env) U O Q:=
 fun A hA B Z s I F=>Calls.Constant_str (PV.here I .str q)
theorem KR{b:Bool}{k:Nat}{pos:Pos}(q:Q (.bool b) O):bz G n env (eval (.Constant (.bool b) k pos) env) U O Q:=
 fun A hA B Z s I F=>wpAny_Constant_bool (PV.bQ I .bool q)
theorem KS{k:Nat}{pos:Pos}(q:Q .none O):bz G n env (eval (.Constant .none k pos) env) U O Q:=
 fun A hA B Z s I F=>wpAny_Constant_none (PV.bQ I .none q)
end
variable (G)
def cB(n:Nat)(op:Operator)(v u:V)(O:Mu)(Q:V→Mu→Prop):Prop:=
 ∀A,bY n A→∀B Z s x y,Inv G B Z O s.heap→VR B Z v x→VR B Z u y→wpAny (model G.prog G.w) A (binaryOp op x y) (PV G B Z s Q) bM s
def bW(n:Nat)(op:CmpOp)(v u:V)(O:Mu)(Q:V→Mu→Prop):Prop:=
 ∀A,bY n A→∀B Z s x y,Inv G B Z O s.heap→VR B Z v x→VR B Z u y→wpAny (model G.prog G.w) A (compareOp op x y) (PV G B Z s Q) bM s
variable {G}
section
variable{n:Nat}{env:Env}{U:aw}{O:Mu}{Q:V→Mu→Prop}
theorem G3{l r:Expr}{op:Operator}{pos:Pos}(h:bz G n env (eval l env) U O fun v aA=>bz G n env (eval r env) U aA fun u aZ=>cB G n op v u aZ Q):
  bz G n env (eval (.BinOp l op r pos) env) U O Q:=by
 intro A hA B Z s I F;refine wpAny_BinOp (wpAny_mono (h A hA B Z s I F) ?_ fun zz zz x=>x);rintro x s1 ⟨v,aA,B1,aE,bf,P1,r1⟩;have F1:=F.keep P1 (by simp) (fun zz zz zz=>by simp)
 refine wpAny_mono (bf A hA B1 aE s1 P1.inv F1) ?_ fun zz zz x=>x;rintro y s2 ⟨u,aZ,B2,aV,bu,P2,r2⟩;refine wpAny_mono (bu A hA B2 aV s2 x y P2.inv (r1.mono P2.le P2.pre) r2) ?_ fun zz zz x=>x;rintro z s3 h3;exact PV.after P1 (PV.after P2 h3)
theorem PR{l r:Expr}{op:CmpOp}{pos:Pos}(h:bz G n env (eval l env) U O fun v aA=>bz G n env (eval r env) U aA fun u aZ=>bW G n op v u aZ Q)
  (hm:behindInMarks op r=false):bz G n env (eval (.Compare l [op] [r] pos) env) U O Q:=by
 intro A hA B Z s I F;refine wpAny_Compare1 (wpAny_mono (h A hA B Z s I F) ?_ fun zz zz x=>x) hm;rintro x s1 ⟨v,aA,B1,aE,bf,P1,r1⟩;have F1:=F.keep P1 (by simp) (fun zz zz zz=>by simp)
 refine wpAny_mono (bf A hA B1 aE s1 P1.inv F1) ?_ fun zz zz x=>x;rintro y s2 ⟨u,aZ,B2,aV,bu,P2,r2⟩;refine wpAny_mono (bu A hA B2 aV s2 x y P2.inv (r1.mono P2.le P2.pre) r2) ?_ fun zz zz x=>x;rintro z s3 h3;exact PV.after P1 (PV.after P2 h3)
theorem PT{a b:Int}(q:Q (.int (a+b)) O):cB G n .Add (.int a) (.int b) O Q:=by
 intro A hA B Z s x y I hx hy;refine VR.bC hx ?_;intro zz;refine VR.bC hy ?_;intro zz;exact add_int (PV.here I .int q)
theorem PU{a b:Int}(q:Q (.int (a-b)) O):cB G n .Sub (.int a) (.int b) O Q:=by
 intro A hA B Z s x y I hx hy;refine VR.bC hx ?_;intro zz;refine VR.bC hy ?_;intro zz;exact sub_int (PV.here I .int q)
theorem PW{a b:Int}(hm:IntMulOk a b)(q:Q (.int (a*b)) O):cB G n .Mult (.int a) (.int b) O Q:=by
 intro A hA B Z s x y I hx hy;refine VR.bC hx ?_;intro zz;refine VR.bC hy ?_;intro zz;exact mul_int (PV.here I .int q) hm
theorem KU{a b:Int}(hb:b≠0)(hp:b.natAbs.log2<9000)(q:Q (.int (a.fdiv b)) O):cB G n .FloorDiv (.int a) (.int b) O Q:=by
 intro A hA B Z s x y I hx hy;refine VR.bC hx ?_;intro zz;refine VR.bC hy ?_;intro zz;exact floordiv_int hb (PV.here I .int q) (.inl (PyProof.noPylong_of_log2 hp))
theorem PX{a b:Int}(hb:b≠0)(q:Q (.int (a.fmod b)) O):cB G n .Mod (.int a) (.int b) O Q:=by
 intro A hA B Z s x y I hx hy;refine VR.bC hx ?_;intro zz;refine VR.bC hy ?_;intro zz;exact mod_int' hb (PV.here I .int q)
theorem PY{a b:Int}(hn:0≤b)(bG:(Builtin.Int.intBits a:Int)*b≤2 ^ 27)(q:Q (.int (a ^ b.toNat)) O):cB G n .Pow (.int a) (.int b) O Q:=by
 intro A hA B Z s x y I hx hy;refine VR.bC hx ?_;intro zz;refine VR.bC hy ?_;intro zz;exact pow_int hn bG (PV.here I .int q)
theorem PZ{a b:Int}(hn:0≤b)(bG:(Builtin.Int.intBits a:Int)+b≤2 ^ 27)(q:Q (.int (a*2 ^ b.toNat)) O):cB G n .LShift (.int a) (.int b) O Q:=by
 intro A hA B Z s x y I hx hy;refine VR.bC hx ?_;intro zz;refine VR.bC hy ?_;intro zz;exact lshift_int hn bG (PV.here I .int q)
theorem Qa{a b:Int}(hn:0≤b)(q:Q (.int (a.fdiv (2 ^ b.toNat))) O):cB G n .RShift (.int a) (.int b) O Q:=by
 intro A hA B Z s x y I hx hy;refine VR.bC hx ?_;intro zz;refine VR.bC hy ?_;intro zz;exact rshift_int hn (PV.here I .int q)
theorem Qb{a b:Int}(q:Q (.int (Builtin.bitXor a b)) O):cB G n .BitXor (.int a) (.int b) O Q:=by
 intro A hA B Z s x y I hx hy;refine VR.bC hx ?_;intro zz;refine VR.bC hy ?_;intro zz;exact xor_int (PV.here I .int q)
theorem Eb{a b:Str}(bG:a.length+b.length≤sizeLine)(q:Q (.str (a++b)) O):cB G n .Add (.str a) (.str b) O Q:=by
 intro A hA B Z s x y I hx hy;refine VR.fQ hx ?_;intro zz;refine VR.fQ hy ?_;intro zz;exact add_str (fun zz zz=>PV.here I .str q) bG
theorem Ec{a:Str}{k:Int}(ze:MulOk a k)(q:Q (.str (Txt.mul a k)) O):cB G n .Mult (.str a) (.int k) O Q:=by
 intro A hA B Z s x y I hx hy;refine VR.fQ hx ?_;intro zz;refine VR.bC hy ?_;intro zz;exact SB.mul ze (fun zz zz=>PV.here I .str q)
theorem TY{a b:Int}(q:Q (.bool (decide (a<b))) O):bW G n .Lt (.int a) (.int b) O Q:=by
 intro A hA B Z s x y I hx hy;refine VR.bC hx ?_;intro zz;refine VR.bC hy ?_;intro zz;exact lt_int (PV.bQ I .bool q)
theorem Ot{a b:Int}(q:Q (.bool (decide (a≤b))) O):bW G n .LtE (.int a) (.int b) O Q:=by
 intro A hA B Z s x y I hx hy;refine VR.bC hx ?_;intro zz;refine VR.bC hy ?_;intro zz;exact le_int (PV.bQ I .bool q)
theorem TZ{a b:Int}(q:Q (.bool (decide (b<a))) O):bW G n .Gt (.int a) (.int b) O Q:=by
 intro A hA B Z s x y I hx hy;refine VR.bC hx ?_;intro zz;refine VR.bC hy ?_;intro zz;exact gt_int (PV.bQ I .bool q)
theorem T3{a b:Int}(q:Q (.bool (decide (b≤a))) O):bW G n .GtE (.int a) (.int b) O Q:=by
 intro A hA B Z s x y I hx hy;refine VR.bC hx ?_;intro zz;refine VR.bC hy ?_;intro zz;exact ge_int (PV.bQ I .bool q)
theorem T4{a b:Int}(q:Q (.bool (a==b)) O):bW G n .Eq (.int a) (.int b) O Q:=by
 intro A hA B Z s x y I hx hy;refine VR.bC hx ?_;intro zz;refine VR.bC hy ?_;intro zz;exact eq_int (PV.bQ I .bool q)
theorem T5{a b:Int}(q:Q (.bool (a !=b)) O):bW G n .NotEq (.int a) (.int b) O Q:=by
 intro A hA B Z s x y I hx hy;refine VR.bC hx ?_;intro zz;refine VR.bC hy ?_;intro zz;exact ne_int (PV.bQ I .bool q)
theorem Qc{a b:Str}(q:Q (.bool (a==b)) O):bW G n .Eq (.str a) (.str b) O Q:=by
 intro A hA B Z s x y I hx hy;refine VR.fQ hx ?_;intro zz;refine VR.fQ hy ?_;intro zz;exact eq_str (PV.bQ I .bool q)
theorem Qd{a b:Str}(q:Q (.bool (a !=b)) O):bW G n .NotEq (.str a) (.str b) O Q:=by
 intro A hA B Z s x y I hx hy;refine VR.fQ hx ?_;intro zz;refine VR.fQ hy ?_;intro zz;exact ne_str (PV.bQ I .bool q)
theorem Ed{a b:Str}(q:Q (.bool (!(!(Builtin.Str.occurrences b a 0 b.length 1).isEmpty))) O):bW G n .NotIn (.str a) (.str b) O Q:=by
 intro A hA B Z s x y I hx hy;refine VR.fQ hx ?_;intro zz;refine VR.fQ hy ?_;intro zz;exact notIn_str (PV.bQ I .bool q)
theorem Ee{a b:Bool}(q:Q (.bool (a !=b)) O):bW G n .IsNot (.bool a) (.bool b) O Q:=by
 intro A hA B Z s x y I hx hy;refine VR.tH hx ?_;refine VR.tH hy ?_;exact isnot_bool (PV.bQ I .bool q)
theorem Qe(q:Q (.bool true) O):bW G n .Is .none .none O Q:=by
 intro A hA B Z s x y I hx hy;refine VR.xI hx ?_;refine VR.xI hy ?_;exact is_none_none (PV.bQ I .bool q)
theorem VR.G4{B:ay}{Z:List Addr}{v:V}{x:Value}(h:VR B Z v x)(hn:v≠.none)(hr:∀y,v≠.raw y):x≠.none:=by
 cases h<;>first|exact absurd rfl hn|exact absurd rfl (hr _)|(intro e;cases e)
theorem KV{v:V}(hn:v≠.none)(hr:∀y,v≠.raw y)(q:Q (.bool false) O):bW G n .Is v .none O Q:=by
 intro A hA B Z s x y I hx hy;refine VR.xI hy ?_;exact is_none_ne (hx.G4 hn hr) (PV.bQ I .bool q)
end
variable (G)
def iP(n:Nat)(v:V)(O:Mu)(Q:Bool→Mu→Prop):Prop:=
 ∀A,bY n A→∀B Z s x,Inv G B Z O s.heap→VR B Z v x→wpAny (model G.prog G.w) A (truthy x) (PB G B Z s Q) bM s
variable {G}
section
variable{n:Nat}{env:Env}{U:aw}{O:Mu}
theorem PB.here{Q:Bool→Mu→Prop}{B:ay}{Z:List Addr}{s:Shared}{b:Bool}{t:Nat}(I:Inv G B Z O s.heap)(q:Q b O):PB G B Z s Q b {s with toks:=t}:=⟨O,B,Z,q,I.tI⟩
theorem PB.bQ{Q:Bool→Mu→Prop}{B:ay}{Z:List Addr}{s:Shared}{b:Bool}(I:Inv G B Z O s.heap)(q:Q b O):PB G B Z s Q b s:=⟨O,B,Z,q,aG.refl I (fun zz m=>nomatch m)⟩
variable{Q:Bool→Mu→Prop}
theorem KW{b:Bool}(q:Q b O):iP G n (.bool b) O Q:=by
 intro A hA B Z s x I hx;refine VR.tH hx ?_;exact wpAny_truthy_bool (PB.bQ I q)
theorem Qg{a:Int}(q:Q (a !=0) O):iP G n (.int a) O Q:=by
 intro A hA B Z s x I hx;refine VR.bC hx ?_;intro zz;exact truthy_int (PB.bQ I q)
theorem KX{xs:List V}(bG:xs.length<2 ^ 62)(q:Q (!xs.isEmpty) O):iP G n (.list xs) O Q:=by
 intro A hA B Z s x I hx;cases hx with
 |list e l h9=>
  rename_i a vs k;refine wpAny_truthy_list (items:=vs.toArray) ⟨_,I.holds _ _ e,rfl,k,rfl⟩ (by simp;exact ag 2 0 (aa (ak ab (nk (2 ^ 62))) (aa (ax ab af) (aK (az af) (zk 9223372036854775808)))) (by kd_p) bG l) ?_
  have:(!vs.toArray.isEmpty) = !xs.isEmpty:=by
   cases xs<;>cases vs<;>simp_all
  rw[this];exact PB.here I q
end
section
variable{n:Nat}{env:Env}{U:aw}{O:Mu}
theorem KY{e:Expr}{Q:Bool→Mu→Prop}(h:bz G n env (eval e env) U O fun v aA=>iP G n v aA Q)(he:isTrue e env (eval e env)=(do let v ←eval e env;standAt e.pos;holding [v] (truthy v))):
  fY G n env (isTrue e env (eval e env)) U O Q:=by
 intro A hA B Z s I F;refine wpAny_isTrue_value (wpAny_mono (h A hA B Z s I F) ?_ fun zz zz x=>x) he;rintro x s1 ⟨v,aA,B1,aE,bf,P1,r1⟩;refine wpAny_mono (bf A hA B1 aE s1 x P1.inv r1) ?_ fun zz zz x=>x;rintro b s2 ⟨aZ,B2,aV,q,P2⟩;exact⟨aZ,B2,aV,q,P1.trans P2⟩
theorem tJ{l r:Expr}{op:CmpOp}{pos:Pos}{wh:Sem Value}{Q:Bool→Mu→Prop}
  (h:bz G n env (eval l env) U O fun v aA=>bz G n env (eval r env) U aA fun u aZ=>bW G n op v u aZ fun c dN=>iP G n c dN Q)
  (hm:behindInMarks op r=false):fY G n env (isTrue (.Compare l [op] [r] pos) env wh) U O Q:=by
 intro A hA B Z s I F;refine wpAny_isTrue_Compare1 (wpAny_mono (h A hA B Z s I F) ?_ fun zz zz x=>x) hm;rintro x s1 ⟨v,aA,B1,aE,bf,P1,r1⟩;have F1:=F.keep P1 (by simp) (fun zz zz zz=>by simp)
 refine wpAny_mono (bf A hA B1 aE s1 P1.inv F1) ?_ fun zz zz x=>x;rintro y s2 ⟨u,aZ,B2,aV,bu,P2,r2⟩;refine wpAny_mono (bu A hA B2 aV s2 x y P2.inv (r1.mono P2.le P2.pre) r2) ?_ fun zz zz x=>x;rintro z s3 ⟨c,dN,B3,dK,h3,P3,r3⟩;refine wpAny_mono (h3 A hA B3 dK s3 z P3.inv r3) ?_ fun zz zz x=>x;rintro b s4 ⟨oB,B4,fz,q,P4⟩;exact⟨oB,B4,fz,q,P1.trans (P2.trans (P3.trans P4))⟩
theorem vC{Q:Bool→Mu→Prop}(q:Q true O):fY G n env (allTrue .And [] env) U O Q:=fun A hA B Z s I F=>wpAny_allTrue_And_nil (PB.bQ I q)
theorem xN{Q:Bool→Mu→Prop}(q:Q false O):fY G n env (allTrue .Or [] env) U O Q:=fun A hA B Z s I F=>wpAny_allTrue_Or_nil (PB.bQ I q)
theorem tK{x:Expr}{rest:List Expr}{Q:Bool→Mu→Prop}
  (h:fY G n env (isTrue x env (eval x env)) U O fun b aA=>match b with|true=>fY G n env (allTrue .And rest env) U aA Q|false=>Q false aA):fY G n env (allTrue .And (x::rest) env) U O Q:=by
 intro A hA B Z s I F;refine wpAny_allTrue_And_cons (wpAny_mono (h A hA B Z s I F) ?_ fun zz zz x=>x);rintro b s1 ⟨aA,B1,aE,bf,P1⟩;cases b with
 |false=>exact⟨aA,B1,aE,bf,P1⟩
 |true=>
  refine wpAny_mono (bf A hA B1 aE s1 P1.inv (F.keep P1 (by simp) (fun zz zz zz=>by simp))) ?_ fun zz zz x=>x
  rintro b s2 ⟨aZ,B2,aV,bu,P2⟩;exact⟨aZ,B2,aV,bu,P1.trans P2⟩
theorem kA{x:Expr}{rest:List Expr}{Q:Bool→Mu→Prop}
  (h:fY G n env (isTrue x env (eval x env)) U O fun b aA=>match b with|false=>fY G n env (allTrue .Or rest env) U aA Q|true=>Q true aA):fY G n env (allTrue .Or (x::rest) env) U O Q:=by
 intro A hA B Z s I F;refine wpAny_allTrue_Or_cons (wpAny_mono (h A hA B Z s I F) ?_ fun zz zz x=>x);rintro b s1 ⟨aA,B1,aE,bf,P1⟩;cases b with
 |true=>exact⟨aA,B1,aE,bf,P1⟩
 |false=>
  refine wpAny_mono (bf A hA B1 aE s1 P1.inv (F.keep P1 (by simp) (fun zz zz zz=>by simp))) ?_ fun zz zz x=>x
  rintro b s2 ⟨aZ,B2,aV,bu,P2⟩;exact⟨aZ,B2,aV,bu,P1.trans P2⟩
theorem ra{op:BoolOp}{values:List Expr}{pos:Pos}{wh:Sem Value}{Q:Bool→Mu→Prop}(h:fY G n env (allTrue op values env) U O Q):fY G n env (isTrue (.BoolOp op values pos) env wh) U O Q:=
 fun A hA B Z s I F=>wpAny_isTrue_BoolOp (h A hA B Z s I F)
variable{Q:V→Mu→Prop}
theorem G5{test body orelse:Expr}{pos:Pos}
  (h:fY G n env (isTrue test env (eval test env)) U O fun b aA=>match b with|true=>bz G n env (eval body env) U aA Q|false=>bz G n env (eval orelse env) U aA Q):
  bz G n env (eval (.IfExp test body orelse pos) env) U O Q:=by
 intro A hA B Z s I F;refine wpAny_IfExp (wpAny_mono (h A hA B Z s I F) ?_ fun zz zz x=>x);rintro b s1 ⟨aA,B1,aE,bf,P1⟩;have F1:=F.keep P1 (by simp) (fun zz zz zz=>by simp)
 cases b with
 |true=>exact wpAny_mono (bf A hA B1 aE s1 P1.inv F1) (fun zz zz bu=>PV.after P1 bu) fun zz zz x=>x
 |false=>exact wpAny_mono (bf A hA B1 aE s1 P1.inv F1) (fun zz zz bu=>PV.after P1 bu) fun zz zz x=>x
theorem KZ{x y:Expr}{pos:Pos}(h:bz G n env (eval x env) U O fun v aA=>iP G n v aA fun b aZ=>match b with|true=>bz G n env (eval y env) U aZ Q|false=>Q v aZ):
  bz G n env (eval (.BoolOp .And [x,y] pos) env) U O Q:=by
 intro A hA B Z s I F;refine wpAny_And2 (wpAny_mono (h A hA B Z s I F) ?_ fun zz zz x=>x);rintro x s1 ⟨v,aA,B1,aE,bf,P1,r1⟩;refine wpAny_mono (bf A hA B1 aE s1 x P1.inv r1) ?_ fun zz zz x=>x;rintro b s2 ⟨aZ,B2,aV,bu,P2⟩;have P:=P1.trans P2;cases b with
 |true=>exact wpAny_mono (bu A hA B2 aV s2 P2.inv (F.keep P (by simp) (fun zz zz zz=>by simp))) (fun zz zz h3=>PV.after P h3) fun zz zz x=>x
 |false=>exact⟨v,aZ,B2,aV,bu,P,r1.mono P2.le P2.pre⟩
theorem Ou{x:Expr}{op:UnaryOp}{pos:Pos}(h:bz G n env (eval x env) U O fun v aA=>∀A,bY n A→∀B Z s x,Inv G B Z aA s.heap→VR B Z v x→wpAny (model G.prog G.w) A (unaryOp op x) (PV G B Z s Q) bM s):
  bz G n env (eval (.UnaryOp op x pos) env) U O Q:=by
 intro A hA B Z s I F;refine wpAny_UnaryOp (wpAny_mono (h A hA B Z s I F) ?_ fun zz zz x=>x);rintro x s1 ⟨v,aA,B1,aE,bf,P1,r1⟩;exact wpAny_mono (bf A hA B1 aE s1 x P1.inv r1) (fun zz zz bu=>PV.after P1 bu) fun zz zz x=>x
theorem Qh{a:Int}(q:Q (.int (-a)) O):∀A,bY n A→∀B Z s x,Inv G B Z O s.heap→VR B Z (.int a) x→wpAny (model G.prog G.w) A (unaryOp .USub x) (PV G B Z s Q) bM s:=by
 intro A hA B Z s x I hx;refine VR.bC hx ?_;intro zz;exact neg_int (PV.here I .int q)
theorem Qi{a:Int}(q:Q (.int (Builtin.bitNot a)) O):∀A,bY n A→∀B Z s x,Inv G B Z O s.heap→VR B Z (.int a) x→wpAny (model G.prog G.w) A (unaryOp .Invert x) (PV G B Z s Q) bM s:=by
 intro A hA B Z s x I hx;refine VR.bC hx ?_;intro zz;exact invert_int (PV.here I .int q)
theorem Qj{pos:Pos}{R:List V→Mu→Prop}(q:R [] O):e7 G n env (spliced (backTo pos (starEach [] env))) U O R:=
 fun A hA B Z s I F=>wpAny_items_nil ⟨[],O,B,Z,q,aG.refl I (fun zz m=>nomatch m),.nil⟩
theorem K1{e:Expr}{rest:List Expr}{pos:Pos}{R:List V→Mu→Prop}
  (h:bz G n env (eval e env) U O fun v aA=>e7 G n env (spliced (backTo pos (starEach rest env))) U aA fun vs aZ=>R (v::vs) aZ)
  (he:starEach (e::rest) env=(false,eval e env)::starEach rest env):e7 G n env (spliced (backTo pos (starEach (e::rest) env))) U O R:=by
 intro A hA B Z s I F;refine wpAny_items_cons (wpAny_mono (h A hA B Z s I F) ?_ fun zz zz x=>x) he;rintro x s1 ⟨v,aA,B1,aE,bf,P1,r1⟩;refine wpAny_mono (bf A hA B1 aE s1 P1.inv (F.keep P1 (by simp) (fun zz zz zz=>by simp))) ?_ fun zz zz x=>x
 rintro xs s2 ⟨vs,aZ,B2,aV,bu,P2,r2⟩;exact⟨v::vs,aZ,B2,aV,bu,P1.trans P2,.cons (r1.mono P2.le P2.pre) r2⟩
theorem VR.newList{B:ay}{Z:List Addr}{a:Addr}{xs:List V}{vs:List Value}(e:B a=some (lobj vs 0))(r:aB B Z xs vs):VR B Z (.list xs) (.ref a):=.list e r.1 r.2
theorem VR.newTuple{B:ay}{Z:List Addr}{a:Addr}{xs:List V}{vs:List Value}(e:B a=some (gY vs 0))(r:aB B Z xs vs):VR B Z (.tuple xs) (.ref a):=.tuple e r.1 r.2
theorem K3{elts:List Expr}{pos:Pos}(h:e7 G n env (spliced (backTo pos (starEach elts env))) U O fun vs aA=>vs.length≤sizeLine∧Q (.list vs) aA):
  bz G n env (eval (.List elts pos) env) U O Q:=by
 intro A hA B Z s I F;refine wpAny_List (wpAny_mono (h A hA B Z s I F) ?_ fun zz zz x=>x);rintro xs s1 ⟨vs,aA,B1,aE,⟨bG,q⟩,P1,r1⟩;have P2:=P1.inv.push (o:=lobj xs 0) (t:=s1.toks) rfl;exact⟨r1.1▸bG,.list vs,aA,_,aE,q,P1.trans P2,.newList (ay.dc ..) (r1.mono P2.le P2.pre)⟩
theorem G6{elts:List Expr}{pos:Pos}(h:e7 G n env (spliced (backTo pos (starEach elts env))) U O fun vs aA=>vs.length≤sizeLine∧(∀x∈vs,Cl x)∧Q (.ml aA.length) (aA++[some vs])):
  bz G n env (eval (.List elts pos) env) U O Q:=by
 intro A hA B Z s I F;refine wpAny_List (wpAny_mono (h A hA B Z s I F) ?_ fun zz zz x=>x);rintro xs s1 ⟨vs,aA,B1,aE,⟨bG,hc,q⟩,P1,r1⟩;have P2:=P1.inv.G2 (t:=s1.toks) (r1.clean hc []);refine⟨r1.1▸bG,_,_,_,_,q,P1.trans P2,.ml ?_⟩;rw[←P1.inv.len];simp
theorem G7{elts:List Expr}{k:Nat}{pos:Pos}(h:e7 G n env (spliced (backTo pos (starEach elts env))) U O fun vs aA=>vs.length≤sizeLine∧Q (.tuple vs) aA):
  bz G n env (eval (.Tuple elts k pos) env) U O Q:=by
 intro A hA B Z s I F;refine wpAny_Tuple (wpAny_mono (h A hA B Z s I F) ?_ fun zz zz x=>x);rintro xs s1 ⟨vs,aA,B1,aE,⟨bG,q⟩,P1,r1⟩;have P2:=P1.inv.push (o:=gY xs 0) (t:=s1.toks) rfl;exact⟨r1.1▸bG,.tuple vs,aA,_,aE,q,P1.trans P2,.newTuple (ay.dc ..) (r1.mono P2.le P2.pre)⟩
end
end
section
variable{G:dn}
theorem Inv.same{B:ay}{Z:List Addr}{O:Mu}{h h':Heap}{l:Addr}(I:Inv G B Z O h)(hs:Heap.SameBut l h h')(hB:B l=none)(dM:l∉Z)(ht:l∉tabs):Inv G B Z O h':=by
 have kp:∀b o,b≠l→h.get? b=some o→h'.get? b=some o:=fun b o q g=>(hs.2 b q).trans g;refine⟨I.base,fun b x hb=>kp b x (fun q=>by subst q;rw[hB]at hb;exact bk hb) (I.holds b x hb),I.len,fun j b zs h1 h2=>?_,fun b hb=>?_,I.nodup,I.cg,
  G.hT.mono I.tab (.refl _) fun b hb x g=>kp b x (fun q=>ht (q▸hb)) g,I.ey⟩
 ·refine ew (I.ml j b zs h1 h2) ?_;intro e us m g r
  exact⟨e,us,m,kp b _ (fun q=>dM (q▸List.mem_of_getElem? h1)) g,r⟩
 ·obtain⟨o,e⟩:=I.dp b hb
  exact⟨o,kp b o (fun q=>dM (q▸hb)) e⟩
theorem gv{env:Env}{own:List Nat}{B:ay}{Z:List Addr}{U:aw}{O:Mu}{s:Shared}{A:Around}{E:Value→Shared→Prop}{x:Nat}{v:V}{u:Value}{Q:Unit→Shared→Prop}
  (ho:x∈own)(hk:env.kindOf (G.nm x)=some .local∨env.kindOf (G.nm x)=some .cell)(I:Inv G B Z O s.heap)(F:bt G env B Z U s.heap)(r:VR B Z v u)
  (hQ:∀h' tk,bt G env B Z (set U x v) h'→aG G (fa G env own) B Z s B Z O {s with heap:=h',toks:=tk}→Q () {s with heap:=h',toks:=tk}):
  wpAny (model G.prog G.w) A (storeName env (G.nm x) u) Q E s:=by
 have fin:∀h' tk l,l∈fa G env own→B l=none→l∉Z→l∉tabs→Heap.SameBut l s.heap h'→(∃o,h'.get? l=some o)→bt G env B Z (set U x v) h'→Q () {s with heap:=h',toks:=tk}:=by
  intro h' tk l hl hB dM ht hs hex F';refine hQ h' tk F' ⟨.refl _,List.prefix_refl _,I.same hs hB dM ht,fun b o hb g=>(hs.2 b (fun q=>hb (by subst q;simp[hl]))).trans g,fun a ha=>?_,.heap,fun zz h=>.inl h,fun zz h=>.inl h⟩
  exact F'.bL a ha
 rcases hk with hk|hk
 ·refine aW F.ns ?_;intro m hn hm
  refine wpAny_storeName_local hk hn (fun h' eA hs=>?_) (by rw[F.kind];rfl)
  refine fin h' _ env.locals (.head _) F.cV.1 F.cV.2.1 F.cV.2.2 hs (let⟨o,_,_,e,_⟩:=eA;⟨o,e⟩) ?_
  refine⟨F.kind,F.gl,F.bi,⟨_,eA,fun y w hy AX=>?_⟩,fun y w hy=>?_,F.cV,fun n c hc=>?_,F.inj,F.all⟩
  ·rw[get_set]at hy
   by_cases q:x=y
   ·subst q;rw[if_pos rfl]at hy;cases Option.some.inj hy;exact⟨u,if_pos rfl,r⟩
   ·rw[if_neg q]at hy
    refine aW (hm y w hy AX) ?_;intro z h1 h2;exact⟨z,(if_neg fun e=>q (G.inj _ _ e).symm).trans h1,h2⟩
  ·rw[get_set]at hy
   by_cases q:x=y
   ·subst q;exact .inl hk
   ·rw[if_neg q]at hy
    rcases F.cl y w hy with h|⟨h1,c,z,h2,h3,h4⟩
    ·exact .inl h
    ·exact .inr ⟨h1,c,z,h2,h3.sameBut hs (F.dI _ _ (aY h2)).2.2.2.1,h4⟩
  ·refine sY (F.dI n c hc) ?_;intro a1 a2 a3 a4 z hz
   exact⟨a1,a2,a3,a4,z,hz.sameBut hs a4⟩
 ·obtain⟨c,hc⟩:=F.all _ hk
  refine sY (F.dI _ _ (aY hc)) ?_;intro a1 a2 a3 a4 z hz;have a1:=a1.resolve_left (by rw[hk];nofun)
  refine wpAny_storeName_cell F.kind hk hc hz (fun h' xO hs=>?_);have T7:=fin h' s.toks c (.tail _ (List.mem_filterMap.mpr ⟨x,ho,hc⟩)) a1 a2 a3 hs (let⟨o,e,_⟩:=xO;⟨o,e⟩)
  refine T7 ?_;refine aW F.ns ?_;intro m hn hm;refine⟨F.kind,F.gl,F.bi,⟨m,hn.sameBut hs (Ne.symm a4),fun y w hy AX=>?_⟩,fun y w hy=>?_,F.cV,fun n c' T8=>?_,F.inj,F.all⟩
  ·rw[get_set]at hy
   by_cases q:x=y
   ·subst q;rw[hk]at AX;cases Option.some.inj AX
   ·rw[if_neg q]at hy;exact hm y w hy AX
  ·rw[get_set]at hy
   by_cases q:x=y
   ·subst q;rw[if_pos rfl]at hy;cases Option.some.inj hy;exact .inr ⟨.inl hk,c,u,hc,xO,r⟩
   ·rw[if_neg q]at hy
    rcases F.cl y w hy with h|⟨h1,d,z,h2,h3,h4⟩
    ·exact .inl h
    ·refine .inr ⟨h1,d,z,h2,h3.sameBut hs (fun e=>q ?_),h4⟩
     subst e;exact G.inj _ _ (F.inj _ _ _ hc h2)
  ·by_cases e:c'=c
   ·subst e;exact⟨.inr a1,a2,a3,a4,_,xO⟩
   ·refine sY (F.dI n c' T8) ?_;intro b1 b2 b3 b4 z hz
    exact⟨b1,b2,b3,b4,z,hz.sameBut hs e⟩
variable (G)
def gF(n:Nat)(env:Env)(own:List Nat)(f:Value→Sem Unit)(v:V)(U:aw)(O:Mu)(Q:aw→Mu→Prop):Prop:=
 ∀A,bY n A→∀B Z s u,Inv G B Z O s.heap→bt G env B Z U s.heap→VR B Z v u→
  wpAny (model G.prog G.w) A (f u) (PA G env own B Z s Q) bM s
variable {G}
section
variable{n:Nat}{env:Env}{own:List Nat}{U:aw}{O:Mu}{Q:Fl→aw→Mu→Prop}
theorem aG.wide{B B':ay}{Z aH:List Addr}{ar:Mu}{s s':Shared}(P:aG G [] B Z s B' aH ar s')(F:bt G env B Z U s.heap):aG G (fa G env own) B Z s B' aH ar s':=P.widen F.bL F.fJ F.i5
theorem PS.after{B B':ay}{Z aH:List Addr}{s s':Shared}{ar:Mu}(P:aG G (fa G env own) B Z s B' aH ar s'){x:Flow}{dj:Shared}(h:PS G env own B' aH s' Q x dj):PS G env own B Z s Q x dj:=by
 obtain⟨v,b9,aZ,B2,aV,q,P2,r⟩:=h;exact⟨v,b9,aZ,B2,aV,q,P.trans P2,r⟩
theorem bt.same{B B':ay}{Z aH:List Addr}{ar:Mu}{s s':Shared}(F:bt G env B Z U s.heap)(P:aG G [] B Z s B' aH ar s'):bt G env B' aH U s'.heap:=F.keep P (by simp) (fun zz zz zz=>by simp)
theorem cn.mono{t:Sem Flow}{Q':Fl→aw→Mu→Prop}(h:cn G n env own t U O Q)(hQ:∀r ao ar,Q r ao ar→Q' r ao ar):cn G n env own t U O Q':=
 fun A hA B Z s I F=>wpAny_mono (h A hA B Z s I F) (fun zz _ ⟨v,ao,ar,B',aH,q,r⟩=>⟨v,ao,ar,B',aH,hQ _ _ _ q,r⟩) fun zz zz x=>x
theorem xP(q:Q .next U O):cn G n env own (execs [] env) U O Q:=
 fun A hA B Z s I F=>wpAny_execs_nil ⟨.next,U,O,B,Z,q,aG.refl I F.bL,F,.next⟩
theorem j5{st:Stmt}{rest:List Stmt}(h:cn G n env own (exec st env) U O fun r a9 aA=>match r with | .next=>cn G n env own (execs rest env) a9 aA Q|r=>Q r a9 aA):
  cn G n env own (execs (st::rest) env) U O Q:=by
 intro A hA B Z s I F;refine wpAny_execs_cons (wpAny_mono (h A hA B Z s I F) ?_ fun zz zz x=>x);rintro fl s1 ⟨r,a9,aA,B1,aE,bf,P1,F1,r1⟩;cases r1 with
 |next=>exact wpAny_mono (bf A hA B1 aE s1 P1.inv F1) (fun zz zz bu=>PS.after P1 bu) fun zz zz x=>x
 |brk=>exact⟨.brk,a9,aA,B1,aE,bf,P1,F1,.brk⟩
 |cont=>exact⟨.cont,a9,aA,B1,aE,bf,P1,F1,.cont⟩
 |ret r=>exact⟨.ret _,a9,aA,B1,aE,bf,P1,F1,.ret r⟩
theorem Ov{test:Expr}{body orelse:List Stmt}{pos:Pos}
  (h:fY G n env (isTrue test env (eval test env)) U O fun b aA=>match b with|true=>cn G n env own (execs body env) U aA Q|false=>cn G n env own (execs orelse env) U aA Q):
  cn G n env own (exec (.If test body orelse pos) env) U O Q:=by
 intro A hA B Z s I F;refine wpAny_If (wpAny_mono (h A hA B Z s I F) ?_ fun zz zz x=>x);rintro b s1 ⟨aA,B1,aE,bf,P1⟩;have F1:=F.same P1;cases b with
 |true=>exact wpAny_mono (bf A hA B1 aE s1 P1.inv F1) (fun zz zz bu=>PS.after (P1.wide F) bu) fun zz zz x=>x
 |false=>exact wpAny_mono (bf A hA B1 aE s1 P1.inv F1) (fun zz zz bu=>PS.after (P1.wide F) bu) fun zz zz x=>x
theorem G8{e:Expr}{pos:Pos}(h:bz G n env (eval e env) U O fun v aA=>Q (.ret v) U aA):cn G n env own (exec (.Return (some e) pos) env) U O Q:=by
 intro A hA B Z s I F;refine wpAny_Return_some (wpAny_mono (h A hA B Z s I F) ?_ fun zz zz x=>x);rintro x s1 ⟨v,aA,B1,aE,bf,P1,r1⟩;exact⟨.ret v,U,aA,B1,aE,bf,P1.wide F,F.same P1,.ret r1⟩
theorem K4{pos:Pos}(q:Q (.ret .none) U O):cn G n env own (exec (.Return none pos) env) U O Q:=
 fun A hA B Z s I F=>wpAny_Return_none ⟨.ret .none,U,O,B,Z,q,aG.refl I F.bL,F,.ret .none⟩
theorem Qk{pos:Pos}(q:Q .brk U O):cn G n env own (exec (.Break pos) env) U O Q:=
 fun A hA B Z s I F=>wpAny_Break ⟨.brk,U,O,B,Z,q,aG.refl I F.bL,F,.brk⟩
theorem De{e:Expr}{pos:Pos}(h:bz G n env (eval e env) U O fun zz aA=>Q .next U aA)(hi:interactive env=false)(hs:swapsWith e none pos.line env=pure false):
  cn G n env own (exec (.Expr e pos) env) U O Q:=by
 intro A hA B Z s I F;refine wpAny_Expr_any (wpAny_mono (h A hA B Z s I F) ?_ fun zz zz x=>x) hi hs;rintro x s1 ⟨v,aA,B1,aE,bf,P1,r1⟩;exact⟨.next,U,aA,B1,aE,bf,P1.wide F,F.same P1,.next⟩
variable (G)
def nV(env:Env)(own:List Nat)(x:Nat):Prop:=x∈own∧(env.kindOf (G.nm x)=some .local∨env.kindOf (G.nm x)=some .cell)
variable {G}
theorem nh{x:Nat}{pos:Pos}{v:V}{R:aw→Mu→Prop}(hk:nV G env own x)(q:R (set U x v) O):gF G n env own (assign (.Name (G.nm x) pos) env) v U O R:=by
 intro A hA B Z s u I F r;exact assign_Name (gv hk.1 hk.2 I F r fun h' tk F' P=>⟨_,O,B,Z,q,P,F'⟩)
theorem Ef{x:Nat}{p pos:Pos}{e:Expr}(hk:nV G env own x)(h:bz G n env (eval e env) U O fun v aA=>Q .next (set U x v) aA)
  (hs:swapsWith e (some (.Name (G.nm x) p)) pos.line env=pure false):cn G n env own (exec (.Assign [.Name (G.nm x) p] e pos) env) U O Q:=by
 intro A hA B Z s I F;refine wpAny_Assign_Name (wpAny_mono (h A hA B Z s I F) ?_ fun zz zz x=>x) hs;rintro u s1 ⟨v,aA,B1,aE,bf,P1,r1⟩;exact gv hk.1 hk.2 P1.inv (F.same P1) r1 fun h' tk F' P=>⟨.next,_,aA,B1,aE,bf,(P1.wide F).trans P,F',.next⟩
theorem Ql{x:Nat}{p pos:Pos}{op:Operator}{e:Expr}{v:V}(hk:nV G env own x)(hx:get U x=some v)
  (h:bz G n env (eval e env) U O fun u aA=>∀A,bY n A→∀B Z s x1 y,Inv G B Z aA s.heap→VR B Z v x1→VR B Z u y→wpAny (model G.prog G.w) A (inplaceOp op x1 y) (PV G B Z s fun w aZ=>Q .next (set U x w) aZ) bM s):
  cn G n env own (exec (.AugAssign (.Name (G.nm x) p) op e pos) env) U O Q:=by
 intro A hA B Z s I F;refine wpAny_AugAssign_Name ?_;have hl:wpAny (model G.prog G.w) A (loadName env (G.nm x)) (fun u s'=>s'=s∧VR B Z v u) bM s:=by
  rcases F.cl x v hx with hl|⟨hk,c,u,hc,eX,r⟩
  ·refine aW F.ns ?_;intro m hn hm
   refine aW (hm x v hx hl) ?_;intro u hu r;exact wpAny_loadName_local F.kind hl hn hu ⟨rfl,r⟩
  ·rcases hk with hk|hk
   ·exact wpAny_loadName_cell F.kind hk hc eX ⟨rfl,r⟩
   ·exact wpAny_loadName_free F.kind hk hc eX ⟨rfl,r⟩ (G.odd x).2
 refine wpAny_mono hl ?_ fun zz zz x=>x;rintro old s0 ⟨rfl,r⟩;refine wpAny_mono (h A hA B Z s0 I F) ?_ fun zz zz x=>x;rintro y s1 ⟨u,aA,B1,aE,bf,P1,r1⟩;refine wpAny_mono (bf A hA B1 aE s1 old y P1.inv (r.mono P1.le P1.pre) r1) ?_ fun zz zz x=>x;rintro z s2 ⟨w,aZ,B2,aV,q,P2,r2⟩;have P:=P1.trans P2;exact gv hk.1 hk.2 P2.inv (F.same P) r2 fun h' tk F' P'=>⟨.next,_,aZ,B2,aV,q,(P.wide F).trans P',F',.next⟩
end
variable (G)
def Iter(v:V)(O:Mu)(xs:List V):Prop:=
 ∀A B Z s u (Q:Value→Shared→Prop) (E:Value→Shared→Prop),Inv G B Z O s.heap→VR B Z v u→
  (∀it h' fp P St,s.heap.get? it=none→(∀b o,s.heap.get? b=some o→h'.get? b=some o)→(∀i h,St i h→∃o,h.get? it=some o)→
   (∀A',A'.handled=none→Walks G.prog G.w A' it fp [it] xs.length P St)→(∀ (i:Nat) y,i<xs.length→P i y→∃x,xs[i]?=some x∧VR B Z x y)→St 0 h'→(∀b∈fp,b=it∨B b≠none)→Q (.ref it) {s with heap:=h'})→
  wpAny (model G.prog G.w) A (pyIter u) Q E s
variable {G}
theorem Iter.list{xs:List V}{O:Mu}:Iter G (.list xs) O xs:=by
 intro A B Z s u Q E I r hQ;cases r with
 |list e l h9=>
  rename_i a vs k;have hl:s.heap.IsList a vs.toArray:=⟨_,I.holds _ _ e,rfl,k,rfl⟩;have fb:a≠s.heap.objs.size:=Nat.ne_of_lt (Heap.lt_size (I.holds _ _ e));refine wpAny_pyIter_list hl (hQ _ _ [s.heap.objs.size,a] (fun i v=>vs.toArray[i]?=some v) (fun i h=>h.IsListIter s.heap.objs.size a i∧h.IsList a vs.toArray) (cx _) (bN _ _) (fun _ _ st=>let⟨o,e,_⟩:=st.1;⟨o,e⟩) (fun A' jU=>?_) (fun i y _ p=>?_) ⟨⟨_,Heap.get?_push_size _ rfl,rfl,rfl⟩,hl.push _⟩ ?_)
  ·have:=Walks.list (prog:=G.prog) (w:=G.w) jU s.heap.objs.size a fb vs.toArray
   rw[show vs.toArray.size=xs.length by simp[l]]at this
   exact this
  ·have p':vs[i]?=some y:=by simpa using p
   have hi:=(List.getElem?_eq_some_iff.mp p').1;rw[←l]at hi;exact⟨xs[i],List.getElem?_eq_getElem hi,h9 i _ y (List.getElem?_eq_getElem hi) p'⟩
  ·intro b hb
   rcases List.mem_cons.mp hb with rfl|hb
   ·exact .inl rfl
   ·rw[List.mem_singleton.mp hb];exact .inr (by rw[e];simp)
theorem Iter.str{x:Str}{O:Mu}:Iter G (.str x) O (x.cps.toList.map fun c=>.str ⟨#[c]⟩):=by
 intro A B Z s u Q E I r hQ;cases r with
 |str=>
  rename_i t;have hP:∀ (i:Nat) y,i<(x.cps.toList.map fun c=>V.str ⟨#[c]⟩).length→SignAt x i y→∃z,(x.cps.toList.map fun c=>V.str ⟨#[c]⟩)[i]?=some z∧VR B Z z y:=by
   rintro i y _ ⟨c,u,hc,rfl⟩;exact⟨.str ⟨#[c]⟩,by simp[hc],.str⟩
  have hl:(x.cps.toList.map fun c=>V.str ⟨#[c]⟩).length=x.cps.size:=by simp
  cases ha:x.cps.all (· < 128)
  ·refine wpAny_pyIter_wide ha (hQ _ _ [s.heap.objs.size] (SignAt x) (fun i h=>h.IsStrIter s.heap.objs.size "str_iterator" x t i) (cx _) (bN _ _) (fun _ _ st=>let⟨o,e,_⟩:=st;⟨o,e⟩) (fun A' jU=>?_) hP ⟨_,Heap.get?_push_size _ rfl,rfl,rfl⟩ fun b hb=>.inl (List.mem_singleton.mp hb))
   rw[hl];exact Walks.strWide jU _ x t
  ·refine wpAny_pyIter_ascii ha (hQ _ _ [s.heap.objs.size] (SignAt x) (fun i h=>h.IsStrIter s.heap.objs.size "str_ascii_iterator" x t i) (cx _) (bN _ _) (fun _ _ st=>let⟨o,e,_⟩:=st;⟨o,e⟩) (fun A' jU=>?_) hP ⟨_,Heap.get?_push_size _ rfl,rfl,rfl⟩ fun b hb=>.inl (List.mem_singleton.mp hb))
   rw[hl];exact Walks.strAscii jU _ x t
noncomputable def cJ(a b:Int):List V:=(List.range (b-a).toNat).map fun(i:Nat)=>.int (a+(i:Int))
theorem Iter.gE{a b:Int}{O:Mu}(hs:Builtin.Range.small a b 1=true):Iter G (.gE a b) O (cJ a b):=by
 intro A B Z s u Q E I r hQ;cases r with
 |gE e=>
  rename_i l t u v;have bG:Builtin.Range.rangeSize a b 1=((b-a).toNat:Int):=by
   unfold Builtin.Range.rangeSize;rw[if_pos (by decide)]
   split<;>(first|exact Yc (by assumption)|exact ag 0 2 (aa (dJ (aK aq aN)) (aS aJ (az (dB (bR aN aq))))) (by kd_p) (by assumption))
  refine wpAny_pyIter_range (I.holds _ _ e) hs (hQ _ _ [s.heap.objs.size] (fun i v=>∃t,v=.int (a+i*1) t) (fun i h=>IsRangeIter h s.heap.objs.size (a+(i:Nat)*1) (((b-a).toNat:Int)-(i:Nat)) 1) (cx _) (bN _ _) (fun _ _ st=>⟨_,st⟩) (fun A' jU=>?_) (fun i y hi p=>?_) ?_ fun b hb=>.inl (List.mem_singleton.mp hb))
  ·have:=Walks.range (prog:=G.prog) (w:=G.w) jU s.heap.objs.size a 1 (b-a).toNat
   rw[show(cJ a b).length=(b-a).toNat by simp[cJ]]
   exact this
  ·obtain⟨t',rfl⟩:=p
   have Eg:i<(b-a).toNat:=by simpa[cJ] using hi
   refine⟨.int (a+(i:Int)*1),?_,.int⟩;simp[cJ,Eg]
  ·show(s.heap.push _).get? s.heap.objs.size=_
   rw[Heap.get?_push_size _ rfl,bG];simp
noncomputable def forL(step:V→aw→Mu→(Fl→aw→Mu→Prop)→Prop):List V→aw→Mu→(Fl→aw→Mu→Prop)→Prop
 |[],U,O,Q=>Q .next U O
 |x::xs,U,O,Q=>step x U O fun r ao ar=>match r with
  |.next=>forL step xs ao ar Q
  |.cont=>forL step xs ao ar Q
  |.brk=>Q .next ao ar
  |.ret v=>Q (.ret v) ao ar
theorem aG.fM{W:List Addr}{B B':ay}{Z aH:List Addr}{ar:Mu}{s s':Shared}{h':Heap}{tk:Nat}{it:Addr}(P:aG G W B Z s B' aH ar s')(hn:s.heap.get? it=none)(hB:B' it=none)(dM:it∉aH)(ht:it∉tabs)(hW:it∉W)
  (k:∀b o,b≠it→s'.heap.get? b=some o→h'.get? b=some o):aG G W B Z s B' aH ar {s' with heap:=h',toks:=tk}:=by
 have I:=P.inv;refine⟨P.le,P.pre,⟨I.base,fun a o e=>k a o (fun q=>by subst q;rw[hB]at e;exact bk e) (I.holds a o e),I.len,fun i a xs h1 h2=>?_,fun a m=>?_,I.nodup,I.cg,
  G.hT.mono I.tab (.refl _) fun a m o e=>k a o (fun q=>ht (q▸m)) e,I.ey⟩,fun b o hb e=>?_,fun a m=>?_,P.rest.trans .heap,P.dF,P.da⟩
 ·refine ew (I.ml i a xs h1 h2) ?_;intro e vs n g r
  exact⟨e,vs,n,k _ _ (fun q=>dM (q▸List.mem_of_getElem? h1)) g,r⟩
 ·obtain⟨o,e⟩:=I.dp a m;exact⟨o,k _ _ (fun q=>dM (q▸m)) e⟩
 ·exact k b o (fun q=>by subst q;rw[hn]at e;exact bk e) (P.keep b o hb e)
 ·obtain⟨o,e⟩:=P.bL a m;exact⟨o,k _ _ (fun q=>hW (q▸m)) e⟩
theorem bt.fM{env:Env}{B:ay}{Z:List Addr}{U:aw}{h h':Heap}{it:Addr}(F:bt G env B Z U h)(hL:env.locals≠it)(hC:∀n c,(n,c)∈env.cells→c≠it)(k:∀b o,b≠it→h.get? b=some o→h'.get? b=some o):bt G env B Z U h':=by
 refine aW F.ns ?_;intro m z1;obtain⟨o,es,ep,e,r⟩:=z1;intro hm;refine⟨F.kind,F.gl,F.bi,⟨m,⟨o,es,ep,k _ _ hL e,r⟩,hm⟩,fun x v hx=>?_,F.cV,fun n c hc=>?_,F.inj,F.all⟩
 ·rcases F.cl x v hx with h|⟨hk,c,u,hc,⟨o',eo,ed⟩,h2⟩
  ·exact .inl h
  ·exact .inr ⟨hk,c,u,hc,⟨o',k _ _ (hC _ c (aY hc)) eo,ed⟩,h2⟩
 ·refine cw (F.dI n c hc) ?_;intro a1 a2 a3 a4 v o' eo ed
  exact⟨a1,a2,a3,a4,v,o',k _ _ (hC n c hc) eo,ed⟩
abbrev Yi(prog:Program)(w:World)(A:Around)(body:List Stmt)(env:Env)(E:Flow→Shared→Prop):Unit→Shared→Prop:=fun zz s=>wpAny (model prog w) A (execs body env) E bM s
abbrev Yj(prog:Program)(w:World)(A:Around)(target:Expr)(body:List Stmt)(env:Env)(v:Value)(E:Flow→Shared→Prop):Unit→Shared→Prop:=fun zz s=>wpAny (model prog w) A (assign target env v) (Yi prog w A body env E) bM s
theorem G9{prog:Program}{w:World}{A:Around}{s:Shared}{R:Result→Shared→Prop}{target:Expr}{it:Value}{body:List Stmt}{env:Env}(P:Flow→Shared→Prop)(I:Nat→Shared→Prop)(hR:∀f s,P f s→R (.ok f) s)
  (turn:∀n s (K:Option Value→Shared→Prop),I n s→(∀s1,P .next s1→K none s1)→
   (∀v s1,(∀E:Flow→Shared→Prop,(∀m s,m<n→I m s→E .next s∧E .cont s)→(∀s,P .next s→E .brk s)→(∀v s,P (.ret v) s→E (.ret v) s)→
    wpAny (model prog w) A (letOwnedTupleGo target it v) (Yj prog w A target body env v E) bM s1)→K (some v) s1)→wpAny (model prog w) A (pyNext it) K bM s)
  (n:Nat)(h:I n s):codeAny (model prog w) A (.forLoop target it body [] env) R s:=by
 refine codeAny_forLoop_any I (fun n s hI=>wpAny_mono (turn n s _ hI (fun s1 bf=>wpAny_execs_nil (hR _ _ bf)) fun v s1 bf=>?_) (fun zz zz x=>x) fun zz zz x=>x.elim) n h;exact wpAny_mono (bf (fun f s3=>match f with | .next=>∃m,m<n∧I m s3 | .cont=>∃m,m<n∧I m s3 | .brk=>R (.ok .next) s3 | .ret v=>R (.ok (.ret v)) s3) (fun m zz a b=>⟨⟨m,a,b⟩,⟨m,a,b⟩⟩) (fun zz x=>hR _ _ x) (fun zz zz x=>hR _ _ x))
  (fun zz s h=>wpAny_mono h (fun zz s h=>wpAny_mono h (fun f s h=>by cases f<;>exact h) fun zz zz x=>x.elim) fun zz zz x=>x.elim) fun zz zz x=>x.elim
abbrev rb(G:dn)(n:Nat)(env:Env)(own:List Nat)(target:Expr)(body:List Stmt):V→aw→Mu→(Fl→aw→Mu→Prop)→Prop:=fun x U O k=>gF G n env own (assign target env) x U O fun ao ar=>cn G n env own (execs body env) ao ar k
inductive Yk(G:dn)(env:Env)(own:List Nat)(it:Addr)(St:Nat→Heap→Prop)(xs:List V)(T:V→aw→Mu→(Fl→aw→Mu→Prop)→Prop)(Q:Fl→aw→Mu→Prop)(B1:ay)(aE:List Addr)(s1:Shared)(k:Nat)(s':Shared):Prop
 |mk (i:Nat) (ao:aw) (ar:Mu) (B':ay) (aH:List Addr) (hi:i≤xs.length) (hm:k=xs.length-i) (st:St i s'.heap) (P:aG G (fa G env own) B1 aE s1 B' aH ar s') (F:bt G env B' aH ao s'.heap) (hB:B' it=none) (dM:it∉aH) (hL:forL T (xs.drop i) ao ar Q)
theorem xQ{n:Nat}{env:Env}{own:List Nat}{U:aw}{Q:Fl→aw→Mu→Prop}{target iter:Expr}{body:List Stmt}{pos:Pos}{A:Around}(hA:bY n A){B:ay}{Z:List Addr}{s:Shared}(F:bt G env B Z U s.heap)
  (h:∀ (K:Value→Shared→Prop),(∀B1 aE aA s1 xs it h' fp P St,forL (rb G n env own target body) xs U aA Q→aG G [] B Z s B1 aE aA s1→s1.heap.get? it=none→(∀b o,s1.heap.get? b=some o→h'.get? b=some o)→(∀i h,St i h→∃o,h.get? it=some o)→
    (∀A',A'.handled=none→Walks G.prog G.w A' it fp [it] xs.length P St)→(∀ (i:Nat) y,i<xs.length→P i y→∃x,xs[i]?=some x∧VR B1 aE x y)→St 0 h'→(∀b∈fp,b=it∨B1 b≠none)→K (.ref it) {s1 with heap:=h'})→
   wpAny (model G.prog G.w) A (eval iter env) (fun u s'=>wpAny (model G.prog G.w) A (pyIter u) K bM s') bM s)
  (hf:∀x,foldedSetIterable iter env x=pure x)(ht:∀it v,letOwnedTupleGo target it v=pure ()):
  wpAny (model G.prog G.w) A (exec (.For target iter body [] pos) env) (PS G env own B Z s Q) bM s:=by
 refine wpAny_For (wpAny_mono (h _ ?_) (fun zz zz x=>x) fun zz zz x=>x) hf;intro B1 aE aA s1 xs it h' fp P St hL P1 hn hk df W hP fZ K5;have F1:=F.same P1;have Ha:it∉tabs:=P1.inv.i5 hn;have Hb:it∉fa G env own:=fun m=>by obtain⟨o,e⟩:=F1.bL it m;rw[hn]at e;exact bk e
 have Hc:env.locals≠it:=fun q=>by refine aW F1.ns ?_;intro m z1;obtain⟨o,_,_,e,_⟩:=z1;intro zz;rw[q,hn]at e;exact bk e
 have He:∀n c,(n,c)∈env.cells→c≠it:=fun n c m q=>by refine cw (F1.dI n c m) ?_;intro zz zz zz zz v o e zz;rw[q,hn]at e;exact bk e
 have Qm:aG G (fa G env own) B1 aE s1 B1 aE aA {s1 with heap:=h'}:=P1.inv.kz (t:=s1.toks) hk F1.bL
 refine G9 (PS G env own B Z s Q) (Yk G env own it St xs (rb G n env own target body) Q B1 aE s1) (fun zz zz x=>x) ?_ xs.length
  (.mk 0 U aA B1 aE (Nat.zero_le _) rfl fZ Qm (F1.fM (it:=it) Hc He (fun b o zz e=>hk b o e)) (P1.inv.eZ hn) (P1.inv.fJ hn) hL)
 intro k s' K z hN hS;cases z with|mk i ao ar B' aH hi hm pq P' F' AY zf qg=>?_
 have aab:∀ {kB:Heap},(∀b o,B' b=some o→kB.get? b=some o)→∀ {b},b∈fp→b≠it→∀o,s'.heap.get? b=some o→kB.get? b=some o:=by
  intro kB hh b hb fb o e;rcases K5 b hb with q|q
  ·exact absurd q fb
  ·cases hq:B1 b with
   |none=>exact absurd hq q
   |some o'=>
    have e1:=P'.inv.holds b o' (P'.le b o' hq);rw[e]at e1;cases Option.some.inj e1;exact hh b _ (P'.le b _ hq)
 by_cases bA:i<xs.length
 ·refine(W A hA.handled).item i s' K bM bA pq ?_
  intro y bu tk hy wi iR;have iD:∀b o,b≠it→s'.heap.get? b=some o→bu.get? b=some o:=fun b o q=>iR b o (by simpa using q)
  refine aW (hP i y bA hy) ?_;intro x hx rx;have hd:xs.drop i=x::xs.drop (i+1):=by
   rw[List.drop_eq_getElem_cons bA];rw[List.getElem?_eq_getElem bA]at hx;cases Option.some.inj hx;rfl
  rw[hd]at qg;have P2:=P'.fM (tk:=tk) hn AY zf Ha Hb iD;have F2:=F'.fM Hc He iD;refine hS y _ fun E hE Qn Qo=>wpAny_of_eq (ht _ y) (wpAny_mono (qg A hA B' aH _ y P2.inv F2 (rx.mono P'.le P'.pre)) ?_ fun zz zz x=>x);rintro zz s3 ⟨gG,dN,B3,dK,wj,P3,F3⟩;refine wpAny_mono (wj A hA B3 dK s3 P3.inv F3) ?_ fun zz zz x=>x;rintro fl s4 ⟨r,pv,oB,B4,fz,q,P4,F4,r4⟩;have P5:=P3.trans P4;obtain⟨oit,T9⟩:=df _ _ wi;have Ua:St (i+1) s4.heap:=by
   refine(W A hA.handled).frame (i+1) bu s4.heap wi fun b hb o e=>?_
   by_cases Eh:b=it
   ·subst Eh;exact P5.kept e Hb zf Ha
   ·rcases K5 b hb with z|z
    ·exact absurd z Eh
    ·cases hq:B1 b with
     |none=>exact absurd hq z
     |some o'=>
      have e1:=P2.inv.holds b o' (P'.le b o' hq);rw[e]at e1;cases Option.some.inj e1;exact P5.inv.holds b _ (P5.le b _ (P'.le b _ hq))
  have next:forL (rb G n env own target body) (xs.drop (i+1)) pv oB Q→E .next s4∧E .cont s4:=fun q=>
   hE _ _ (by rw[hm];exact Gw bA) (.mk (i+1) pv oB B4 fz bA rfl Ua (P2.trans P5) F4 (P5.eZ T9 AY zf) (P5.fJ T9 zf) q)
  cases r4 with
  |next=>exact(next q).1
  |cont=>exact(next q).2
  |brk=>exact Qn _ ⟨.next,pv,oB,B4,fz,q,(P1.wide F).trans (P2.trans P5),F4,.next⟩
  |ret r=>exact Qo _ _ ⟨.ret _,pv,oB,B4,fz,q,(P1.wide F).trans (P2.trans P5),F4,.ret r⟩
 ·have AZ:i=xs.length:=by exact Pt hi bA
  subst AZ;refine(W A hA.handled).done s' K bM pq ?_;intro bu tk iR;have iD:∀b o,b≠it→s'.heap.get? b=some o→bu.get? b=some o:=fun b o q=>iR b o (by simpa using q)
  have P2:=P'.fM (tk:=tk) hn AY zf Ha Hb iD;have F2:=F'.fM Hc He iD;refine hN _ ?_;rw[List.drop_length]at qg;exact⟨.next,ao,ar,B',aH,qg,(P1.wide F).trans P2,F2,.next⟩
theorem Qp{n:Nat}{env:Env}{own:List Nat}{U:aw}{O:Mu}{Q:Fl→aw→Mu→Prop}{target iter:Expr}{body:List Stmt}{pos:Pos}
  (h:bz G n env (eval iter env) U O fun v aA=>∃xs,Iter G v aA xs∧forL (rb G n env own target body) xs U aA Q)
  (hf:∀x,foldedSetIterable iter env x=pure x)(ht:∀it v,letOwnedTupleGo target it v=pure ()):
  cn G n env own (exec (.For target iter body [] pos) env) U O Q:=by
 intro A hA B Z s I F;refine xQ hA F (fun K hK=>wpAny_mono (h A hA B Z s I F) ?_ fun zz zz x=>x) hf ht;rintro u s1 ⟨v,aA,B1,aE,q,P1,r1⟩;exact q.elim fun xs q=>q.1 A B1 aE s1 u K _ P1.inv r1 fun it h' fp P St=>hK B1 aE aA s1 xs it h' fp P St q.2 P1
end
variable{G:dn}
theorem Inv.jV{B:ay}{Z:List Addr}{O:Mu}{h:Heap}(I:Inv G B Z O h):G.K.In h:=fun a o e=>I.holds a o (I.base a o (G.hK a o e))
theorem Inv.noLimit{B:ay}{Z:List Addr}{O:Mu}{h:Heap}(I:Inv G B Z O h):h.NoLimit:=G.nolimit h fun a o e=>I.holds a o (I.base a o e)
theorem Hf{n:Nat}{env:Env}{own:List Nat}{U:aw}{O:Mu}{Q:Fl→aw→Mu→Prop}{test:Expr}{body:List Stmt}{pos:Pos}(J:Nat→aw→Mu→Prop)(k0:Nat)(h0:J k0 U O)
  (turn:∀k U O,J k U O→fY G n env (isTrue test env (eval test env)) U O fun b ar=>match b with
   |true=>cn G n env own (execs body env) U ar fun r fK cU=>match r with
    |.next=>∃m,m<k∧J m fK cU
    |.cont=>∃m,m<k∧J m fK cU
    |.brk=>Q .next fK cU
    |.ret v=>Q (.ret v) fK cU
   |false=>Q .next U ar):
  cn G n env own (exec (.While test body [] pos) env) U O Q:=by
 intro A hA B Z s I F;refine wpAny_While (codeAny_whileLoop (fun k s'=>∃ao ar B' aH,aG G (fa G env own) B Z s B' aH ar s'∧bt G env B' aH ao s'.heap∧J k ao ar) ?_ k0 ⟨U,O,B,Z,aG.refl I F.bL,F,h0⟩);rintro k s' ⟨ao,ar,B',aH,P',F',hJ⟩;refine wpAny_mono (turn k ao ar hJ A hA B' aH s' P'.inv F') ?_ fun zz zz x=>x.elim;rintro b s1 ⟨aA,B1,aE,bf,P1⟩;have F1:=F'.same P1;have P:=P'.trans (P1.wide F');cases b with
 |false=>exact wpAny_execs_nil ⟨.next,ao,aA,B1,aE,bf,P,F1,.next⟩
 |true=>
  refine wpAny_mono (bf A hA B1 aE s1 P1.inv F1) ?_ fun zz zz x=>x.elim;rintro fl s2 ⟨r,b9,aZ,B2,aV,bu,P2,F2,r2⟩;cases r2 with
  |next=>refine aW bu ?_;clear bu;intro m hm hj;exact⟨m,hm,b9,aZ,B2,aV,P.trans P2,F2,hj⟩
  |cont=>refine aW bu ?_;clear bu;intro m hm hj;exact⟨m,hm,b9,aZ,B2,aV,P.trans P2,F2,hj⟩
  |brk=>exact⟨.next,b9,aZ,B2,aV,bu,P.trans P2,F2,.next⟩
  |ret r=>exact⟨.ret _,b9,aZ,B2,aV,bu,P.trans P2,F2,.ret r⟩
theorem dr{M:Model}{A:Around}{E:Value→Shared→Prop}{s:Shared}{scope:Scope}{globals:Addr}{closure:List (Str×Addr)}{binds:List (Str×Value)}{qual:Str}{func:Option Addr}{code:Value}{around:Option Env}{builtins:Addr}{Q:Env→Shared→Prop}
  (h:wpAny M A (forIn binds (⟨⟩:PUnit) fun x zz=>do storeName (newEnv scope s.heap.objs.size globals (cellsFrom (s.heap.objs.size+1) scope.names closure) qual func code around builtins) x.1 x.2;pure (.yield ⟨⟩))
   (fun zz s'=>Q (newEnv scope s.heap.objs.size globals (cellsFrom (s.heap.objs.size+1) scope.names closure) qual func code around builtins) s') E
   {s with heap:=pushCells (s.heap.push {cls:=.type (if around.isSome then "dict" else "frame"),data:=.dict #[]}) scope.names}):
  wpAny M A (newFunctionEnv scope globals closure binds qual func code around builtins) Q E s:=by
 have e:({s with heap:=s.heap.push {cls:=.type (if around.isSome then "dict" else "frame"),data:=.dict #[]}}:Shared).heap.objs.size=s.heap.objs.size+1:=Heap.size_push ..
 cases around with
 |none=>
  simp only[newFunctionEnv,Option.isSome_none,Bool.false_eq_true,if_false];refine wpAny_bind (wpAny_alloc ?_);refine wpAny_bind (wpAny_layCells _ (fun name kind cells=>by cases Qq:kind==NameKind.cell<;>simp[Qq]) _ _ _ _ ?_)
  rw[show({s with heap:=s.heap.push {cls:=.type "frame",data:=.dict #[]}}:Shared).heap.objs.size=s.heap.objs.size+1 from Heap.size_push ..]
  exact wpAny_bind (wpAny_mono h (fun zz zz q=>wpAny_pure q) fun zz zz x=>x)
 |some o=>
  simp only[newFunctionEnv,Option.isSome_some,if_true];refine wpAny_bind (wpAny_alloc ?_);refine wpAny_bind (wpAny_layCells _ (fun name kind cells=>by cases Qq:kind==NameKind.cell<;>simp[Qq]) _ _ _ _ ?_)
  rw[show({s with heap:=s.heap.push {cls:=.type "dict",data:=.dict #[]}}:Shared).heap.objs.size=s.heap.objs.size+1 from Heap.size_push ..]
  exact wpAny_bind (wpAny_mono h (fun zz zz q=>wpAny_pure q) fun zz zz x=>x)
inductive gb(B:ay)(Z:List Addr):List (Str×Value)→List (Nat×V)→Prop where
 |nil:gb B Z [] []
 |cons {x:Nat} {v:V} {u:Value} {bs:List (Str×Value)} {ps:List (Nat×V)}:VR B Z v u→gb B Z bs ps→gb B Z ((G.nm x,u)::bs) ((x,v)::ps)
noncomputable def bc(U:aw):List (Nat×V)→aw
 |[]=>U
 |(x,v)::ps=>bc (set U x v) ps
theorem jq{env:Env}{own:List Nat}{B:ay}{Z:List Addr}{O:Mu}{A:Around}{E:Value→Shared→Prop}{bs:List (Str×Value)}{ps:List (Nat×V)}(hb:gb (G:=G) B Z bs ps):
  ∀ {U:aw} {s:Shared} {Q:PUnit→Shared→Prop},(∀p∈ps,nV G env own p.1)→Inv G B Z O s.heap→bt G env B Z U s.heap→
   (∀h' tk,bt G env B Z (bc U ps) h'→aG G (fa G env own) B Z s B Z O {s with heap:=h',toks:=tk}→Q ⟨⟩ {s with heap:=h',toks:=tk})→
   wpAny (model G.prog G.w) A (forIn bs (⟨⟩:PUnit) fun x zz=>do storeName env x.1 x.2;pure (.yield ⟨⟩)) Q E s:=by
 induction hb with
 |nil=>intro U s Q zz I F hQ;rw[List.forIn_nil];exact wpAny_pure (hQ s.heap s.toks F (aG.refl I F.bL))
 |cons r _ ih=>
  intro U s Q hk I F hQ;rw[List.forIn_cons];refine wpAny_bind (wpAny_bind ?_);refine gv (hk _ (.head _)).1 (hk _ (.head _)).2 I F r fun h' tk F' P=>?_;refine wpAny_pure (ih (fun p hp=>hk p (.tail _ hp)) P.inv F' fun kB Ub Hg Yl=>hQ kB Ub Hg (P.trans Yl))
theorem fA{h:Heap}{a:Addr}(e:h.objs.size≤a):h.get? a=none:=by
 cases q:h.get? a with
 |none=>rfl
 |some o=>exact absurd (Heap.lt_size q) (Nat.not_lt.mpr e)
def xR(B:ay)(Z:List Addr)(names:List (Str×NameKind))(h:Heap)(cl:List (Str×Addr)):Prop:=
 (∀n c,(n,c)∈cl→(names.lookup n=some .free∨B c=none)∧c∉Z∧c∉tabs∧∃v,h.IsCell c v)∧cl.Pairwise fun x y=>x.2≠y.2
theorem cK:∀ (names:List (Str×NameKind)) (h:Heap) (lo:Nat) (cl acc:List (Str×Addr)),(∀n c,(n,c)∈cl→∃v,h.IsCell c v)→(∀n c,(n,c)∈acc→(n,c)∈cl∨(h.IsCell c none∧lo≤c))→acc.Pairwise (fun x y=>x.2≠y.2)→lo≤h.objs.size→
  (∀n c,(n,c)∈cellsFrom h.objs.size names acc→(n,c)∈cl∨((pushCells h names).IsCell c none∧lo≤c))∧(cellsFrom h.objs.size names acc).Pairwise (fun x y=>x.2≠y.2)
 |[],h,lo,cl,acc,cj,x,y,hU=>⟨x,y⟩
 |(name,kind)::r,h,lo,cl,acc,cj,x,y,hU=>by
  unfold pushCells cellsFrom;split
  ·have:=cK r (h.push {cls:=.type "cell",data:=.cell none}) lo cl ((name,h.objs.size)::acc) (fun n c m=>let⟨v,hv⟩:=cj n c m;⟨v,hv.keeps fun b o e=>Heap.get?_push_of_some _ e⟩)
    (fun n c hm=>by
     rcases List.mem_cons.mp hm with e|hm
     ·cases e;exact .inr ⟨⟨_,Heap.get?_push_size _ rfl,rfl⟩,hU⟩
     ·exact(x n c hm).imp id fun z=>⟨z.1.keeps fun b o e=>Heap.get?_push_of_some _ e,z.2⟩)
    (List.pairwise_cons.mpr ⟨fun z hz e=>by
     have e':h.objs.size=z.2:=e;rcases x z.1 z.2 hz with m|m
     ·obtain⟨v,hv⟩:=cj _ _ m;exact Nat.lt_irrefl _ (e'▸hv.lt)
     ·exact Nat.lt_irrefl _ (e'▸m.1.lt),y⟩) (by rw[Heap.size_push];exact AU hU)
   rwa [Heap.size_push]at this
  ·exact cK r h lo cl acc cj x y hU
theorem bt.fresh{B:ay}{Z:List Addr}{O:Mu}{h:Heap}{scope:Scope}{cl:List (Str×Addr)}{fo:Obj}{env:Env}(I:Inv G B Z O h)(hf:∃c,fo={cls:=.type c,data:=.dict #[]})(hC:xR B Z scope.names h cl)
  (lr:∀n,scope.names.lookup n=some .cell→True)
  (dP:env.scope=scope)(hL:env.locals=h.objs.size)(hc:env.cells=cellsFrom (h.objs.size+1) scope.names cl)(hk:scope.kind=.function)(hg:env.globals=mainGlobals)(hb:env.builtins=builtinsNs):
  bt G env B Z [] (pushCells (h.push fo) scope.names):=by
 obtain⟨fc,rfl⟩:=hf;have k1:=bN h {cls:=.type fc,data:=.dict #[]};have k2:=pushCells_keeps scope.names (h.push {cls:=.type fc,data:=.dict #[]});have ok:=cK scope.names (h.push {cls:=.type fc,data:=.dict #[]}) (h.objs.size+1) cl cl (fun n c m=>let⟨_,_,_,v,hv⟩:=hC.1 n c m;⟨v,hv.keeps k1⟩) (fun n c m=>.inl m) hC.2 (by rw[Heap.size_push];exact Nat.le_refl _)
 rw[Heap.size_push]at ok;have hn:=cx h;refine⟨dP▸hk,hg,hb,⟨fun zz=>none,?_,(fun x v hx=>by cases hx)⟩,(fun x v hx=>by cases hx),?_,fun n c m=>?_,fun n n' c e e'=>?_,fun n e=>?_⟩
 ·rw[hL];exact(Heap.Ns.new h (.type fc)).keeps k2
 ·rw[hL];exact⟨I.eZ hn,I.fJ hn,I.i5 hn⟩
 ·rw[hc]at m
  rcases ok.1 n c m with q|⟨q,q'⟩
  ·refine GZ (hC.1 n c q) ?_;intro a1 a2 a3 v hv
   exact⟨by unfold Env.kindOf;rw[dP];exact a1,a2,a3,by rw[hL];exact Nat.ne_of_lt hv.lt,v,(hv.keeps k1).keeps k2⟩
  ·have eA:h.get? c=none:=fA (by exact Pu q')
   exact⟨.inr (I.eZ eA),I.fJ eA,I.i5 eA,by rw[hL];exact Nat.ne_of_gt q',none,q⟩
 ·rw[hc]at e e'
  exact name_of_addr ok.2 (mem_of_lookup e) (mem_of_lookup e')
 ·rw[hc]
  have:((cellsFrom (h.objs.size+1) scope.names cl).lookup n).isSome=true:=cellsFrom_some _ _ _ (.inl (by rw[←dP];exact e))
  exact Option.isSome_iff_exists.mp this
theorem Inv.shrink{B:ay}{Z aH:List Addr}{O:Mu}{h:Heap}(I:Inv G B aH O h)(p:Z <+: aH)(p0:G.A₀ <+: Z):Inv G B Z (O.take Z.length) h:=by
 obtain⟨t,rfl⟩:=p;refine⟨I.base,I.holds,?_,fun i a xs h1 h2=>?_,fun a m=>I.dp a (List.mem_append_left _ m),(List.nodup_append.mp I.nodup).1,fun a m=>⟨(I.cg a m).1,fun q=>(I.cg a m).2 (List.mem_append_left _ q)⟩,I.tab,I.ey.shrink (List.prefix_append _ _) p0⟩
 ·have:=I.len;simp at this ⊢;exact ag 3 0 (aa (ax (aj au ab) af) (ax au (jS au af))) (by kd_p) this
 ·have hi:=(List.getElem?_eq_some_iff.mp h1).1
  rw[List.getElem?_take,if_pos hi]at h2;exact I.ml i a xs (by rw[List.getElem?_append_left hi];exact h1) h2
theorem aG.outside{W:List Addr}{B B':ay}{Z aH:List Addr}{ar:Mu}{s s1 s':Shared}(p0:G.A₀ <+: Z)(k:∀b o,s.heap.get? b=some o→s1.heap.get? b=some o)(hr:Rest s s1)(P:aG G W B Z s1 B' aH ar s')(hW:∀a∈W,s.heap.get? a=none):
  aG G [] B Z s B' Z (ar.take Z.length) s':=by
 refine⟨P.le,List.prefix_refl _,P.inv.shrink P.pre p0,fun b o hb e=>?_,(fun zz m=>nomatch m),hr.trans P.rest,fun a ha=>?_,fun a ha=>.inl ha⟩
 ·refine P.keep b o (fun m=>?_) (k b o e)
  rcases List.mem_append.mp m with m|m
  ·rw[hW b m]at e;exact bk e
  ·exact hb (by simpa using m)
 ·rcases P.dF a ha with q|q|q
  ·exact .inl q
  ·exact .inr (.inl q)
  ·refine .inr (.inr ?_)
   cases z:s.heap.get? a with
   |none=>rfl
   |some o=>rw[k a o z]at q;exact ff q
section
theorem aG.Qr{W W':List Addr}{B B':ay}{Z aH:List Addr}{ar:Mu}{s s':Shared}(h:aG G W B Z s B' aH ar s')(hs:∀a∈W,a∈W')(hx:∀a∈W',a∉W→(∃o,s.heap.get? a=some o)∧a∉Z∧a∉tabs):aG G W' B Z s B' aH ar s':=by
 refine⟨h.le,h.pre,h.inv,h.keep.mono fun a m=>?_,fun a m=>?_,h.rest,h.dF,h.da⟩
 ·rcases List.mem_append.mp m with m|m
  ·exact List.mem_append_left _ (hs a m)
  ·exact List.mem_append_right _ m
 ·by_cases q:a∈W
  ·exact h.bL a q
  ·refine qe (hx a m q) ?_;intro z1;obtain⟨o,e⟩:=z1;intro a1 a2
   exact⟨o,h.kept e q a1 a2⟩
def Off(B:ay)(Z:List Addr)(a:Addr):Prop:=B a=none∧a∉Z∧a∉tabs
theorem Off.step{W:List Addr}{B B':ay}{Z aH:List Addr}{ar:Mu}{s s':Shared}{a:Addr}(o:Off B Z a)(P:aG G W B Z s B' aH ar s')(e:∃x,s.heap.get? a=some x):Off B' aH a:=
 let⟨_,e⟩:=e;⟨P.eZ e o.1 o.2.1,P.fJ e o.2.1,o.2.2⟩
theorem Inv.off{B:ay}{Z:List Addr}{O:Mu}{h:Heap}(I:Inv G B Z O h){a:Addr}(e:h.get? a=none):Off B Z a:=⟨I.eZ e,I.fJ e,I.i5 e⟩
theorem Inv.pz{W:List Addr}{B:ay}{Z:List Addr}{O:Mu}{s:Shared}{h':Heap}{tk:Nat}{a:Addr}(I:Inv G B Z O s.heap)(ha:a∈W)(o:Off B Z a)(k:∀b o,b≠a→s.heap.get? b=some o→h'.get? b=some o)(hx:∃o,h'.get? a=some o)
  (hW:∀b∈W,∃o,s.heap.get? b=some o):aG G W B Z s B Z O {s with heap:=h',toks:=tk}:=by
 refine⟨.refl _,List.prefix_refl _,⟨I.base,fun b x hb=>k b x (fun q=>by subst q;rw[o.1]at hb;exact bk hb) (I.holds b x hb),I.len,fun j b zs h1 h2=>?_,fun b hb=>?_,I.nodup,I.cg,
  G.hT.mono I.tab (.refl _) fun b hb x g=>k b x (fun q=>o.2.2 (q▸hb)) g,I.ey⟩,fun b x hb g=>k b x (fun q=>hb (by subst q;simp[ha])) g,fun b hb=>?_,.heap,fun zz h=>.inl h,fun zz h=>.inl h⟩
 ·refine ew (I.ml j b zs h1 h2) ?_;intro e us m g r
  exact⟨e,us,m,k b _ (fun q=>o.2.1 (q▸List.mem_of_getElem? h1)) g,r⟩
 ·obtain⟨x,e⟩:=I.dp b hb
  exact⟨x,k b x (fun q=>o.2.1 (q▸hb)) e⟩
 ·by_cases q:b=a
  ·subst q;exact hx
  ·obtain⟨x,e⟩:=hW b hb;exact⟨x,k b x q e⟩
noncomputable def cb(turn:V→aw→Mu→List V→(aw→Mu→List V→Prop)→Prop):List V→aw→Mu→List V→(aw→Mu→List V→Prop)→Prop
 |[],U,O,acc,k=>k U O acc
 |x::xs,U,O,acc,k=>turn x U O acc fun ao ar n5=>cb turn xs ao ar n5 k
variable (G)
noncomputable def rd(n:Nat)(env:Env):List Expr→aw→Mu→(Bool→Mu→Prop)→Prop
 |[],_,O,k=>k true O
 |[c],U,O,k=>fY G n env (isTrue c env (eval c env)) U O k
 |_,_,_,_=>False
def gc(n:Nat)(env:Env)(own:List Nat)(elt target:Expr)(ifs:List Expr)(x:V)(U:aw)(O:Mu)(acc:List V)(k:aw→Mu→List V→Prop):Prop:=
 gF G n env own (assign target env) x U O fun a9 aA=>rd G n env ifs a9 aA fun b aZ=>match b with
  |false=>k a9 aZ acc
  |true=>bz G n env (eval elt env) a9 aZ fun v dN=>acc.length<sizeLine∧k a9 dN (acc++[v])
def gK(n:Nat)(env:Env)(own:List Nat)(elt t0:Expr)(f0:List Expr)(i1 t1:Expr)(f1:List Expr)(x:V)(U:aw)(O:Mu)(acc:List V)(k:aw→Mu→List V→Prop):Prop:=
 gF G n env own (assign t0 env) x U O fun a9 aA=>rd G n env f0 a9 aA fun b aZ=>match b with
  |false=>k a9 aZ acc
  |true=>bz G n env (eval i1 env) a9 aZ fun v dN=>∃xs,Iter G v dN xs∧cb (gc G n env own elt t1 f1) xs a9 dN acc k
variable {G}
theorem tM(elt t0 i0 t1 i1:Expr)(f0 f1:List Expr)(scope:Scope)(pos:Pos)(it acc:Value)(env:Env):
  compTurn (.ListComp elt [⟨t0,i0,f0,0⟩,⟨t1,i1,f1,0⟩] scope pos) 1 it acc env=(do
   standAt i1.pos
   match ←pyNext it with
   |none=>pure (.done .next)
   |some v=>
    letOwnedTupleGo t1 it v
    assign t1 env v
    let mut ok:=true
    for c in f1 do
     if ok then ok ←isTrue c env (eval c env)
    if ok then
     (do let _ ←call (.builtin "list.append") [acc,←eval elt env])
    again (.compLoop (.ListComp elt [⟨t0,i0,f0,0⟩,⟨t1,i1,f1,0⟩] scope pos) 1 it acc env)):=by rfl
theorem tN(elt t0 i0 t1 i1:Expr)(f0 f1:List Expr)(scope:Scope)(pos:Pos)(it acc:Value)(env:Env):
  compTurn (.ListComp elt [⟨t0,i0,f0,0⟩,⟨t1,i1,f1,0⟩] scope pos) 0 it acc env=(do
   standAt i0.pos
   match ←pyNext it with
   |none=>pure (.done .next)
   |some v=>
    letOwnedTupleGo t0 it v
    assign t0 env v
    let mut ok:=true
    for c in f0 do
     if ok then ok ←isTrue c env (eval c env)
    if ok then
     let x ←eval i1 env
     standAt i1.pos
     let x ←foldedSetIterable i1 env x
     let _ ←runOwn (.compStart (.ListComp elt [⟨t0,i0,f0,0⟩,⟨t1,i1,f1,0⟩] scope pos) 1 (←holding [x] (pyIter x)) acc env) env
    again (.compLoop (.ListComp elt [⟨t0,i0,f0,0⟩,⟨t1,i1,f1,0⟩] scope pos) 0 it acc env)):=by rfl
section
variable{prog:Program}{w:World}{A:Around}{R:Result→Shared→Prop}{s:Shared}
theorem never{Z:Type}{t:Sem Z}{Q:Z→Shared→Prop}{E:Value→Shared→Prop}(h:wpAny (model prog w) A t Q bM s):wpAny (model prog w) A t Q E s:=wpAny_mono h (fun zz zz x=>x) fun zz zz x=>x.elim
noncomputable abbrev K6(env:Env)(ifs:List Expr):Sem Bool:=forIn ifs true fun c r=>if r=true then do let ok ←isTrue c env (eval c env);pure (ForInStep.yield ok) else pure (ForInStep.yield r)
abbrev Ym(prog:Program)(w:World)(A:Around)(acc:Value)(E:Shared→Prop):Value→Shared→Prop:=fun x s=>wpAny (model prog w) A (call (.builtin "list.append") [acc,x]) (fun zz=>E) bM s
abbrev Uc(prog:Program)(w:World)(A:Around)(env:Env)(elt:Expr)(K:Value→Shared→Prop)(E:Shared→Prop):Bool→Shared→Prop:=fun ok s=>if ok=true then wpAny (model prog w) A (eval elt env) K bM s else E s
abbrev Ud(prog:Program)(w:World)(A:Around)(env:Env)(ifs:List Expr)(K:Bool→Shared→Prop):Unit→Shared→Prop:=fun zz s=>wpAny (model prog w) A (K6 env ifs) K bM s
theorem vD{e elt target iter:Expr}{ifs:List Expr}{d:Nat}{it acc:Value}{env:Env}(I:Nat→Shared→Prop)
  (ht:compTurn e d it acc env=(do
   standAt iter.pos
   match ←pyNext it with
   |none=>pure (.done .next)
   |some v=>
    letOwnedTupleGo target it v
    assign target env v
    let mut ok:=true
    for c in ifs do
     if ok then ok ←isTrue c env (eval c env)
    if ok then
     (do let _ ←call (.builtin "list.append") [acc,←eval elt env])
    again (.compLoop e d it acc env)))
  (hq:(Code.compLoop e d it acc env).quiet=true)(hu:A.under (.compLoop e d it acc env)=A)
  (hd:(model prog w).den (.compLoop e d it acc env)=(compTurn e d it acc env).onRaise fun x=>do noteFrame x env;theTreesLotGoes x)
  (hl:∀v,letOwnedTupleGo target it v=pure ())
  (turn:∀n s (K:Option Value→Shared→Prop),I n s→(∀s1,R (.ok .next) s1→K none s1)→
   (∀v s1,(∀E:Shared→Prop,(∀m s,m<n→I m s→E s)→wpAny (model prog w) A (assign target env v) (Ud prog w A env ifs (Uc prog w A env elt (Ym prog w A acc E) E)) bM s1)→K (some v) s1)→wpAny (model prog w) A (pyNext it) K bM s)
  (n:Nat)(h:I n s):codeAny (model prog w) A (.compLoop e d it acc env) R s:=by
 refine codeAny_loop hq I (fun n s hI=>?_) n h;rw[hu,hd];refine wpAny_noted (never ?_);rw[ht];refine wpAny_bind (wpAny_standAt (wpAny_bind (turn n s _ hI (fun s1 bf=>wpAny_pure bf) fun v s1 bf=>?_)));refine wpAny_bind (wpAny_of_eq (hl v) ?_);refine wpAny_bind (wpAny_mono (bf (fun s=>∃m,m<n∧I m s) fun m zz a b=>⟨m,a,b⟩) (fun zz s2 bu=>wpAny_bind (wpAny_mono bu (fun ok s3 h3=>?_) fun zz zz h'=>h')) fun zz zz h'=>h');cases ok with
 |false=>exact wpAny_pure ⟨rfl,h3⟩
 |true=>exact wpAny_bind (wpAny_bind (wpAny_mono h3 (fun x s4 h4=>wpAny_bind (wpAny_mono h4 (fun zz s5 h5=>wpAny_pure (wpAny_pure ⟨rfl,h5⟩)) fun zz zz h'=>h')) fun zz zz h'=>h'))
abbrev Yn(prog:Program)(w:World)(A:Around)(e:Expr)(acc:Value)(env:Env)(E:Shared→Prop):Value→Shared→Prop:=fun x s4=>wpAny (model prog w) A (pyIter x) (fun Ei s5=>codeAny (model prog w) A (.compStart e 1 Ei acc env) (fun r s6=>r=.ok .next∧E s6) s5) bM s4
theorem tO{elt t0 i0 t1 i1:Expr}{f0 f1:List Expr}{scope:Scope}{pos:Pos}{it acc:Value}{env:Env}(I:Nat→Shared→Prop)
  (hl:∀v,letOwnedTupleGo t0 it v=pure ())(hs:∀x,foldedSetIterable i1 env x=pure x)
  (turn:∀n s (K:Option Value→Shared→Prop),I n s→(∀s1,R (.ok .next) s1→K none s1)→
   (∀v s1,(∀E:Shared→Prop,(∀m s,m<n→I m s→E s)→wpAny (model prog w) A (assign t0 env v) (Ud prog w A env f0 (Uc prog w A env i1 (Yn prog w A (.ListComp elt [⟨t0,i0,f0,0⟩,⟨t1,i1,f1,0⟩] scope pos) acc env E) E)) bM s1)→K (some v) s1)→wpAny (model prog w) A (pyNext it) K bM s)
  (n:Nat)(h:I n s):codeAny (model prog w) A (.compLoop (.ListComp elt [⟨t0,i0,f0,0⟩,⟨t1,i1,f1,0⟩] scope pos) 0 it acc env) R s:=by
 refine codeAny_loop rfl I (fun n s hI=>?_) n h;show wpAny _ A ((compTurn (.ListComp elt [⟨t0,i0,f0,0⟩,⟨t1,i1,f1,0⟩] scope pos) 0 it acc env).onRaise (fun x=>do noteFrame x env;theTreesLotGoes x)) _ _ s
 refine wpAny_noted (never ?_);rw[tN];refine wpAny_bind (wpAny_standAt (wpAny_bind (turn n s _ hI (fun s1 bf=>wpAny_pure bf) fun v s1 bf=>?_)));refine wpAny_bind (wpAny_of_eq (hl v) ?_);refine wpAny_bind (wpAny_mono (bf (fun s=>∃m,m<n∧I m s) fun m zz a b=>⟨m,a,b⟩) (fun zz s2 bu=>wpAny_bind (wpAny_mono bu (fun ok s3 h3=>?_) fun zz zz h'=>h')) fun zz zz h'=>h');cases ok with
 |false=>exact wpAny_pure ⟨rfl,h3⟩
 |true=>
  refine wpAny_bind (wpAny_mono h3 (fun x s4 h4=>wpAny_bind (wpAny_standAt (wpAny_bind (wpAny_of_eq (hs x) (wpAny_bind (wpAny_holding (wpAny_mono h4 (fun Ei s5 h5=>?_) fun zz zz h'=>h'))))))) fun zz zz h'=>h');exact wpAny_bind (wpAny_runOwn (codeAny_mono h5 fun r s6 h6=>by obtain⟨rfl,h6⟩:=h6;exact wpAny_pure ⟨rfl,h6⟩))
end
def AccAt(B:ay)(Z:List Addr)(h:Heap)(D:Addr)(acc:List V):Prop:=∃vs k,h.get? D=some (lobj vs k)∧aB B Z acc vs
theorem wm{n:Nat}{env:Env}{ifs:List Expr}{U:aw}{O:Mu}{Q:Bool→Mu→Prop}(h:rd G n env ifs U O Q):
  fY G n env (forIn ifs true fun c r=>if r=true then do let ok ←isTrue c env (eval c env);pure (ForInStep.yield ok) else pure (ForInStep.yield r)) U O Q:=by
 match ifs,h with
 |[],h=>exact fun A hA B Z s I F=>wpAny_tests_nil (PB.bQ I h)
 |[c],h=>exact fun A hA B Z s I F=>wpAny_tests_one (h A hA B Z s I F)
theorem rg{A:Around}{D:Addr}{vs:List Value}{k:Nat}{x:Value}{s:Shared}{Q:Value→Shared→Prop}(e:s.heap.get? D=some (lobj vs k))(bG:vs.length≤sizeLine)
  (hQ:∀h' k',h'.get? D=some (lobj (vs++[x]) k')→Heap.SameBut D s.heap h'→Q .none {s with heap:=h'}):wpAny (model G.prog G.w) A (call (.builtin "list.append") [.ref D,x]) Q bM s:=by
 refine wpAny_call_entry slot_list_append (T:="list") ⟨_,e,rfl⟩ entry_list_append ?_ (args_list_append _ _);show wpAny _ _ (updateSeq D (·.push x) >>= fun zz=>ret .none) _ _ s
 refine wpAny_bind (wpAny_updateSeq e rfl (wpAny_pure ⟨.none,rfl,hQ _ (k+1) ?_ (Heap.SameBut.update ..)⟩) (hz:=by simpa using bG) (_hz':=by simp;omega))
 rw[Heap.get?_update_self _ e rfl];show some (Obj.mapSeq _ _)=_;simp[Obj.mapSeq]
structure CompI(cenv:Env)(own:List Nat)(D:Addr)(B:ay)(Z:List Addr)(U:aw)(O:Mu)(acc:List V)(s:Shared):Prop where
 inv:Inv G B Z O s.heap
 fr:bt G cenv B Z U s.heap
 acc:AccAt B Z s.heap D acc
 off:Off B Z D
 cV:cenv.locals≠D
 dI:∀n c,(n,c)∈cenv.cells→c≠D
theorem CompI.K7{cenv:Env}{own:List Nat}{D:Addr}{B:ay}{Z:List Addr}{U:aw}{O:Mu}{acc:List V}{s:Shared}(C:CompI (G:=G) cenv own D B Z U O acc s):∃o,s.heap.get? D=some o:=let⟨_,_,e,_⟩:=C.acc;⟨_,e⟩
theorem CompI.oD{cenv:Env}{own:List Nat}{D:Addr}{B:ay}{Z:List Addr}{U:aw}{O:Mu}{acc:List V}{s:Shared}(C:CompI (G:=G) cenv own D B Z U O acc s):D∉fa G cenv own:=fun m=>by
 rcases ez m with e|⟨n,e⟩
 ·exact C.cV e.symm
 ·exact C.dI n D (aY e) rfl
theorem CompI.step{cenv:Env}{own:List Nat}{D:Addr}{W:List Addr}{B B':ay}{Z aH:List Addr}{U ao:aw}{O ar:Mu}{acc:List V}{s s':Shared}(C:CompI (G:=G) cenv own D B Z U O acc s)(P:aG G W B Z s B' aH ar s')(F:bt G cenv B' aH ao s'.heap)(hW:D∉W):
  CompI (G:=G) cenv own D B' aH ao ar acc s':=by
 refine j0 C.acc ?_;intro vs k e r;exact⟨P.inv,F,⟨vs,k,P.kept e hW C.off.2.1 C.off.2.2,r.mono P.le P.pre⟩,C.off.step P ⟨_,e⟩,C.cV,C.dI⟩
theorem CompI.post{cenv:Env}{own:List Nat}{D:Addr}{W:List Addr}{B B':ay}{Z aH:List Addr}{U:aw}{O ar:Mu}{acc:List V}{s s':Shared}(C:CompI (G:=G) cenv own D B Z U O acc s)(P:aG G W B Z s B' aH ar s')(hW:W=[]∨W=fa G cenv own):
  aG G (D::fa G cenv own) B Z s B' aH ar s':=by
 refine P.Qr (fun a m=>?_) fun a m hm=>?_
 ·rcases hW with rfl|rfl
  ·cases m
  ·exact .tail _ m
 ·rcases List.mem_cons.mp m with rfl|m
  ·exact⟨C.K7,C.off.2.1,C.off.2.2⟩
  ·exact⟨C.fr.bL a m,C.fr.fJ a m,C.fr.i5 a m⟩
structure qh(it:Addr)(fp:List Addr)(St:Nat→Heap→Prop)(cenv:Env)(D:Addr)(B:ay)(Z:List Addr)(i:Nat)(s:Shared):Prop where
 st:St i s.heap
 off:Off B Z it
 fp:∀b∈fp,b=it∨B b≠none
 cV:cenv.locals≠it
 dI:∀n c,(n,c)∈cenv.cells→c≠it
 tP:D≠it
theorem qh.stays{it:Addr}{fp:List Addr}{P:Nat→Value→Prop}{St:Nat→Heap→Prop}{cenv:Env}{D:Addr}{B B':ay}{Z aH:List Addr}{O ar:Mu}{i len:Nat}{s s':Shared}{A:Around}{W:List Addr}
  (J:qh it fp St cenv D B Z i s)(Wk:Walks G.prog G.w A it fp [it] len P St)(df:∀i h,St i h→∃o,h.get? it=some o)(I:Inv G B Z O s.heap)(Q:aG G W B Z s B' aH ar s')(hW:it∉W):qh it fp St cenv D B' aH i s':=by
 obtain⟨o,e⟩:=df _ _ J.st;refine⟨Wk.frame i s.heap s'.heap J.st fun b hb x ex=>?_,J.off.step Q ⟨o,e⟩,fun b hb=>(J.fp b hb).imp id fun q=>?_,J.cV,J.dI,J.tP⟩
 ·rcases J.fp b hb with rfl|q
  ·exact Q.kept ex hW J.off.2.1 J.off.2.2
  ·cases hq:B b with
   |none=>exact absurd hq q
   |some y=>
    have:=I.holds b y hq;rw[ex]at this;cases Option.some.inj this;exact Q.inv.holds b _ (Q.le b _ hq)
 ·cases hq:B b with
  |none=>exact absurd hq q
  |some y=>rw[Q.le b y hq];simp
theorem qh.oD{it:Addr}{fp:List Addr}{St:Nat→Heap→Prop}{cenv:Env}{own:List Nat}{D:Addr}{B:ay}{Z:List Addr}{i:Nat}{s:Shared}(J:qh it fp St cenv D B Z i s):it∉fa G cenv own:=fun m=>by
 rcases ez m with e|⟨n,e⟩
 ·exact J.cV e.symm
 ·exact J.dI n it (aY e) rfl
def hX(cenv:Env)(own:List Nat)(D:Addr)(B:ay)(Z:List Addr)(s:Shared)(k:aw→Mu→List V→Prop)(r:Result)(s':Shared):Prop:=
 r=.ok .next∧∃ao ar n5 B' aH,k ao ar n5∧aG G (D::fa G cenv own) B Z s B' aH ar s'∧CompI (G:=G) cenv own D B' aH ao ar n5 s'
theorem CompI.write{cenv:Env}{own:List Nat}{D it:Addr}{B:ay}{Z:List Addr}{U:aw}{O:Mu}{acc:List V}{s:Shared}{bu:Heap}{tk:Nat}(C:CompI (G:=G) cenv own D B Z U O acc s)(o:Off B Z it)(hD:D≠it)(hL:cenv.locals≠it)(hC:∀n c,(n,c)∈cenv.cells→c≠it)
  (k:∀b o,b≠it→s.heap.get? b=some o→bu.get? b=some o):CompI (G:=G) cenv own D B Z U O acc {s with heap:=bu,toks:=tk}:=by
 have I:=C.inv;refine⟨⟨I.base,fun b x hb=>k b x (fun q=>by subst q;rw[o.1]at hb;exact bk hb) (I.holds b x hb),I.len,fun j b zs h1 h2=>?_,fun b hb=>?_,I.nodup,I.cg,
  G.hT.mono I.tab (.refl _) fun b hb x g=>k b x (fun q=>o.2.2 (q▸hb)) g,I.ey⟩,C.fr.fM hL hC k,let⟨vs,kk,e,r⟩:=C.acc;⟨vs,kk,k _ _ hD e,r⟩,C.off,C.cV,C.dI⟩
 ·refine ew (I.ml j b zs h1 h2) ?_;intro e us m g r
  exact⟨e,us,m,k b _ (fun q=>o.2.1 (q▸List.mem_of_getElem? h1)) g,r⟩
 ·obtain⟨x,e⟩:=I.dp b hb
  exact⟨x,k b x (fun q=>o.2.1 (q▸hb)) e⟩
inductive Ue(G:dn)(cenv:Env)(own:List Nat)(D it:Addr)(fp:List Addr)(St:Nat→Heap→Prop)(xs:List V)(T:V→aw→Mu→List V→(aw→Mu→List V→Prop)→Prop)(k:aw→Mu→List V→Prop)(B1 B0:ay)(aE oE:List Addr)(s1:Shared)(m:Nat)(s:Shared):Prop
 |mk (i:Nat) (U:aw) (O:Mu) (acc:List V) (B:ay) (Z:List Addr) (hi:i≤xs.length) (hm:m=xs.length-i) (P:aG G (D::fa G cenv own) B1 aE s1 B Z O s) (hB:ay.le B0 B) (dM:oE <+: Z) (C:CompI (G:=G) cenv own D B Z U O acc s) (J:qh it fp St cenv D B Z i s) (h:cb T (xs.drop i) U O acc k)
theorem lu{n:Nat}{cenv:Env}{own:List Nat}{A:Around}{D it:Addr}{fp:List Addr}{Pv:Nat→Value→Prop}{St:Nat→Heap→Prop}{e elt target iter:Expr}{ifs:List Expr}{d:Nat}{xs:List V}{B1 B0:ay}{aE oE:List Addr}{s1 s0:Shared}{my:aw}{xS:Mu}{tQ:List V}{k:aw→Mu→List V→Prop}
  (hA:bY n A)
  (ht:compTurn e d (.ref it) (.ref D) cenv=(do
   standAt iter.pos
   match ←pyNext (.ref it) with
   |none=>pure (.done .next)
   |some v=>
    letOwnedTupleGo target (.ref it) v
    assign target cenv v
    let mut ok:=true
    for c in ifs do
     if ok then ok ←isTrue c cenv (eval c cenv)
    if ok then
     (do let _ ←call (.builtin "list.append") [.ref D,←eval elt cenv])
    again (.compLoop e d (.ref it) (.ref D) cenv)))
  (hq:(Code.compLoop e d (.ref it) (.ref D) cenv).quiet=true)(hu:A.under (.compLoop e d (.ref it) (.ref D) cenv)=A)
  (hd:(model G.prog G.w).den (.compLoop e d (.ref it) (.ref D) cenv)=(compTurn e d (.ref it) (.ref D) cenv).onRaise fun x=>do noteFrame x cenv;theTreesLotGoes x)
  (hl:∀v,letOwnedTupleGo target (.ref it) v=pure ())
  (Wk:Walks G.prog G.w A it fp [it] xs.length Pv St)(df:∀i h,St i h→∃o,h.get? it=some o)
  (hP:∀ (i:Nat) y,i<xs.length→Pv i y→∃x,xs[i]?=some x∧VR B0 oE x y)
  (hn:s1.heap.get? it=none)(P0:aG G (D::fa G cenv own) B1 aE s1 B0 oE xS s0)
  (C0:CompI (G:=G) cenv own D B0 oE my xS tQ s0)(J0:qh it fp St cenv D B0 oE 0 s0)
  (h:cb (gc G n cenv own elt target ifs) xs my xS tQ k):
  codeAny (model G.prog G.w) A (.compLoop e d (.ref it) (.ref D) cenv) (hX (G:=G) cenv own D B1 aE s1 k) s0:=by
 refine vD (Ue G cenv own D it fp St xs (gc G n cenv own elt target ifs) k B1 B0 aE oE s1) ht hq hu hd hl ?_ xs.length (.mk 0 my xS tQ B0 oE (Nat.zero_le _) rfl P0 (.refl _) (List.prefix_refl _) C0 J0 h);intro m s K z hN hS;cases z with|mk i U O acc B Z hi hm P Hh zg C J hL=>?_
 have wo:it∉D::fa G cenv own:=fun m=>by
  rcases List.mem_cons.mp m with e|m
  ·exact J.tP e.symm
  ·exact J.oD m
 have Hi:∀ {s:Shared} {B Z U O acc},CompI (G:=G) cenv own D B Z U O acc s→∀b∈D::fa G cenv own,∃o,s.heap.get? b=some o:=by
  intro s B Z U O acc C a m;rcases List.mem_cons.mp m with rfl|m
  ·exact C.K7
  ·exact C.fr.bL a m
 by_cases bA:i<xs.length
 ·refine Wk.item i s K bM bA J.st ?_
  intro y bu tk hy wi iR;have iD:∀b o,b≠it→s.heap.get? b=some o→bu.get? b=some o:=fun b o q=>iR b o (by simpa using q)
  refine aW (hP i y bA hy) ?_;intro x hx rx;have Qs:xs.drop i=x::xs.drop (i+1):=by
   rw[List.drop_eq_getElem_cons bA];rw[List.getElem?_eq_getElem bA]at hx;cases Option.some.inj hx;rfl
  rw[Qs]at hL;have qg:gF G n cenv own (assign target cenv) x U O fun a9 aA=>rd G n cenv ifs a9 aA fun b aZ=>match b with
   |false=>cb (gc G n cenv own elt target ifs) (xs.drop (i+1)) a9 aZ acc k
   |true=>bz G n cenv (eval elt cenv) a9 aZ fun v dN=>acc.length<sizeLine∧cb (gc G n cenv own elt target ifs) (xs.drop (i+1)) a9 dN (acc++[v]) k:=hL
  have Pa:=P.fM (tk:=tk) hn J.off.1 J.off.2.1 J.off.2.2 wo iD;have C2:=C.write (tk:=tk) J.off J.tP J.cV J.dI iD;have J2:qh it fp St cenv D B Z (i+1) {s with heap:=bu,toks:=tk}:=⟨wi,J.off,J.fp,J.cV,J.dI,J.tP⟩
  refine hS y _ fun E hE=>wpAny_mono (qg A hA B Z _ y C2.inv C2.fr (rx.mono Hh zg)) ?_ fun zz zz x=>x;rintro zz s3 ⟨gG,dN,B3,dK,h3,P3,F3⟩;have C3:=C2.step P3 F3 C2.oD;have J3:=J2.stays Wk df C2.inv P3 J2.oD;have Pb:=Pa.trans (C2.post P3 (.inr rfl));refine wpAny_mono (wm h3 A hA B3 dK s3 C3.inv C3.fr) ?_ fun zz zz x=>x;rintro ok s4 ⟨oB,B4,fz,h4,P4⟩;have C4:=C3.step P4 (C3.fr.same P4) (by simp)
  have J4:=J3.stays Wk df C3.inv P4 (by simp)
  have Pc:=Pb.trans (C3.post P4 (.inl rfl));have Hj:=Hh.trans (P3.le.trans P4.le);have zh:=zg.trans (P3.pre.trans P4.pre);cases ok with
  |false=>exact hE _ _ (by rw[hm];exact Gw bA) (.mk (i+1) gG oB acc B4 fz bA rfl Pc Hj zh C4 J4 h4)
  |true=>
   refine wpAny_mono (h4 A hA B4 fz s4 C4.inv C4.fr) ?_ fun zz zz x=>x;rintro z s5 ⟨v,Ej,B5,iM,⟨bG,h5⟩,P5,r5⟩;have C5:=C4.step P5 (C4.fr.same P5) (by simp)
   have J5:=J4.stays Wk df C4.inv P5 (by simp)
   have Pd:=Pc.trans (C4.post P5 (.inl rfl));refine j0 C5.acc ?_;intro vs kk eD rD;refine rg eD (by rw[←rD.1];exact Nat.le_of_lt bG) ?_
   intro h' k' e' Qt;have kp:∀b o,b≠D→s5.heap.get? b=some o→h'.get? b=some o:=fun b o q g=>(Qt.2 b q).trans g;have P6:=C5.inv.pz (tk:=s5.toks) (W:=D::fa G cenv own) (.head _) C5.off kp ⟨_,e'⟩ (Hi C5);refine hE _ _ (by rw[hm];exact Gw bA) (.mk (i+1) gG Ej (acc++[v]) B5 iM bA rfl (Pd.trans P6) (Hj.trans P5.le) (zh.trans P5.pre) ⟨P6.inv,C5.fr.fM C5.cV C5.dI kp,⟨_,_,e',rD.append (.cons r5 .nil)⟩,C5.off,C5.cV,C5.dI⟩ ⟨?_,J5.off,J5.fp,J5.cV,J5.dI,J5.tP⟩ h5)
   refine Wk.frame (i+1) _ _ J5.st fun b hb o eo=>kp b o (fun q=>?_) eo;subst q;rcases J5.fp b hb with q|q
   ·exact J5.tP q
   ·exact q C5.off.1
 ·have AZ:i=xs.length:=by exact Pt hi bA
  subst AZ;refine Wk.done s K bM J.st ?_;intro bu tk iR;refine hN _ ?_;have iD:∀b o,b≠it→s.heap.get? b=some o→bu.get? b=some o:=fun b o q=>iR b o (by simpa using q)
  rw[List.drop_length]at hL;exact⟨rfl,U,O,acc,B,Z,hL,P.fM (tk:=tk) hn J.off.1 J.off.2.1 J.off.2.2 wo iD,C.write (tk:=tk) J.off J.tP J.cV J.dI iD⟩
theorem mA{prog:Program}{w:World}{A:Around}{R:Result→Shared→Prop}{s:Shared}{elt t0 i0 t1 i1:Expr}{f0 f1:List Expr}{scope:Scope}{pos:Pos}{it acc:Value}{env:Env}
  (h0:codeAny (model prog w) A (.compLoop (.ListComp elt [⟨t0,i0,f0,0⟩,⟨t1,i1,f1,0⟩] scope pos) 1 it acc env) R s)
  (h:wpAny (model prog w) A (pyIter it) (fun Ei s'=>codeAny (model prog w) A (.compLoop (.ListComp elt [⟨t0,i0,f0,0⟩,⟨t1,i1,f1,0⟩] scope pos) 1 Ei acc env) R s')
   (notedBy (model prog w) A env fun x s'=>R (.error x) s') s):
  codeAny (model prog w) A (.compStart (.ListComp elt [⟨t0,i0,f0,0⟩,⟨t1,i1,f1,0⟩] scope pos) 1 it acc env) R s:=by
 refine codeAny_of_tree ?_;show wpAny _ _ ((compStart (.ListComp elt [⟨t0,i0,f0,0⟩,⟨t1,i1,f1,0⟩] scope pos) 1 it acc env).onRaise (fun x=>do noteFrame x env;standAt theWindowsPlace)) _ _ s
 refine wpAny_notedAt ?_;unfold compStart;show wpAny _ _ (ask >>= _) _ _ s;refine wpAny_bind (wpAny_askSetting (wpAny_ite ?_));split
 ·first
   |exact wpAny_bind (wpAny_pure (wpAny_pure (And.intro rfl h0)))
   |exact wpAny_pure (And.intro rfl h0)
 ·first
   |exact wpAny_bind (wpAny_rule (wpAny_bind (wpAny_standAt (wpAny_bind (wpAny_mono h (fun Ei s' h'=>wpAny_pure (And.intro rfl h')) fun zz zz x=>x)))))
   |(refine wpAny_bind (wpAny_rule ?_);show wpAny _ _ (standAt i1.pos >>= _) _ _ s;exact wpAny_bind (wpAny_standAt (wpAny_bind (wpAny_mono h (fun Ei s' h'=>wpAny_pure (And.intro rfl h')) fun zz zz x=>x))))
theorem n6{n:Nat}{cenv:Env}{own:List Nat}{A:Around}{D it:Addr}{fp:List Addr}{Pv:Nat→Value→Prop}{St:Nat→Heap→Prop}{elt t0 i0 t1 i1:Expr}{f0 f1:List Expr}{scope:Scope}{pos:Pos}{xs:List V}{B1 B0:ay}{aE oE:List Addr}{s1 s0:Shared}{my:aw}{xS:Mu}{tQ:List V}{k:aw→Mu→List V→Prop}
  (hA:bY n A)
  (hl:∀it v,letOwnedTupleGo t0 it v=pure ())(qi:∀it v,letOwnedTupleGo t1 it v=pure ())(hs:∀x,foldedSetIterable i1 cenv x=pure x)
  (Wk:Walks G.prog G.w A it fp [it] xs.length Pv St)(df:∀i h,St i h→∃o,h.get? it=some o)
  (hP:∀ (i:Nat) y,i<xs.length→Pv i y→∃x,xs[i]?=some x∧VR B0 oE x y)
  (hn:s1.heap.get? it=none)(P0:aG G (D::fa G cenv own) B1 aE s1 B0 oE xS s0)
  (C0:CompI (G:=G) cenv own D B0 oE my xS tQ s0)(J0:qh it fp St cenv D B0 oE 0 s0)
  (h:cb (gK G n cenv own elt t0 f0 i1 t1 f1) xs my xS tQ k):
  codeAny (model G.prog G.w) A (.compLoop (.ListComp elt [⟨t0,i0,f0,0⟩,⟨t1,i1,f1,0⟩] scope pos) 0 (.ref it) (.ref D) cenv) (hX (G:=G) cenv own D B1 aE s1 k) s0:=by
 refine tO (Ue G cenv own D it fp St xs (gK G n cenv own elt t0 f0 i1 t1 f1) k B1 B0 aE oE s1) (hl _) hs ?_ xs.length (.mk 0 my xS tQ B0 oE (Nat.zero_le _) rfl P0 (.refl _) (List.prefix_refl _) C0 J0 h);intro m s K z hN hS;cases z with|mk i U O acc B Z hi hm P Hh zg C J hL=>?_
 have wo:it∉D::fa G cenv own:=fun m=>by
  rcases List.mem_cons.mp m with e|m
  ·exact J.tP e.symm
  ·exact J.oD m
 have Hi:∀ {s:Shared} {B Z U O acc},CompI (G:=G) cenv own D B Z U O acc s→∀b∈D::fa G cenv own,∃o,s.heap.get? b=some o:=by
  intro s B Z U O acc C a m;rcases List.mem_cons.mp m with rfl|m
  ·exact C.K7
  ·exact C.fr.bL a m
 by_cases bA:i<xs.length
 ·refine Wk.item i s K bM bA J.st ?_
  intro y bu tk hy wi iR;have iD:∀b o,b≠it→s.heap.get? b=some o→bu.get? b=some o:=fun b o q=>iR b o (by simpa using q)
  refine aW (hP i y bA hy) ?_;intro x hx rx;have Qs:xs.drop i=x::xs.drop (i+1):=by
   rw[List.drop_eq_getElem_cons bA];rw[List.getElem?_eq_getElem bA]at hx;cases Option.some.inj hx;rfl
  rw[Qs]at hL;have qg:gF G n cenv own (assign t0 cenv) x U O fun a9 aA=>rd G n cenv f0 a9 aA fun b aZ=>match b with
   |false=>cb (gK G n cenv own elt t0 f0 i1 t1 f1) (xs.drop (i+1)) a9 aZ acc k
   |true=>bz G n cenv (eval i1 cenv) a9 aZ fun v dN=>∃ys,Iter G v dN ys∧cb (gc G n cenv own elt t1 f1) ys a9 dN acc (fun ao ar n5=>cb (gK G n cenv own elt t0 f0 i1 t1 f1) (xs.drop (i+1)) ao ar n5 k):=hL
  have Pa:=P.fM (tk:=tk) hn J.off.1 J.off.2.1 J.off.2.2 wo iD;have C2:=C.write (tk:=tk) J.off J.tP J.cV J.dI iD;have J2:qh it fp St cenv D B Z (i+1) {s with heap:=bu,toks:=tk}:=⟨wi,J.off,J.fp,J.cV,J.dI,J.tP⟩
  refine hS y _ fun E hE=>wpAny_mono (qg A hA B Z _ y C2.inv C2.fr (rx.mono Hh zg)) ?_ fun zz zz x=>x;rintro zz s3 ⟨gG,dN,B3,dK,h3,P3,F3⟩;have C3:=C2.step P3 F3 C2.oD;have J3:=J2.stays Wk df C2.inv P3 J2.oD;have Pb:=Pa.trans (C2.post P3 (.inr rfl));refine wpAny_mono (wm h3 A hA B3 dK s3 C3.inv C3.fr) ?_ fun zz zz x=>x;rintro ok s4 ⟨oB,B4,fz,h4,P4⟩;have C4:=C3.step P4 (C3.fr.same P4) (by simp)
  have J4:=J3.stays Wk df C3.inv P4 (by simp)
  have Pc:=Pb.trans (C3.post P4 (.inl rfl));have Hj:=Hh.trans (P3.le.trans P4.le);have zh:=zg.trans (P3.pre.trans P4.pre);cases ok with
  |false=>exact hE _ _ (by rw[hm];exact Gw bA) (.mk (i+1) gG oB acc B4 fz bA rfl Pc Hj zh C4 J4 h4)
  |true=>
   refine wpAny_mono (h4 A hA B4 fz s4 C4.inv C4.fr) ?_ fun zz zz x=>x;rintro z s5 ⟨v,Ej,B5,iM,⟨ys,Qu,h5⟩,P5,r5⟩;have C5:=C4.step P5 (C4.fr.same P5) (by simp)
   have J5:=J4.stays Wk df C4.inv P5 (by simp)
   have Pd:=Pc.trans (C4.post P5 (.inl rfl));refine Qu A B5 iM s5 z _ _ C5.inv r5 ?_;intro me h6 Yo Pv2 Yp Hk Yq K8 W2 Yr Ow Ug;have Q6:aG G [] B5 iM s5 B5 iM Ej {s5 with heap:=h6}:=C5.inv.kz (t:=s5.toks) Yq (fun zz m=>nomatch m)
   have C6:=C5.step Q6 (C5.fr.same Q6) (by simp)
   have J6:=J5.stays Wk df C5.inv Q6 (by simp)
   have Pe:aG G (D::fa G cenv own) B5 iM s5 B5 iM Ej {s5 with heap:=h6}:=C5.post Q6 (.inl rfl)
   have Uh:Off B5 iM me:=C5.inv.off Hk;have I2:qh me Yo Yp cenv D B5 iM 0 {s5 with heap:=h6}:=⟨Ow,Uh,Ug,
    (fun q=>by refine aW C5.fr.ns ?_;intro m z1;obtain⟨o,_,_,e,_⟩:=z1;intro zz;rw[q,Hk]at e;exact bk e),(fun n' c m q=>by refine cw (C5.fr.dI n' c m) ?_;intro zz zz zz zz v o e zz;rw[q,Hk]at e;exact bk e),
    (fun q=>by obtain⟨o,e⟩:=C5.K7;rw[q,Hk]at e;exact bk e)⟩
   have inner:=lu (e:=.ListComp elt [⟨t0,i0,f0,0⟩,⟨t1,i1,f1,0⟩] scope pos) (d:=1) (iter:=i1) hA (tM elt t0 i0 t1 i1 f0 f1 scope pos (.ref me) (.ref D) cenv) rfl rfl rfl (qi _) (W2 A hA.handled) K8 Yr Hk Pe C6 I2 h5;have fin:codeAny (model G.prog G.w) A (.compStart (.ListComp elt [⟨t0,i0,f0,0⟩,⟨t1,i1,f1,0⟩] scope pos) 1 (.ref me) (.ref D) cenv) (hX (G:=G) cenv own D B5 iM s5 (fun ao ar n5=>cb (gK G n cenv own elt t0 f0 i1 t1 f1) (xs.drop (i+1)) ao ar n5 k)) {s5 with heap:=h6}:=
    mA inner ((W2 A hA.handled).self 0 _ _ _ Ow inner)
   refine codeAny_mono fin ?_;rintro r s7 ⟨rfl,Hl,Qv,Ui,B7,D6,h7,P7,C7⟩;exact⟨rfl,hE _ _ (by rw[hm];exact Gw bA) (.mk (i+1) Hl Qv Ui B7 D6 bA rfl (Pd.trans P7) (Hj.trans (P5.le.trans P7.le)) (zh.trans (P5.pre.trans P7.pre)) C7 (J5.stays Wk df C5.inv P7 wo) h7)⟩
 ·have AZ:i=xs.length:=by exact Pt hi bA
  subst AZ;refine Wk.done s K bM J.st ?_;intro bu tk iR;refine hN _ ?_;have iD:∀b o,b≠it→s.heap.get? b=some o→bu.get? b=some o:=fun b o q=>iR b o (by simpa using q)
  rw[List.drop_length]at hL;exact⟨rfl,U,O,acc,B,Z,hL,P.fM (tk:=tk) hn J.off.1 J.off.2.1 J.off.2.2 wo iD,C.write (tk:=tk) J.off J.tP J.cV J.dI iD⟩
end
noncomputable def cL(cells:List (Str×Addr)):List (Str×NameKind)→List (Str×Addr)→List (Str×Addr)
 |[],acc=>acc
 |(n,k)::r,acc=>if k == .free then cL cells r ((n,(cells.lookup n).getD 0)::acc) else cL cells r acc
theorem jt{scope:Scope}{env:Env}(h:∀p∈scope.names,p.2=.free→(env.cells.lookup p.1).isSome=true):closureFor scope env=pure (cL env.cells scope.names []):=by
 unfold closureFor;have key:∀ (names:List (Str×NameKind)) (acc:List (Str×Addr)),(∀p∈names,p.2=.free→(env.cells.lookup p.1).isSome=true)→
   (forIn names acc (fun(x:Str×NameKind) (r:List (Str×Addr))=>if(x.2==NameKind.free)=true then(do let c ←cellOf env x.1;pure (ForInStep.yield ((x.1,c)::r))) else pure (ForInStep.yield r)):Sem (List (Str×Addr)))=pure (cL env.cells names acc):=by
  intro names
  induction names with
  |nil=>intro acc zz;rfl
  |cons p r ih=>
   intro acc hp;obtain⟨n,k⟩:=p;rw[List.forIn_cons]
   by_cases hk:k=.free
   ·subst hk
    obtain⟨c,hc⟩:=Option.isSome_iff_exists.mp (hp _ (.head _) rfl);have xO:env.cells.lookup n=some c:=hc;simp only[beq_self_eq_true,if_true];have:cellOf env n=pure c:=by unfold cellOf;rw[xO]
    rw[this];simp only[pure_bind];rw[ih _ fun q hq=>hp q (.tail _ hq)];simp[cL,xO]
   ·have:(k==NameKind.free)=false:=by simpa using hk
    simp only[this,Bool.false_eq_true,if_false,pure_bind];rw[ih _ fun q hq=>hp q (.tail _ hq)];simp[cL,this]
 exact congrArg (fun t:Sem (List (Str×Addr))=>t >>= fun s=>pure s) (key scope.names [] h)
theorem ni(cells:List (Str×Addr)):∀ (names:List (Str×NameKind)) (acc:List (Str×Addr)),(∀p∈names,p.2=.free→(cells.lookup p.1).isSome=true)→∀n c,(n,c)∈cL cells names acc→(n,c)∈acc∨((n,.free)∈names∧cells.lookup n=some c)
 |[],acc,_,n,c,m=>.inl m
 |(n',k)::r,acc,h,n,c,m=>by
  unfold cL at m;split at m
  ·rename_i hk
   have gL:k=.free:=by simpa using hk
   subst gL;rcases ni cells r _ (fun p hp=>h p (.tail _ hp)) n c m with q|q
   ·rcases List.mem_cons.mp q with e|q
    ·obtain⟨z,hz⟩:=Option.isSome_iff_exists.mp (h _ (.head _) rfl)
     have Uj:cells.lookup n'=some z:=hz;rw[Uj]at e;cases e;exact .inr ⟨.head _,Uj⟩
    ·exact .inl q
   ·exact .inr ⟨.tail _ q.1,q.2⟩
  ·rcases ni cells r acc (fun p hp=>h p (.tail _ hp)) n c m with q|q
   ·exact .inl q
   ·exact .inr ⟨.tail _ q.1,q.2⟩
theorem gf(cells:List (Str×Addr)):∀ (names:List (Str×NameKind)) (acc:List (Str×Addr)),(cL cells names acc).map (·.1)=((names.filter (·.2 == .free)).map (·.1)).reverse++acc.map (·.1)
 |[],acc=>by simp[cL]
 |(n,k)::r,acc=>by
  unfold cL
  by_cases hk:k=.free
  ·subst hk
   simp only[beq_self_eq_true,if_true];rw[gf cells r];simp
  ·have:(k==NameKind.free)=false:=by simpa using hk
   simp only[this,Bool.false_eq_true,if_false];rw[gf cells r];simp[this]
theorem lookup_of_mem_nodup{l:List (Str×Addr)}(hn:(l.map (·.1)).Nodup){n:Str}{c:Addr}(m:(n,c)∈l):l.lookup n=some c:=by
 induction l with
 |nil=>cases m
 |cons p r ih=>
  obtain⟨a,b⟩:=p;rw[List.lookup_cons];have eA:a∉r.map (·.1)∧(r.map (·.1)).Nodup:=by simpa[List.nodup_cons] using hn
  rcases List.mem_cons.mp m with e|m
  ·cases e;simp
  ·have:(n==a)=false:=by
    cases q:n==a with
    |false=>rfl
    |true=>exact absurd (List.mem_map_of_mem (f:=(·.1)) m) ((eq_of_beq q)▸eA.1)
   rw[this];exact ih eA.2 m
theorem iS:∀ (names:List (Str×NameKind)) (k:Nat) (acc:List (Str×Addr)) (n:Str),(∀p∈names,p.1=n→p.2≠.cell)→(cellsFrom k names acc).lookup n=acc.lookup n
 |[],_,_,_,_=>rfl
 |(n',kd)::r,k,acc,n,h=>by
  unfold cellsFrom;split
  ·rename_i hk
   rw[iS r _ _ n fun p hp=>h p (.tail _ hp),List.lookup_cons];have:(n==n')=false:=by
    cases q:n==n' with
    |false=>rfl
    |true=>exact absurd (by simpa using hk) (h (n',kd) (.head _) (eq_of_beq q).symm)
   rw[this]
  ·exact iS r _ _ n fun p hp=>h p (.tail _ hp)
noncomputable def ju(sc outer:Scope):Scope:=
 {sc with names:=sc.names.map fun(n,k)=>if(k == .free&&outer.kind == .function&&outer.names.lookup n==some .cell) then(n,.cell) else(n,k)}
theorem j6(sc:Scope)(env:Env):relabel sc env=ju sc env.scope:=rfl
noncomputable def cz(U:aw):List Nat→aw
 |[]=>[]
 |x::xs=>match get U x with
  |some v=>(x,v)::cz U xs
  |none=>cz U xs
theorem nj{U:aw}:∀ {xs:List Nat} {x:Nat} {v:V},get (cz U xs) x=some v→x∈xs∧get U x=some v
 |[],x,v,h=>by cases h
 |y::ys,x,v,h=>by
  unfold cz at h;cases q:get U y with
  |none=>rw[q]at h;obtain⟨a,b⟩:=nj h;exact⟨.tail _ a,b⟩
  |some u=>
   rw[q]at h;simp only[get]at h
   by_cases e:y=x
   ·subst e;simp at h;subst h;exact⟨.head _,q⟩
   ·rw[ng e]at h;obtain⟨a,b⟩:=nj (by simpa using h);exact⟨.tail _ a,b⟩
structure tR(G:dn)(sc outer:Scope)(zi wq:List Nat):Prop where
 kind:sc.kind=.function
 Qw:outer.kind=.function
 nodup:(sc.names.map (·.1)).Nodup
 fr:∀x∈zi,(G.nm x,.free)∈sc.names∧outer.names.lookup (G.nm x)=some .cell
 all:∀p∈sc.names,p.2=.free→∃x∈zi,G.nm x=p.1
 loc:∀p∈sc.names,p.2=.local→sc.names.lookup p.1=some .local
 own:∀x∈wq,sc.names.lookup (G.nm x)=some .local∨sc.names.lookup (G.nm x)=some .cell
theorem cM{l:List (Str×NameKind)}(hn:(l.map (·.1)).Nodup){n:Str}{c:NameKind}(m:(n,c)∈l):l.lookup n=some c:=by
 induction l with
 |nil=>cases m
 |cons p r ih=>
  obtain⟨a,b⟩:=p;rw[List.lookup_cons];have eA:a∉r.map (·.1)∧(r.map (·.1)).Nodup:=by simpa[List.nodup_cons] using hn
  rcases List.mem_cons.mp m with e|m
  ·cases e;simp
  ·have:(n==a)=false:=by
    cases q:n==a with
    |false=>rfl
    |true=>exact absurd (List.mem_map_of_mem (f:=(·.1)) m) ((eq_of_beq q)▸eA.1)
   rw[this];exact ih eA.2 m
theorem mem_of_lookupK{l:List (Str×NameKind)}{n:Str}{c:NameKind}(h:l.lookup n=some c):(n,c)∈l:=by
 induction l with
 |nil=>cases h
 |cons p r ih=>
  obtain⟨a,b⟩:=p;rw[List.lookup_cons]at h;split at h
  ·rename_i e;cases h;rw[eq_of_beq e];exact .head _
  ·exact .tail _ (ih h)
theorem mB{sc outer:Scope}(hn:(sc.names.map (·.1)).Nodup){n:Str}{k:NameKind}(h:sc.names.lookup n=some k):
  (ju sc outer).names.lookup n=some (if(k == .free&&outer.kind == .function&&outer.names.lookup n==some .cell) then .cell else k):=by
 have hm:=mem_of_lookupK h;refine cM ?_ ?_
 ·show((sc.names.map _).map _).Nodup
  rw[List.map_map];have e:((fun(x:Str×NameKind)=>x.1)∘fun(x:Str×NameKind)=>(match x with|(n,k)=>if(k==NameKind.free&&outer.kind == .function&&outer.names.lookup n==some .cell)=true then(n,NameKind.cell) else(n,k):Str×NameKind))=(·.1):=by
   funext x;obtain⟨a,b⟩:=x;dsimp only[Function.comp];split<;>rfl
  rw[e];exact hn
 ·refine List.mem_map.mpr ⟨(n,k),hm,?_⟩
  dsimp only;split<;>rfl
theorem Ek{sc outer:Scope}{n:Str}(h:(ju sc outer).names.lookup n=some .cell):(n,.cell)∈sc.names∨(n,.free)∈sc.names:=by
 refine aW (List.mem_map.mp (mem_of_lookupK h)) ?_;intro z1;obtain⟨a,k⟩:=z1;intro hm e;dsimp only at e;split at e
 ·rename_i hc
  simp only[Bool.and_eq_true,beq_iff_eq]at hc;obtain⟨⟨rfl,_⟩,_⟩:=hc;cases e;exact .inr hm
 ·cases e;exact .inl hm
theorem zj{env:Env}{B:ay}{Z:List Addr}{U:aw}{O:Mu}{s s':Shared}{sc:Scope}{fr own:List Nat}(h:tR G sc env.scope fr own)(I:Inv G B Z O s.heap)(F:bt G env B Z U s.heap)
  {cenv:Env}(hs:cenv.scope=relabel sc env)(hL:cenv.locals=s.heap.objs.size)(hc:cenv.cells=cellsFrom (s.heap.objs.size+1) sc.names (cL env.cells sc.names []))(hg:cenv.globals=mainGlobals)(hb:cenv.builtins=builtinsNs):
  bt G cenv B Z (cz U fr) (pushCells (s.heap.push {cls:=.type "dict",data:=.dict #[]}) sc.names)∧(∀a∈fa G cenv own,s.heap.get? a=none)∧(∀x∈own,nV G cenv own x)∧(∀n c,(n,c)∈cenv.cells→s.heap.get? c=none∨∃n',env.cells.lookup n'=some c):=by
 have lr:∀p∈sc.names,p.2=.free→(env.cells.lookup p.1).isSome=true:=fun p hp hk=>by
  refine aW (h.all p hp hk) ?_;intro x hx e;obtain⟨c,hc⟩:=F.all _ (h.fr x hx).2;rw[←e,hc];rfl
 have k1:=bN s.heap {cls:=.type "dict",data:=.dict #[]};have k2:=pushCells_keeps sc.names (s.heap.push {cls:=.type "dict",data:=.dict #[]});have k:∀b o,s.heap.get? b=some o→(pushCells (s.heap.push {cls:=.type "dict",data:=.dict #[]}) sc.names).get? b=some o:=fun b o e=>k2 b o (k1 b o e);have Hm:=ni env.cells sc.names [] lr;have qj:((cL env.cells sc.names []).map (·.1)).Nodup:=by
  rw[gf];simp only[List.map_nil,List.append_nil];exact List.pairwise_reverse.mpr (List.Pairwise.imp (fun h=>Ne.symm h) (List.Nodup.sublist (List.Sublist.map _ List.filter_sublist) h.nodup))
 have Hn:∀n c,(n,c)∈cL env.cells sc.names []→env.cells.lookup n=some c:=fun n c m=>((Hm n c m).resolve_left (fun z=>nomatch z)).2;have K9:(cL env.cells sc.names []).Pairwise fun x y=>x.2≠y.2:=by
  have hp:=List.pairwise_map.mp qj;refine List.Pairwise.imp_of_mem ?_ hp;intro a b ma mb qk e;have ea:=Hn a.1 a.2 ma;have eb:=Hn b.1 b.2 mb;rw[e]at ea;exact qk (F.inj _ _ _ ea eb)
 have Uk:xR B Z [] s.heap (cL env.cells sc.names []):=⟨fun n c m=>by
  refine sY (F.dI n c (aY (Hn n c m))) ?_;intro a1 a2 a3 a4 v hv;have Ys:B c=none:=a1.resolve_left fun z=>by
   refine aW (h.all _ (((Hm n c m).resolve_left (fun z=>nomatch z)).1) rfl) ?_;intro x hx e;have e2:env.kindOf (G.nm x)=some .cell:=(h.fr x hx).2;have e':G.nm x=n:=e;rw[←e',e2]at z;cases Option.some.inj z
  exact⟨.inr Ys,a2,a3,v,hv⟩,K9⟩
 have ok:=cK sc.names (s.heap.push {cls:=.type "dict",data:=.dict #[]}) (s.heap.objs.size+1) (cL env.cells sc.names []) (cL env.cells sc.names []) (fun n c m=>let⟨_,_,_,v,hv⟩:=Uk.1 n c m;⟨v,hv.keeps k1⟩) (fun n c m=>.inl m) K9 (by rw[Heap.size_push];exact Nat.le_refl _)
 rw[Heap.size_push]at ok;have El:∀n,cenv.kindOf n=(ju sc env.scope).names.lookup n:=fun n=>by unfold Env.kindOf;rw[hs];rfl
 have hn:=cx s.heap;have Ho:∀x∈fr,cenv.kindOf (G.nm x)=some .cell:=fun x hx=>by
  rw[El,mB h.nodup (cM h.nodup (h.fr x hx).1),h.Qw,(h.fr x hx).2];rfl
 refine⟨⟨by rw[hs];exact h.kind,hg,hb,⟨fun zz=>none,by rw[hL];exact(Heap.Ns.new s.heap (.type "dict")).keeps k2,fun x v hx hk=>?_⟩,fun x v hx=>?_,by rw[hL];exact⟨I.eZ hn,I.fJ hn,I.i5 hn⟩,fun n c m=>?_,fun n n' c e e'=>?_,fun n e=>?_⟩,fun a m=>?_,fun x hx=>⟨hx,?_⟩,fun n c m=>?_⟩
 ·obtain⟨hf,_⟩:=nj hx
  rw[Ho x hf]at hk;cases Option.some.inj hk
 ·obtain⟨hf,hr⟩:=nj hx
  refine .inr ⟨.inl (Ho x hf),?_⟩;rcases F.cl x v hr with q|⟨hk,c,u,nW,eX,r⟩
  ·have e2:env.kindOf (G.nm x)=some .cell:=(h.fr x hf).2
   rw[e2]at q;cases Option.some.inj q
  ·refine⟨c,u,?_,eX.keeps k,r⟩
   rw[hc,iS sc.names _ _ (G.nm x) fun p hp e q=>?_]
   ·have hl:(cL env.cells sc.names []).lookup (G.nm x)=some c:=by
     have:(G.nm x)∈(cL env.cells sc.names []).map (·.1):=by
      rw[gf];simp only[List.map_nil,List.append_nil,List.mem_reverse];exact List.mem_map.mpr ⟨(G.nm x,.free),List.mem_filter.mpr ⟨(h.fr x hf).1,rfl⟩,rfl⟩
     refine aW (List.mem_map.mp this) ?_;intro p hp e;have e3:=Hn p.1 p.2 hp;rw[e,nW]at e3;refine lookup_of_mem_nodup qj ?_;rw[←e];cases Option.some.inj e3;exact hp
    exact hl
   ·obtain⟨pn,pk⟩:=p
    cases e;cases q;have h1:=cM h.nodup hp;rw[cM h.nodup (h.fr x hf).1]at h1;cases Option.some.inj h1
 ·rw[hc]at m
  rcases ok.1 n c m with q|⟨q,q'⟩
  ·refine GZ (Uk.1 n c q) ?_;intro a1 a2 a3 v hv
   exact⟨.inr (a1.resolve_left nofun),a2,a3,by rw[hL];exact Nat.ne_of_lt hv.lt,v,hv.keeps k⟩
  ·have eA:s.heap.get? c=none:=fA (by exact Pu q')
   exact⟨.inr (I.eZ eA),I.fJ eA,I.i5 eA,by rw[hL];exact Nat.ne_of_gt q',none,q⟩
 ·rw[hc]at e e'
  exact name_of_addr ok.2 (mem_of_lookup e) (mem_of_lookup e')
 ·rw[El]at e
  rw[hc];rcases Ek e with m|m
  ·exact Option.isSome_iff_exists.mp (cellsFrom_some _ _ _ (.inl (cM h.nodup m)))
  ·refine Option.isSome_iff_exists.mp (cellsFrom_some _ _ _ (.inr ?_))
   have:n∈(cL env.cells sc.names []).map (·.1):=by
    rw[gf];simp only[List.map_nil,List.append_nil,List.mem_reverse];exact List.mem_map.mpr ⟨(n,.free),List.mem_filter.mpr ⟨m,rfl⟩,rfl⟩
   refine aW (List.mem_map.mp this) ?_;intro p hp e;have:(cL env.cells sc.names []).lookup n=some p.2:=lookup_of_mem_nodup qj (by rw[←e];exact hp)
   rw[this];rfl
 ·rcases List.mem_cons.mp m with e|m
  ·rw[e,hL];exact hn
  ·refine aW (List.mem_filterMap.mp m) ?_;intro x hx e
   rw[hc]at e;rcases ok.1 _ _ (mem_of_lookup e) with q|q
   ·have q2:=((Hm _ _ q).resolve_left (fun z=>nomatch z)).1
    have q3:=cM h.nodup q2;rcases h.own x hx with z|z<;>rw[z]at q3<;>cases Option.some.inj q3
   ·exact fA (by omega)
 ·rcases h.own x hx with z|z
  ·left;rw[El,mB h.nodup z];rfl
  ·right;rw[El,mB h.nodup z];rfl
 ·rw[hc]at m
  rcases ok.1 n c m with q|q
  ·exact .inr ⟨n,Hn n c q⟩
  ·exact .inl (fA (by omega))
theorem nr{n:Nat}{env:Env}{own:List Nat}{U:aw}{O:Mu}{e i0:Expr}{sc:Scope}{pos:Pos}{fr:List Nat}{use:Option (Value→Sem Unit)}{A:Around}{B:ay}{Z:List Addr}{s:Shared}{Qf:Value→Shared→Prop}{g:Comprehension}{gs:List Comprehension}{kk:aw→Mu→List V→Prop}{R:V→Mu→List V→Prop}
  (hA:bY n A)(I:Inv G B Z O s.heap)(F:bt G env B Z U s.heap)(cj:clausesOf e=g::gs)(hf:∀x,foldedSetIterable g.iter env x=pure x)
  (dP:tR G sc env.scope fr own)
  (h0:bz G n env (eval i0 env) U O fun v aA=>∃xs,Iter G v aA xs∧R v aA xs)
  (La:∀ (cenv:Env) (v:V) (xs:List V) (aA:Mu) (D it:Addr) (fp:List Addr) (Pv:Nat→Value→Prop) (St:Nat→Heap→Prop) (B1:ay) (aE:List Addr) (s1 s0:Shared),R v aA xs→cenv.scope=relabel sc env→
   Walks G.prog G.w A it fp [it] xs.length Pv St→(∀i h,St i h→∃o,h.get? it=some o)→(∀ (i:Nat) y,i<xs.length→Pv i y→∃x,xs[i]?=some x∧VR B1 aE x y)→s1.heap.get? it=none→s1.heap.get? D=none→
   aG G (D::fa G cenv own) B1 aE s1 B1 aE aA s0→CompI (G:=G) cenv own D B1 aE (cz U fr) aA [] s0→qh it fp St cenv D B1 aE 0 s0→
   codeAny (model G.prog G.w) A (.compStart e 0 (.ref it) (.ref D) cenv) (hX (G:=G) cenv own D B1 aE s1 kk) s0)
  (fin:∀ (cenv:Env) (D:Addr) (B1:ay) (aE:List Addr) (aA:Mu) (s1:Shared) (r:Result) (s':Shared),aG G [] B Z s B1 aE aA s1→s1.heap.get? D=none→(∀a∈fa G cenv own,s1.heap.get? a=none)→bt G env B1 aE U s1.heap→
   hX (G:=G) cenv own D B1 aE s1 kk r s'→compPost (model G.prog G.w) A bM use Qf (.ref D) cenv.locals r s'):
  wpAny (model G.prog G.w) A (comprehension e sc env pos (newList []) false (eval i0 env) use) Qf bM s:=by
 refine wpAny_comprehension_free cj hf (jt fun p hp hk=>?_) dP.kind dP.loc ?_
 ·refine aW (dP.all p hp hk) ?_;intro x hx e
  obtain⟨c,hc⟩:=F.all _ (dP.fr x hx).2;rw[←e,hc];rfl
 refine wpAny_mono (h0 A hA B Z s I F) ?_ fun zz zz x=>x;rintro u s1 ⟨v,aA,B1,aE,⟨xs,Qu,hR⟩,P1,r1⟩;have F1:=F.same P1;refine Qu A B1 aE s1 u _ _ P1.inv r1 ?_;intro it h2 fp Pv St hn iR df W hP fZ K5;refine wpAny_newObj_type (s:={s1 with heap:=h2}) ?_ (by show(#[]:Array Value).size≤sizeLine;simp[sizeLine])
 rw[F.gl];refine dr ?_;rw[List.forIn_nil];refine wpAny_pure ?_;have kD:=bN h2 (lobj [] 0);have Lb:∀b o,s1.heap.get? b=some o→(h2.push (lobj [] 0)).get? b=some o:=fun b o e=>kD b o (iR b o e);have I1:=P1.inv;have I3:Inv G B1 aE aA (h2.push (lobj [] 0)):=I1.keeps Lb;have F3:bt G env B1 aE U (h2.push (lobj [] 0)):=F1.same (s':={s1 with heap:=h2.push (lobj [] 0)}) (I1.kz (t:=s1.toks) Lb (fun zz m=>nomatch m))
 have nD:s1.heap.get? h2.objs.size=none:=by
  cases q:s1.heap.get? h2.objs.size with
  |none=>rfl
  |some o=>exact absurd (Heap.lt_size (iR _ o q)) (Nat.lt_irrefl _)
 have Hp:it<h2.objs.size:=let⟨_,e⟩:=df _ _ fZ;Heap.lt_size e
 have Ul:(h2.push (lobj [] 0)).objs.size=h2.objs.size+1:=Heap.size_push ..;have eD:(h2.push (lobj [] 0)).get? h2.objs.size=some (lobj [] 0):=Heap.get?_push_size _ rfl;have Yt:=bN (h2.push (lobj [] 0)) {cls:=.type "dict",data:=.dict #[]};have Yu:=pushCells_keeps sc.names ((h2.push (lobj [] 0)).push {cls:=.type "dict",data:=.dict #[]});have kC:∀b o,(h2.push (lobj [] 0)).get? b=some o→(pushCells ((h2.push (lobj [] 0)).push {cls:=.type "dict",data:=.dict #[]}) sc.names).get? b=some o:=fun b o e=>Yu b o (Yt b o e);have CF:=zj (s:={s1 with heap:=h2.push (lobj [] 0)}) (s':=s1) (fr:=fr) (own:=own)
  (cenv:={newEnv sc (h2.push (lobj [] 0)).objs.size mainGlobals (cellsFrom ((h2.push (lobj [] 0)).objs.size+1) sc.names (cL env.cells sc.names [])) env.qual none .none (some env) builtinsNs with scope:=relabel sc env}) dP I3 F3 rfl rfl rfl rfl F.bi
 refine wg CF ?_;clear CF;intro FC Lc okC Ld;have Hq:∀b o,s1.heap.get? b=some o→(pushCells ((h2.push (lobj [] 0)).push {cls:=.type "dict",data:=.dict #[]}) sc.names).get? b=some o:=fun b o e=>kC b o (Lb b o e);have Qx:=kC _ _ eD;have Yv:aG G (h2.objs.size::fa G {newEnv sc (h2.push (lobj [] 0)).objs.size mainGlobals (cellsFrom ((h2.push (lobj [] 0)).objs.size+1) sc.names (cL env.cells sc.names [])) env.qual none .none (some env) builtinsNs with scope:=relabel sc env} own) B1 aE s1 B1 aE aA
   {s1 with heap:=pushCells ((h2.push (lobj [] 0)).push {cls:=.type "dict",data:=.dict #[]}) sc.names}:=by
  refine⟨.refl _,List.prefix_refl _,I1.keeps Hq,lX.all Hq _,fun a m=>?_,.heap (t:=s1.toks),fun zz h=>.inl h,fun zz h=>.inl h⟩;rcases List.mem_cons.mp m with rfl|m
  ·exact⟨_,Qx⟩
  ·exact FC.bL a m
 have CI:CompI (G:=G) {newEnv sc (h2.push (lobj [] 0)).objs.size mainGlobals (cellsFrom ((h2.push (lobj [] 0)).objs.size+1) sc.names (cL env.cells sc.names [])) env.qual none .none (some env) builtinsNs with scope:=relabel sc env} own h2.objs.size B1 aE (cz U fr) aA []
   {s1 with heap:=pushCells ((h2.push (lobj [] 0)).push {cls:=.type "dict",data:=.dict #[]}) sc.names}:=by
  refine⟨I1.keeps Hq,FC,⟨[],0,Qx,.nil⟩,I1.off nD,?_,fun n' c m q=>?_⟩
  ·show(h2.push (lobj [] 0)).objs.size≠h2.objs.size
   rw[Ul];exact Nat.succ_ne_self _
  ·refine cw (FC.dI n' c m) ?_;intro zz zz zz zz z o e ed
   rw[q]at e;have e':(pushCells ((h2.push (lobj [] 0)).push {cls:=.type "dict",data:=.dict #[]}) sc.names).get? h2.objs.size=some o:=e;rw[Qx]at e';cases Option.some.inj e';cases ed
 have II:qh it fp St {newEnv sc (h2.push (lobj [] 0)).objs.size mainGlobals (cellsFrom ((h2.push (lobj [] 0)).objs.size+1) sc.names (cL env.cells sc.names [])) env.qual none .none (some env) builtinsNs with scope:=relabel sc env} h2.objs.size B1 aE 0
   {s1 with heap:=pushCells ((h2.push (lobj [] 0)).push {cls:=.type "dict",data:=.dict #[]}) sc.names}:=by
  refine⟨(W A hA.handled).frame 0 h2 _ fZ fun b zz o e=>kC b o (kD b o e),I1.off hn,K5,?_,fun n' c m q=>?_,Nat.ne_of_gt Hp⟩
  ·show(h2.push (lobj [] 0)).objs.size≠it
   rw[Ul];exact Nat.ne_of_gt (Nat.lt_succ_of_lt Hp)
  ·rcases Ld n' c m with z|⟨n2,z⟩
   ·obtain⟨o,e⟩:=df _ _ fZ
    have:=kD _ _ e;rw[q]at z;have z':(h2.push (lobj [] 0)).get? it=none:=z;rw[this]at z';exact ff z'
   ·refine cw (F1.dI n2 c (aY z)) ?_;intro zz zz zz zz v' o e zz
    rw[q,hn]at e;exact bk e
 refine codeAny_mono (La _ v xs aA h2.objs.size it fp Pv St B1 aE s1 _ hR rfl (W A hA.handled) df hP hn nD Yv CI II) ?_;intro r s' hr;have Qy:∀a,(h2.push (lobj [] 0)).get? a=none→s1.heap.get? a=none:=fun a z=>by
  cases q:s1.heap.get? a with
  |none=>rfl
  |some o=>rw[Lb a o q]at z;exact ff z
 have z:=fin _ _ B1 aE aA s1 r s' P1 nD (fun a m=>Qy a (Lc a m)) F1 hr;exact z
theorem aG.qm{W:List Addr}{B B':ay}{Z aH:List Addr}{ar:Mu}{s s':Shared}(P:aG G W B Z s B' aH ar s')(hW:∀a∈W,s.heap.get? a=none):aG G [] B Z s B' aH ar s':=by
 refine⟨P.le,P.pre,P.inv,fun b o hb e=>P.keep b o (fun m=>?_) e,(fun zz m=>nomatch m),P.rest,P.dF,P.da⟩;rcases List.mem_append.mp m with m|m
 ·rw[hW b m]at e;exact bk e
 ·exact hb (by simpa using m)
theorem Inv.adopt{B:ay}{Z:List Addr}{O:Mu}{h:Heap}{D:Addr}{o:Obj}(I:Inv G B Z O h)(f:Off B Z D)(e:h.get? D=some o):Inv G (B.add D o) Z O h:=by
 have le:=ay.iA (o:=o) f.1;refine⟨I.base.trans le,fun b x hb=>?_,I.len,fun i b xs h1 h2=>?_,I.dp,I.nodup,fun b hb=>⟨?_,(I.cg b hb).2⟩,G.hT.mono I.tab le fun zz zz zz x=>x,I.ey⟩
 ·unfold ay.add at hb
  by_cases q:b=D
  ·subst q;rw[if_pos rfl]at hb;cases Option.some.inj hb;exact e
  ·rw[if_neg q]at hb;exact I.holds b x hb
 ·refine ew (I.ml i b xs h1 h2) ?_;intro hb vs n g r
  refine⟨?_,vs,n,g,r.mono le (List.prefix_refl _)⟩;unfold ay.add;rw[if_neg (fun q:b=D=>f.2.1 (q▸List.mem_of_getElem? h1))];exact hb
 ·unfold ay.add;rw[if_neg (fun q:b=D=>f.2.2 (q▸hb))];exact(I.cg b hb).1
theorem aG.adopt{W:List Addr}{B B':ay}{Z aH:List Addr}{ar:Mu}{s s':Shared}{D:Addr}{o:Obj}(P:aG G W B Z s B' aH ar s')(hn:s.heap.get? D=none)(f:Off B' aH D)(e:s'.heap.get? D=some o):aG G W B Z s (B'.add D o) aH ar s':=by
 refine⟨P.le.trans (ay.iA f.1),P.pre,P.inv.adopt f e,P.keep,P.bL,P.rest,fun a ha=>?_,P.da⟩;unfold ay.add at ha
 by_cases q:a=D
 ·subst q;exact .inr (.inr hn)
 ·rw[if_neg q]at ha;exact P.dF a ha
theorem Inv.xT{B:ay}{Z:List Addr}{O:Mu}{h:Heap}{D:Addr}{xs:List V}{vs:List Value}{k:Nat}(I:Inv G B Z O h)(f:Off B Z D)(e:h.get? D=some (lobj vs k))(r:aB B [] xs vs):Inv G B (Z++[D]) (O++[some xs]) h:=by
 refine⟨I.base,I.holds,by simp[I.len],fun i b ys h1 h2=>?_,fun b hb=>?_,?_,fun b hb=>⟨(I.cg b hb).1,fun m=>?_⟩,I.tab,I.ey.snoc (I.base.off f.1)⟩
 ·by_cases q:i<Z.length
  ·rw[List.getElem?_append_left q]at h1
   rw[List.getElem?_append_left (I.len▸q)]at h2;exact I.ml i b ys h1 h2
  ·rw[List.getElem?_append_right (Nat.le_of_not_lt q)]at h1
   rw[List.getElem?_append_right (I.len▸Nat.le_of_not_lt q),←I.len]at h2;cases q2:i-Z.length with
   |zero=>
    rw[q2]at h1 h2;cases h1;cases h2;exact⟨f.1,vs,k,e,r⟩
   |succ j=>rw[q2]at h1;cases h1
 ·rcases List.mem_append.mp hb with m|m
  ·exact I.dp b m
  ·rw[List.mem_singleton.mp m];exact⟨_,e⟩
 ·refine List.nodup_append.mpr ⟨I.nodup,by simp,fun b hb c hc=>?_⟩
  rw[List.mem_singleton.mp hc];exact fun q=>f.2.1 (q▸hb)
 ·rcases List.mem_append.mp m with m|m
  ·exact(I.cg b hb).2 m
  ·exact f.2.2 (List.mem_singleton.mp m▸hb)
theorem aG.xT{W:List Addr}{B B':ay}{Z aH:List Addr}{ar:Mu}{s s':Shared}{D:Addr}{xs:List V}{vs:List Value}{k:Nat}(P:aG G W B Z s B' aH ar s')(hn:s.heap.get? D=none)(f:Off B' aH D)(e:s'.heap.get? D=some (lobj vs k))(r:aB B' [] xs vs):
  aG G W B Z s B' (aH++[D]) (ar++[some xs]) s':=by
 refine⟨P.le,P.pre.trans (List.prefix_append _ _),P.inv.xT f e r,P.keep,P.bL,P.rest,P.dF,fun a ha=>?_⟩;rcases List.mem_append.mp ha with m|m
 ·exact P.da a m
 ·rw[List.mem_singleton.mp m];exact .inr hn
def dg(m:Bool)(Q:V→Mu→Prop)(O:Mu)(xs:List V):Prop:=match m with
 |false=>Q (.list xs) O
 |true=>(∀x∈xs,Cl x)∧Q (.ml O.length) (O++[some xs])
theorem dg.out{m:Bool}{Q:V→Mu→Prop}{W:List Addr}{B B':ay}{Z aH:List Addr}{ar:Mu}{s s':Shared}{D:Addr}{xs:List V}{vs:List Value}{k:Nat}(q:dg m Q ar xs)(P:aG G W B Z s B' aH ar s')(hn:s.heap.get? D=none)(f:Off B' aH D)
  (e:s'.heap.get? D=some (lobj vs k))(r:aB B' aH xs vs):∃v cU mx j4,Q v cU∧aG G W B Z s mx j4 cU s'∧VR mx j4 v (.ref D)∧(∀a,a≠D→mx a=B' a)∧(∀a∈j4,a∈aH∨a=D):=by
 cases m with
 |false=>
  have le:=ay.iA (o:=lobj vs k) f.1;exact⟨.list xs,ar,_,aH,q,P.adopt hn f e,.list (ay.dc ..) r.1 (r.mono le (List.prefix_refl _)).2,fun a ha=>if_neg ha,fun a ha=>.inl ha⟩
 |true=>
  refine⟨.ml ar.length,ar++[some xs],B',aH++[D],q.2,P.xT hn f e (r.clean q.1 []),.ml ?_,fun zz zz=>rfl,fun a ha=>?_⟩
  ·rw[←P.inv.len];simp
  ·rcases List.mem_append.mp ha with z|z
   ·exact .inl z
   ·exact .inr (List.mem_singleton.mp z)
theorem tS{n:Nat}{env cenv:Env}{own:List Nat}{m:Bool}{B B1:ay}{Z aE:List Addr}{s s1 s':Shared}{aA:Mu}{A:Around}{D:Addr}{r:Result}{Q:V→Mu→Prop}
  (P1:aG G [] B Z s B1 aE aA s1)(nD:s1.heap.get? D=none)(nF:∀a∈fa G cenv own,s1.heap.get? a=none)
  (h:hX (G:=G) cenv own D B1 aE s1 (fun zz ar acc=>dg m Q ar acc) r s'):compPost (model G.prog G.w) A bM none (PV G B Z s Q) (.ref D) cenv.locals r s':=by
 refine tC h ?_;clear h;intro z1;subst z1;intro ao ar acc B' aH q P C;refine aW C.fr.ns ?_;intro mm jb zz;refine⟨mm,jb,fun h' Qt=>?_⟩;have W0:∀a∈D::fa G cenv own,s1.heap.get? a=none:=fun a ha=>by
  rcases List.mem_cons.mp ha with rfl|ha
  ·exact nD
  ·exact nF a ha
 have P2:=P.qm W0;have kp:∀b o,b≠cenv.locals→s'.heap.get? b=some o→h'.get? b=some o:=fun b o z g=>(Qt.2 b z).trans g;have P3:=P2.fM (it:=cenv.locals) (tk:=s'.toks) (nF _ (.head _)) C.fr.cV.1 C.fr.cV.2.1 C.fr.cV.2.2 (by simp) kp
 refine j0 C.acc ?_;intro vs k e r;refine qf (q.out P3 nD C.off (kp _ _ C.cV.symm e) r) ?_;intro v cU mx j4 hq P4 r4 zz;exact⟨v,cU,mx,j4,hq,P1.trans P4,r4⟩
theorem Hr{n:Nat}{env:Env}{own fr:List Nat}{U:aw}{O:Mu}{Q:V→Mu→Prop}{elt target iter:Expr}{ifs:List Expr}{sc:Scope}{pos:Pos}(m:Bool)
  (dP:tR G sc env.scope fr own)(hf:∀x,foldedSetIterable iter env x=pure x)(hl:∀it v,letOwnedTupleGo target it v=pure ())
  (h:bz G n env (eval iter env) U O fun v aA=>∃xs,Iter G v aA xs∧∀cenv:Env,cenv.scope=ju sc env.scope→cb (gc G n cenv own elt target ifs) xs (cz U fr) aA [] fun zz ar acc=>dg m Q ar acc):
  bz G n env (eval (.ListComp elt [⟨target,iter,ifs,0⟩] sc pos) env) U O Q:=by
 intro A hA B Z s I F;rw[eval_ListComp];refine nr (kk:=fun zz ar acc=>dg m Q ar acc) (R:=fun v aA xs=>∀cenv:Env,cenv.scope=ju sc env.scope→cb (gc G n cenv own elt target ifs) xs (cz U fr) aA [] fun zz ar acc=>dg m Q ar acc) (own:=own) (fr:=fr) hA I F rfl hf dP h ?_ ?_
 ·intro cenv v xs aA D it fp Pv St B1 aE s1 s0 hR hs W df hP hn nD P C J
  have inner:=lu (e:=.ListComp elt [⟨target,iter,ifs,0⟩] sc pos) (d:=0) hA (compTurn_list elt target iter ifs sc pos (.ref it) (.ref D) cenv) rfl rfl rfl (hl _) W df hP hn P C J (hR cenv (hs.trans (j6 sc env)));exact codeAny_compStart_list inner (W.self 0 _ _ _ J.st inner)
 ·intro cenv D B1 aE aA s1 r s' P1 nD nF F1 hr
  exact tS (n:=n) (env:=env) P1 nD nF hr
theorem Hs{n:Nat}{env:Env}{own fr:List Nat}{U:aw}{O:Mu}{Q:V→Mu→Prop}{elt t0 i0 t1 i1:Expr}{f0 f1:List Expr}{sc:Scope}{pos:Pos}(m:Bool)
  (dP:tR G sc env.scope fr own)(hf:∀x,foldedSetIterable i0 env x=pure x)(Ht:∀env x,foldedSetIterable i1 env x=pure x)(hl:∀it v,letOwnedTupleGo t0 it v=pure ())(qi:∀it v,letOwnedTupleGo t1 it v=pure ())
  (h:bz G n env (eval i0 env) U O fun v aA=>∃xs,Iter G v aA xs∧∀cenv:Env,cenv.scope=ju sc env.scope→cb (gK G n cenv own elt t0 f0 i1 t1 f1) xs (cz U fr) aA [] fun zz ar acc=>dg m Q ar acc):
  bz G n env (eval (.ListComp elt [⟨t0,i0,f0,0⟩,⟨t1,i1,f1,0⟩] sc pos) env) U O Q:=by
 intro A hA B Z s I F;rw[eval_ListComp];refine nr (kk:=fun zz ar acc=>dg m Q ar acc) (R:=fun v aA xs=>∀cenv:Env,cenv.scope=ju sc env.scope→cb (gK G n cenv own elt t0 f0 i1 t1 f1) xs (cz U fr) aA [] fun zz ar acc=>dg m Q ar acc) (own:=own) (fr:=fr) hA I F rfl hf dP h ?_ ?_
 ·intro cenv v xs aA D it fp Pv St B1 aE s1 s0 hR hs W df hP hn nD P C J
  have inner:=n6 (i0:=i0) (scope:=sc) (pos:=pos) hA hl qi (Ht cenv) W df hP hn P C J (hR cenv (hs.trans (j6 sc env)));exact codeAny_compStart_list inner (W.self 0 _ _ _ J.st inner)
 ·intro cenv D B1 aE aA s1 r s' P1 nD nF F1 hr
  exact tS (n:=n) (env:=env) P1 nD nF hr
theorem tT{env cenv:Env}{own lY:List Nat}{m:Bool}{B B1:ay}{Z aE:List Addr}{s s1 s':Shared}{aA:Mu}{U:aw}{A:Around}{D:Addr}{r:Result}{x:Nat}{px:Pos}{Q:Fl→aw→Mu→Prop}
  (F:bt G env B Z U s.heap)(hx:nV G env lY x)(P1:aG G [] B Z s B1 aE aA s1)(nD:s1.heap.get? D=none)(nF:∀a∈fa G cenv own,s1.heap.get? a=none)(F1:bt G env B1 aE U s1.heap)
  (h:hX (G:=G) cenv own D B1 aE s1 (fun zz ar acc=>dg m (fun v cU=>Q .next (set U x v) cU) ar acc) r s'):
  compPost (model G.prog G.w) A bM (some (assign (.Name (G.nm x) px) env)) (fun zz s'=>PS G env lY B Z s Q .next s') (.ref D) cenv.locals r s':=by
 refine tC h ?_;clear h;intro z1;subst z1;intro ao ar acc B' aH q P C;have W0:∀a∈D::fa G cenv own,s1.heap.get? a=none:=fun a ha=>by
  rcases List.mem_cons.mp ha with rfl|ha
  ·exact nD
  ·exact nF a ha
 have P2:=P.qm W0;refine j0 C.acc ?_;intro vs k e r;refine tD (q.out P2 nD C.off e r) ?_;intro v cU mx j4 hq P4 r4 hB dM;have F4:=F1.keep P4 (by simp) (fun zz zz zz=>by simp)
 refine aW C.fr.ns ?_;intro mm jb zz;have nC:s1.heap.get? cenv.locals=none:=nF _ (.head _);have Yw:=P1.back nC;have Le:env.locals≠cenv.locals:=fun z=>by refine aW F1.ns ?_;intro zz z1;obtain⟨o,_,_,eo,_⟩:=z1;intro zz;rw[z,nC]at eo;exact bk eo
 have Yx:∀n c,(n,c)∈env.cells→c≠cenv.locals:=fun n c m z=>by refine cw (F1.dI n c m) ?_;intro zz zz zz zz v o e zz;rw[z,nC]at e;exact bk e
 have Um:cenv.locals∉fa G env lY:=fun z=>by obtain⟨o,eo⟩:=F1.bL _ z;rw[nC]at eo;exact bk eo
 have BC:mx cenv.locals=none:=(hB _ C.cV).trans C.fr.cV.1;have AC:cenv.locals∉j4:=fun z=>by
  rcases dM _ z with z|z
  ·exact C.fr.cV.2.1 z
  ·exact C.cV z
 have TC:cenv.locals∉tabs:=C.fr.cV.2.2;have P5:aG G (fa G env lY) B Z s mx j4 cU s':=(P1.trans P4).wide F;refine assign_Name (gv hx.1 hx.2 P4.inv F4 r4 fun h' tk F' P'=>?_);refine oz jb ?_;clear jb;intro oC Yy Yz eC rC;refine⟨mm,⟨oC,Yy,Yz,P'.kept eC Um AC TC,rC⟩,fun bu Hu=>?_⟩;have kp:∀b o,b≠cenv.locals→h'.get? b=some o→bu.get? b=some o:=fun b o z g=>(Hu.2 b z).trans g;exact⟨.next,_,cU,mx,j4,hq,(P5.trans P').fM (it:=cenv.locals) (tk:=tk) Yw BC AC TC Um kp,F'.fM Le Yx kp,.next⟩
theorem Hv{n:Nat}{env:Env}{own lY fr:List Nat}{U:aw}{O:Mu}{Q:Fl→aw→Mu→Prop}{elt target iter:Expr}{ifs:List Expr}{sc:Scope}{pos rh px:Pos}{x:Nat}(m:Bool)
  (hx:nV G env lY x)(hs:swapsWith (.ListComp elt [⟨target,iter,ifs,0⟩] sc pos) (some (.Name (G.nm x) px)) rh.line env=pure true)
  (dP:tR G sc env.scope fr own)(hf:∀x,foldedSetIterable iter env x=pure x)(hl:∀it v,letOwnedTupleGo target it v=pure ())
  (h:bz G n env (eval iter env) U O fun v aA=>∃xs,Iter G v aA xs∧∀cenv:Env,cenv.scope=ju sc env.scope→cb (gc G n cenv own elt target ifs) xs (cz U fr) aA [] fun zz ar acc=>dg m (fun v cU=>Q .next (set U x v) cU) ar acc):
  cn G n env lY (exec (.Assign [.Name (G.nm x) px] (.ListComp elt [⟨target,iter,ifs,0⟩] sc pos) rh) env) U O Q:=by
 intro A hA B Z s I F;rw[exec_Assign_Name_used _ _ _ _ hs,arm_evalThenUse_ListComp];refine wpAny_bind (wpAny_standAt (wpAny_bind (wpAny_bind ?_)));refine wpAny_mono (nr (kk:=fun zz ar acc=>dg m (fun v cU=>Q .next (set U x v) cU) ar acc) (R:=fun v aA xs=>∀cenv:Env,cenv.scope=ju sc env.scope→cb (gc G n cenv own elt target ifs) xs (cz U fr) aA [] fun zz ar acc=>dg m (fun v cU=>Q .next (set U x v) cU) ar acc)
  (own:=own) (fr:=fr) (Qf:=fun zz s'=>PS G env lY B Z s Q .next s') hA I F rfl hf dP h ?_ ?_) (fun zz zz q=>wpAny_pure (wpAny_pure q)) fun zz zz x=>x
 ·intro cenv v xs aA D it fp Pv St B1 aE s1 s0 hR hs W df hP hn nD P C J
  have inner:=lu (e:=.ListComp elt [⟨target,iter,ifs,0⟩] sc pos) (d:=0) hA (compTurn_list elt target iter ifs sc pos (.ref it) (.ref D) cenv) rfl rfl rfl (hl _) W df hP hn P C J (hR cenv (hs.trans (j6 sc env)));exact codeAny_compStart_list inner (W.self 0 _ _ _ J.st inner)
 ·intro cenv D B1 aE aA s1 r s' P1 nD nF F1 hr
  exact tT F hx P1 nD nF F1 hr
theorem Hw{n:Nat}{env:Env}{own lY fr:List Nat}{U:aw}{O:Mu}{Q:Fl→aw→Mu→Prop}{elt t0 i0 t1 i1:Expr}{f0 f1:List Expr}{sc:Scope}{pos rh px:Pos}{x:Nat}(m:Bool)
  (hx:nV G env lY x)(hs:swapsWith (.ListComp elt [⟨t0,i0,f0,0⟩,⟨t1,i1,f1,0⟩] sc pos) (some (.Name (G.nm x) px)) rh.line env=pure true)
  (dP:tR G sc env.scope fr own)(hf:∀x,foldedSetIterable i0 env x=pure x)(Ht:∀env x,foldedSetIterable i1 env x=pure x)(hl:∀it v,letOwnedTupleGo t0 it v=pure ())(qi:∀it v,letOwnedTupleGo t1 it v=pure ())
  (h:bz G n env (eval i0 env) U O fun v aA=>∃xs,Iter G v aA xs∧∀cenv:Env,cenv.scope=ju sc env.scope→cb (gK G n cenv own elt t0 f0 i1 t1 f1) xs (cz U fr) aA [] fun zz ar acc=>dg m (fun v cU=>Q .next (set U x v) cU) ar acc):
  cn G n env lY (exec (.Assign [.Name (G.nm x) px] (.ListComp elt [⟨t0,i0,f0,0⟩,⟨t1,i1,f1,0⟩] sc pos) rh) env) U O Q:=by
 intro A hA B Z s I F;rw[exec_Assign_Name_used _ _ _ _ hs,arm_evalThenUse_ListComp];refine wpAny_bind (wpAny_standAt (wpAny_bind (wpAny_bind ?_)));refine wpAny_mono (nr (kk:=fun zz ar acc=>dg m (fun v cU=>Q .next (set U x v) cU) ar acc) (R:=fun v aA xs=>∀cenv:Env,cenv.scope=ju sc env.scope→cb (gK G n cenv own elt t0 f0 i1 t1 f1) xs (cz U fr) aA [] fun zz ar acc=>dg m (fun v cU=>Q .next (set U x v) cU) ar acc)
  (own:=own) (fr:=fr) (Qf:=fun zz s'=>PS G env lY B Z s Q .next s') hA I F rfl hf dP h ?_ ?_) (fun zz zz q=>wpAny_pure (wpAny_pure q)) fun zz zz x=>x
 ·intro cenv v xs aA D it fp Pv St B1 aE s1 s0 hR hs W df hP hn nD P C J
  have inner:=n6 (i0:=i0) (scope:=sc) (pos:=pos) hA hl qi (Ht cenv) W df hP hn P C J (hR cenv (hs.trans (j6 sc env)));exact codeAny_compStart_list inner (W.self 0 _ _ _ J.st inner)
 ·intro cenv D B1 aE aA s1 r s' P1 nD nF F1 hr
  exact tT F hx P1 nD nF F1 hr
section
variable (G)
def gg(n:Nat)(v i:V)(O:Mu)(Q:V→Mu→Prop):Prop:=
 ∀A,bY n A→∀B Z s x y,Inv G B Z O s.heap→VR B Z v x→VR B Z i y→∃T id,s.TypeIs x T∧typeLookup (.type T) "__getitem__"=pure (some (.builtin id))∧wpAny (model G.prog G.w) A (getItem x y) (PV G B Z s Q) bM s
variable {G}
theorem tU{M:Model}{A:Around}{E:Value→Shared→Prop}{s:Shared}{value slice:Expr}{o i:Value}{T id:String}{Q:Value→Shared→Prop}(hT:s.TypeIs o T)
  (hl:typeLookup (.type T) "__getitem__"=pure (some (.builtin id))){ops:List Value}(hs:subscripted slice false o i=operate ops (getItem o i))(h:∀ {prog w},M=model prog w→wpAny (model prog w) A (getItem o i) Q E s){prog:Program}{w:World}(hM:M=model prog w):
  wpAny M A (do let r ←subscripted slice (←getitemInPython o) o i;letTemporaryGo value o r;pure r) Q E s:=by
 subst hM;refine wpAny_bind ?_;rw[getitemInPython_of_ne hT.not_modules];refine wpAny_bind (wpAny_specialOf hT hl ?_);have fin:wpAny (model prog w) A (subscripted slice false o i) (fun r s3=>wpAny (model prog w) A (letTemporaryGo value o r >>= fun zz=>pure r) Q E s3) E s:=by
  rw[hs];exact wpAny_operating (wpAny_mono (h rfl) (fun r s3 h3=>wpAny_bind (wpAny_letTemporaryGo (wpAny_pure h3))) fun zz zz x=>x)
 first
  |exact wpAny_pure (wpAny_bind fin)
  |exact wpAny_bind (wpAny_pure (wpAny_bind fin))
  |exact wpAny_bind fin
section
variable{n:Nat}{env:Env}{U:aw}{O:Mu}{Q:V→Mu→Prop}
theorem Qz{value slice:Expr}{pos:Pos}(h:bz G n env (eval value env) U O fun v aA=>bz G n env (eval slice env) U aA fun i aZ=>gg G n v i aZ Q)
  (hs:∀o i,subscripted slice false o i=operate [o,i] (getItem o i)):bz G n env (eval (.Subscript value slice pos) env) U O Q:=by
 intro A hA B Z s I F;rw[eval_Subscript];refine wpAny_bind (wpAny_mono (h A hA B Z s I F) ?_ fun zz zz x=>x);rintro x s1 ⟨v,aA,B1,aE,h1,P1,r1⟩;have F1:=F.same P1;refine wpAny_bind (wpAny_holding (wpAny_mono (h1 A hA B1 aE s1 P1.inv F1) ?_ fun zz zz x=>x));rintro y s2 ⟨u,aZ,B2,aV,h2,P2,r2⟩;refine wpAny_bind (wpAny_standAt ?_);refine oy (h2 A hA B2 aV s2 x y P2.inv (r1.mono P2.le P2.pre) r2) ?_;intro T id hT hl hg;exact wpAny_mono (tU hT hl (hs _ _) (fun e=>by cases e;exact hg) rfl) (fun z s3 h3=>PV.after P1 (PV.after P2 h3)) fun zz zz x=>x
noncomputable def cF(i:Int)(len:Nat):Nat:=(if i<0 then i+len else i).toNat
theorem Em{xs:List V}{i:Int}{v:V}(h0 : -(xs.length:Int)≤i)(jv:xs.length<2 ^ 62)(hx:xs[cF i xs.length]?=some v)(q:Q v O):gg G n (.list xs) (.int i) O Q:=by
 intro A hA B Z s x y I hv hi;refine VR.bC hi ?_;intro _;rename_i t;cases hv with
 |list e l h9=>
  rename_i a vs k;have hl:s.heap.IsList a vs.toArray:=⟨_,I.holds _ _ e,rfl,k,rfl⟩;refine aW (aB.get ⟨l,h9⟩ hx) ?_;intro u hu r;have bA:=(List.getElem?_eq_some_iff.mp hx).1;refine⟨"list",_,hl.typeIs,list_getitem_lookup,?_⟩;have mh:vs.toArray[cF i xs.length]?=some u:=by simpa using hu
  unfold cF at bA mh
  by_cases j7:i<0
  ·rw[if_pos j7]at bA mh
   have sz:vs.toArray.size=xs.length:=by simp[l]
   exact wpAny_getItem_list_neg hl j7 (by rw[sz];exact h0) (by exact Te h0 jv l sz) (by rw[sz];exact mh) (PV.bQ I r q)
  ·rw[if_neg j7]at bA mh
   exact wpAny_getItem_list hl (by exact Tf j7) (by exact Th jv l bA) mh (PV.bQ I r q)
theorem Lf{xs:List V}{j:Nat}{i:Int}{v:V}(hj:O[j]?=some (some xs))(h0 : -(xs.length:Int)≤i)(jv:xs.length<2 ^ 62)(hx:xs[cF i xs.length]?=some v)(q:Q v O):gg G n (.ml j) (.int i) O Q:=by
 intro A hA B Z s x y I hv hi;refine VR.bC hi ?_;intro _;rename_i t;cases hv with
 |ml e=>
  rename_i a;refine ew (I.ml j a xs e hj) ?_;intro _ vs k g r;have l:=r.1;have hl:s.heap.IsList a vs.toArray:=⟨_,g,rfl,k,rfl⟩;refine aW (aB.get (r.any Z) hx) ?_;intro u hu r;have bA:=(List.getElem?_eq_some_iff.mp hx).1;refine⟨"list",_,hl.typeIs,list_getitem_lookup,?_⟩;have mh:vs.toArray[cF i xs.length]?=some u:=by simpa using hu
  unfold cF at bA mh
  by_cases j7:i<0
  ·rw[if_pos j7]at bA mh
   have sz:vs.toArray.size=xs.length:=by simp[l]
   exact wpAny_getItem_list_neg hl j7 (by rw[sz];exact h0) (by exact Te h0 jv l sz) (by rw[sz];exact mh) (PV.bQ I r q)
  ·rw[if_neg j7]at bA mh
   exact wpAny_getItem_list hl (by exact Tf j7) (by exact Th jv l bA) mh (PV.bQ I r q)
theorem A0{xs:List V}{i:Int}{v:V}(h0:0≤i)(jv:xs.length<2 ^ 62)(hx:xs[i.toNat]?=some v)(q:Q v O):gg G n (.tuple xs) (.int i) O Q:=by
 intro A hA B Z s x y I hv hi;refine VR.bC hi ?_;intro _;rename_i t;cases hv with
 |tuple e l h9=>
  rename_i a vs k;have hl:IsTup s.heap a vs.toArray:=⟨_,I.holds _ _ e,rfl,k,rfl⟩;refine aW (aB.get ⟨l,h9⟩ hx) ?_;intro u hu r;have bA:=(List.getElem?_eq_some_iff.mp hx).1;have sz:vs.toArray.size=xs.length:=by simp[l]
  refine⟨"tuple",_,hl.typeIs,slot_tuple_getitem.lookup,?_⟩;exact PyProof.Rows.getItem_tuple hl (by exact ag 0 1 (aa (ai aJ aq) (ai (cI (zk (2 ^ 63))) aq)) (by kd_p) h0) (by exact ag 3 1 (aa (ak au (nk (2 ^ 62))) (aa (ax au af) (aa (ak (dB aq) au) (aa (ax ab au) (aK aq (zk (2 ^ 63))))))) (by kd_p) jv l bA sz) (j:=i.toNat) (by
   unfold seqIndex?;rw[sz];simp only[];rw[if_neg (by exact ag 0 1 (aa (ai aJ aq) (dJ (aK aq aJ))) (by kd_p) h0:¬ i<0)]
   rw[if_pos (by simp;exact ag 3 1 (aa (ai aJ aq) (aa (ak au (nk (2 ^ 62))) (aa (ax au af) (aa (ak (dB aq) au) (aa (ax ab au) (aT (ai aJ aq) (aK aq (az au)))))))) (by kd_p) h0 jv l bA sz)]) (by simpa using hu) (PV.bQ I r q)
noncomputable def pick{τ:Type}(xs:List τ)(lo hi st:Option Int):List τ:=
 (sliceRange (sliceBounds lo hi st xs.length).1 (sliceBounds lo hi st xs.length).2.1 (sliceBounds lo hi st xs.length).2.2).filterMap (xs[·]?)
theorem vE(vs:List Value)(lo hi st:Option Int):slicePick vs.toArray lo hi st=(pick vs lo hi st).toArray:=by
 unfold slicePick pick;simp
theorem aB.Hx{B:ay}{Z:List Addr}{xs:List V}{vs:List Value}(h:aB B Z xs vs):∀is:List Nat,aB B Z (is.filterMap (xs[·]?)) (is.filterMap (vs[·]?))
 |[]=>.nil
 |i::is=>by
  rw[List.filterMap_cons,List.filterMap_cons]
  by_cases hi:i<xs.length
  ·have Eg:i<vs.length:=h.1▸hi
   rw[List.getElem?_eq_getElem hi,List.getElem?_eq_getElem Eg];exact .cons (h.2 i _ _ (List.getElem?_eq_getElem hi) (List.getElem?_eq_getElem Eg)) (h.Hx is)
  ·have Eg:¬ i<vs.length:=h.1▸hi
   rw[List.getElem?_eq_none (by exact Pw hi),List.getElem?_eq_none (by exact Pw Eg)]
   exact h.Hx is
theorem aB.pick{B:ay}{Z:List Addr}{xs:List V}{vs:List Value}(h:aB B Z xs vs)(lo hi st:Option Int):aB B Z (pick xs lo hi st) (bg.pick vs lo hi st):=by
 unfold bg.pick;rw[←h.1];exact h.Hx _
noncomputable def dO(x:Str)(lo hi:Option Int):Str:=
 let is:=Builtin.Str.strSliceIndices lo hi 1 x.length
 if is.length==x.length then x else⟨(is.filterMap (x.cps[·]?)).toArray⟩
noncomputable def jw:Option Int→V
 |none=>.none
 |some i=>.int i
theorem VR.part{B:ay}{Z:List Addr}{v:Value}{p:Option Int}(h:VR B Z (jw p) v):IsPart v p∧∃q:Option (Int×Tok),v=partValue q∧q.map (·.1)=p:=by
 cases p with
 |none=>cases h;exact⟨IsPart.none,Option.none,rfl,rfl⟩
 |some i=>cases h;exact⟨IsPart.int _ _,Option.some (_,_),rfl,rfl⟩
variable (G)
def jx(n:Nat)(v:V)(lo hi st:Option Int)(O:Mu)(Q:V→Mu→Prop):Prop:=
 ∀A,bY n A→∀B Z s x l u st' sl,Inv G B Z O s.heap→VR B Z v x→VR B Z (jw lo) l→VR B Z (jw hi) u→VR B Z (jw st) st'→s.heap.get? sl=some {cls:=.type "slice",data:=.fields #[l,u,st']}→
  ∃T id,s.TypeIs x T∧typeLookup (.type T) "__getitem__"=pure (some (.builtin id))∧wpAny (model G.prog G.w) A (getItem x (.ref sl)) (PV G B Z s Q) bM s
variable {G}
theorem Hy{value:Expr}{lower upper step:Option Expr}{p pos:Pos}
  (h:bz G n env (eval value env) U O fun v aA=>bz G n env (evalPart lower env) U aA fun l aZ=>bz G n env (evalPart upper env) U aZ fun u dN=>bz G n env (evalPart step env) U dN fun st oB=>
   ∃lo hi s,l=jw lo∧u=jw hi∧st=jw s∧jx G n v lo hi s oB Q):bz G n env (eval (.Subscript value (.Slice lower upper step p) pos) env) U O Q:=by
 intro A hA B Z s I F;rw[eval_Subscript];refine wpAny_bind (wpAny_mono (h A hA B Z s I F) ?_ fun zz zz x=>x);rintro x s1 ⟨v,aA,B1,aE,h1,P1,r1⟩;have F1:=F.same P1;refine wpAny_bind (wpAny_holding (wpAny_Slice (wpAny_mono (h1 A hA B1 aE s1 P1.inv F1) ?_ fun zz zz x=>x)));rintro l s2 ⟨lv,aZ,B2,aV,h2,P2,r2⟩;have F2:=F1.same P2;refine wpAny_mono (h2 A hA B2 aV s2 P2.inv F2) ?_ fun zz zz x=>x;rintro u s3 ⟨uv,dN,B3,dK,h3,P3,r3⟩;have F3:=F2.same P3;refine wpAny_mono (h3 A hA B3 dK s3 P3.inv F3) ?_ fun zz zz x=>x;rintro st s4 ⟨sv,oB,B4,fz,⟨lo,hi,so,rfl,rfl,rfl,h4⟩,P4,r4⟩;refine wpAny_bind (wpAny_standAt ?_);have P5:aG G [] B4 fz s4 B4 fz oB {s4 with heap:=s4.heap.push {cls:=.type "slice",data:=.fields #[l,u,st]}}:=P4.inv.kz (t:=s4.toks) (bN _ _) (fun zz m=>nomatch m)
 refine oy (h4 A hA B4 fz {s4 with heap:=s4.heap.push {cls:=.type "slice",data:=.fields #[l,u,st]}} x l u st s4.heap.objs.size P5.inv (((r1.mono P2.le P2.pre).mono P3.le P3.pre).mono P4.le P4.pre) ((r2.mono P3.le P3.pre).mono P4.le P4.pre) (r3.mono P4.le P4.pre) r4 (Heap.get?_push_size _ rfl)) ?_;intro T id hT hl hg
 have hs:∃ops,subscripted (.Slice lower upper step p) false x (.ref s4.heap.objs.size)=operate ops (getItem x (.ref s4.heap.objs.size)):=by
  cases step with
  |none=>exact⟨_,rfl⟩
  |some e=>exact⟨_,rfl⟩
 obtain⟨ops,hs⟩:=hs;exact wpAny_mono (tU hT hl hs (fun e=>by cases e;exact hg) rfl) (fun z s6 h6=>PV.after P1 (PV.after P2 (PV.after P3 (PV.after P4 (PV.after P5 h6))))) fun zz zz x=>x
theorem Hz{xs:List V}{lo hi st:Option Int}(h0:st≠some 0)(bG:xs.length≤sizeLine)(q:Q (.list (pick xs lo hi st)) O):jx G n (.list xs) lo hi st O Q:=by
 intro A hA B Z s x l u st' sl I hv hl hu hs zl;cases hv with
 |list e len h9=>
  rename_i a vs k;have hL:s.heap.IsList a vs.toArray:=⟨_,I.holds _ _ e,rfl,k,rfl⟩;refine⟨"list",_,hL.typeIs,list_getitem_lookup,?_⟩;refine wpAny_getItem_list_slice hL ⟨_,zl,rfl,rfl⟩ hl.part.1 hu.part.1 hs.part.1 h0 ?_ (by simp[←len];exact bG)
  rw[vE];have r:=(aB.pick (⟨len,h9⟩:aB B Z xs vs) lo hi st);have P:=I.push (o:=lobj (bg.pick vs lo hi st) 0) (t:=s.toks) rfl;exact⟨_,_,_,_,q,P,.newList (ay.dc ..) (r.mono P.le P.pre)⟩
theorem Lg{x:Str}{lo hi:Option Int}(bG:(dO x lo hi).length≤sizeLine)(q:Q (.str (dO x lo hi)) O):jx G n (.str x) lo hi none O Q:=by
 intro A hA B Z s x' l u st' sl I hv hl hu hs zl;cases hv with
 |str=>
  rename_i t;refine aW hl.part.2 ?_;intro ql z1;subst z1;intro z2;subst z2;refine aW hu.part.2 ?_;intro qu z1;subst z1;intro z2;subst z2;refine aW hs.part.2 ?_;intro qs z1;subst z1;intro hq;cases qs with
  |some p=>cases hq
  |none=>
   refine⟨"str",_,typeIs_str _ x t,F.slot_str_getitem.lookup,?_⟩;refine wpAny_getItem_str_slice (l:=ql) (u:=qu) (st:=Option.none) ⟨_,zl,rfl,rfl⟩ rfl ?_;unfold sliceMade slicePicked;unfold dO at q bG;simp only[Option.map_none,Option.getD_none]at *;split
   ·rename_i hc
    rw[if_pos (by simpa using hc)]at q
    exact PV.bQ I .str q
   ·rename_i hc
    rw[if_neg (by simpa using hc)]at q bG
    exact⟨bG,PV.here I .str q⟩
end
end
section
variable (G)
def fV(f:Value)(h:Heap):Prop:=∃k,(k=Keeper.frame∨k=Keeper.machine∨k=Keeper.boundFrame)∧Looks (model G.prog G.w) h (keeperOf f) k
def bD(n:Nat)(f:V)(vs:List V)(kw:List (Str×V))(O:Mu)(Q:V→Mu→Prop):Prop:=
 ∀A,bY n A→∀B Z s fx xs ks,Inv G B Z O s.heap→VR B Z f fx→aB B Z vs xs→aB B Z (kw.map (·.2)) ks→
  fV G fx s.heap∧wpAny (model G.prog G.w) A (call fx xs ((kw.map (·.1)).zip ks)) (PV G B Z s Q) bM s
variable {G}
theorem bD.machine{n:Nat}{f:Value}{vs:List V}{kw:List (Str×V)}{O:Mu}{Q:V→Mu→Prop}(hf:∀a,f≠.ref a)(h:aU G n f vs kw O Q):bD G n (.raw f) vs kw O Q:=by
 intro A hA B Z s fx xs ks I rf rv rk;refine VR.j2 rf ?_;refine⟨⟨.machine,.inr (.inl rfl),Looks.of_pure ?_⟩,h A hA B Z s xs ks I rv rk⟩;unfold keeperOf;cases f<;>first|rfl|exact absurd rfl (hf _)
theorem bD.K{n:Nat}{f:Value}{vs:List V}{kw:List (Str×V)}{O:Mu}{Q:V→Mu→Prop}(hf:keepIn G.K f=true)(h:aU G n f vs kw O Q):bD G n (.raw f) vs kw O Q:=by
 intro A hA B Z s fx xs ks I rf rv rk;refine VR.j2 rf ?_;exact⟨keeps_K hf _ I.jV,h A hA B Z s xs ks I rv rk⟩
theorem aU.deeper{n m:Nat}{f:Value}{vs:List V}{kw:List (Str×V)}{O:Mu}{Q:V→Mu→Prop}(h:aU G n f vs kw O Q)(hm:n≤m):aU G m f vs kw O Q:=
 fun A hA=>h A (hA.le hm)
theorem qo(pos:Pos)(env:Env):∀kws:List Keyword,(backToKw pos (keywordEach kws env)).filterMap (·.1)=kws.filterMap (·.arg)
 |[]=>rfl
 |⟨.none,v,p⟩::r=>qo pos env r
 |⟨.some n,v,p⟩::r=>congrArg (n :: ·) (qo pos env r)
theorem Df(pos:Pos)(env:Env):∀kws:List Keyword,kws.all (·.arg.isSome)=true→(backToKw pos (keywordEach kws env)).all (·.1.isSome)=true
 |[],_=>rfl
 |⟨_,v,p⟩::r,h=>by
  simp only[List.all_cons,Bool.and_eq_true]at h;show(_&&(backToKw pos (keywordEach r env)).all (·.1.isSome))=true
  rw[Df pos env r h.2];simp[h.1]
theorem nu(pos:Pos)(env:Env):∀kws:List Keyword,kws.all (·.arg.isSome)=true→(backToKw pos (keywordEach kws env)).any (·.1.isNone)=false
 |[],_=>rfl
 |⟨a,v,p⟩::r,h=>by
  simp only[List.all_cons,Bool.and_eq_true]at h;show(_||(backToKw pos (keywordEach r env)).any (·.1.isNone))=false
  rw[nu pos env r h.2];cases a with
  |none=>cases h.1
  |some=>rfl
def eJ(args:List Expr)(env:Env):Prop:=starEach args env=args.map fun e=>(false,eval e env)
theorem plain_any{args:List Expr}{env:Env}{pos:Pos}(h:eJ args env):(backTo pos (starEach args env)).any (·.1)=false:=by
 rw[h];unfold backTo;simp
theorem iE{M:Model}{A:Around}{E:Value→Shared→Prop}{s:Shared}{f:Value}{pos:Pos}{env:Env}{args:List Expr}{kws:List Keyword}{Q:Args→Shared→Prop}(hp:eJ args env)(hk:kws.all (·.arg.isSome)=true)
  (h:wpAny M A (spliced (backTo pos (starEach args env))) (fun vs s1=>wpAny M A (evalAll ((backToKw pos (keywordEach kws env)).map (·.2))) (fun ks s2=>Q ⟨vs,(kws.filterMap (·.arg)).zip ks⟩ s2) E s1) E s):
  wpAny M A (evalArgs f true (backTo pos (starEach args env)) (backToKw pos (keywordEach kws env))) Q E s:=by
 have lZ:=Df pos env kws hk;rw[hp]at h ⊢;have fin:∀ (t:Sem (List Value)),wpAny M A t (fun vs s1=>wpAny M A (evalAll ((backToKw pos (keywordEach kws env)).map (·.2))) (fun ks s2=>Q ⟨vs,(kws.filterMap (·.arg)).zip ks⟩ s2) E s1) E s→
   wpAny M A (t >>= fun vs=>holding (vs++[]) (do
    let kw:=((backToKw pos (keywordEach kws env)).filterMap (·.1)).zip (←evalAll ((backToKw pos (keywordEach kws env)).map (·.2)))
    return⟨vs,kw⟩)) Q E s:=by
  intro t ht;refine wpAny_bind (wpAny_mono ht (fun vs s1 h1=>wpAny_holding ?_) fun zz zz x=>x);rw[qo];exact wpAny_bind (wpAny_mono h1 (fun ks s2 h2=>wpAny_pure h2) fun zz zz x=>x)
 cases args with
 |nil=>
  have:=fin (spliced []) h;unfold evalArgs;simp only[lZ,if_true];exact this
 |cons e r=>
  have:=fin _ h;unfold evalArgs;simp only[lZ,if_true];exact this
section
variable{n:Nat}{env:Env}{U:aw}{O:Mu}{Q:V→Mu→Prop}
theorem A1{pos:Pos}{R:List V→Mu→Prop}(q:R [] O):e7 G n env (evalAll ((backToKw pos (keywordEach [] env)).map (·.2))) U O R:=
 fun A hA B Z s I F=>kwAll_nil ⟨[],O,B,Z,q,aG.refl I (fun zz m=>nomatch m),.nil⟩
theorem Dg{name:Str}{e:Expr}{p:Pos}{rest:List Keyword}{pos:Pos}{R:List V→Mu→Prop}
  (h:bz G n env (eval e env) U O fun v aA=>e7 G n env (evalAll ((backToKw pos (keywordEach rest env)).map (·.2))) U aA fun vs aZ=>R (v::vs) aZ):
  e7 G n env (evalAll ((backToKw pos (keywordEach (⟨some name,e,p⟩::rest) env)).map (·.2))) U O R:=by
 intro A hA B Z s I F;refine kwAll_cons (wpAny_mono (h A hA B Z s I F) ?_ fun zz zz x=>x);rintro x s1 ⟨v,aA,B1,aE,h1,P1,r1⟩;refine wpAny_mono (h1 A hA B1 aE s1 P1.inv (F.keep P1 (by simp) (fun zz zz zz=>by simp))) ?_ fun zz zz x=>x
 rintro xs s2 ⟨vs,aZ,B2,aV,h2,P2,r2⟩;exact⟨v::vs,aZ,B2,aV,h2,P1.trans P2,.cons (r1.mono P2.le P2.pre) r2⟩
theorem xU{f:Expr}{args:List Expr}{kws:List Keyword}{pos:Pos}(he:eval (.Call f args kws pos) env=(do callWith pos (←eval f env) [] (backTo pos (starEach args env)) (backToKw pos (keywordEach kws env))))
  (hp:eJ args env)(hk:kws.all (·.arg.isSome)=true)
  (h:bz G n env (eval f env) U O fun fv aA=>e7 G n env (spliced (backTo pos (starEach args env))) U aA fun vs aZ=>e7 G n env (evalAll ((backToKw pos (keywordEach kws env)).map (·.2))) U aZ fun ks dN=>
   ∃kw:List (Str×V),kw.map (·.1)=kws.filterMap (·.arg)∧kw.map (·.2)=ks∧bD G n fv vs kw dN Q):
  bz G n env (eval (.Call f args kws pos) env) U O Q:=by
 intro A hA B Z s I F;rw[he];refine wpAny_bind (wpAny_mono (h A hA B Z s I F) ?_ fun zz zz x=>x);rintro fx s1 ⟨fv,aA,B1,aE,h1,P1,r1⟩;have F1:=F.same P1;refine callWith_of (P:=fV G fx) (by rw[plain_any hp,nu _ _ _ hk];rfl) (fun zz x=>x) (iE hp hk ?_)
 refine wpAny_mono (h1 A hA B1 aE s1 P1.inv F1) ?_ fun zz zz x=>x;rintro xs s2 ⟨vs,aZ,B2,aV,h2,P2,r2⟩;have F2:=F1.same P2;refine wpAny_mono (h2 A hA B2 aV s2 P2.inv F2) ?_ fun zz zz x=>x;rintro ks s3 ⟨us,dN,B3,dK,⟨kw,e1,e2,h3⟩,P3,r3⟩;obtain⟨a,b⟩:=h3 A hA B3 dK s3 fx xs ks P3.inv ((r1.mono P2.le P2.pre).mono P3.le P3.pre) (r2.mono P3.le P3.pre) (e2▸r3);refine⟨a,?_⟩;rw[List.nil_append,←e1];exact wpAny_mono b (fun z s6 h6=>PV.after P1 (PV.after P2 (PV.after P3 h6))) fun zz zz x=>x
variable (G)
variable {G}
end
end
section
variable (G)
def xV(v:V)(O:Mu)(xs:List V):Prop:=
 ∀A,A.handled=none→∀B Z s u (Q:List Value→Shared→Prop) (E:Value→Shared→Prop),Inv G B Z O s.heap→VR B Z v u→
  (∀h' items,(∀b o,s.heap.get? b=some o→h'.get? b=some o)→aB B Z xs items→Q items {s with heap:=h'})→wpAny (model G.prog G.w) A (unpackItems u xs.length none) Q E s
variable {G}
theorem tV{h h':Heap}(x:Heap.ExtBut h.objs.size h h'):∀b o,h.get? b=some o→h'.get? b=some o:=fun b o e=>x b o (Nat.ne_of_lt (Heap.lt_size e)) e
theorem xV.list{xs:List V}{O:Mu}:xV G (.list xs) O xs:=by
 intro A hA B Z s u Q E I r hQ;cases r with
 |list e l h9=>
  rename_i a vs k;have hl:s.heap.IsList a vs.toArray:=⟨_,I.holds _ _ e,rfl,k,rfl⟩;rw[show xs.length=vs.toArray.size by simp[l]]
  exact kun_itemsOf hA hl fun h' hx=>hQ h' _ (tV hx) ⟨l,h9⟩
theorem xV.tuple{xs:List V}{O:Mu}:xV G (.tuple xs) O xs:=by
 intro A hA B Z s u Q E I r hQ;cases r with
 |tuple e l h9=>
  rename_i a vs k;have hl:IsTup s.heap a vs.toArray:=⟨_,I.holds _ _ e,rfl,k,rfl⟩;rw[show xs.length=vs.toArray.size by simp[l]]
  exact unpackItems_tuple hA hl fun h' hx=>hQ h' _ (tV hx) ⟨l,h9⟩
section
variable{n:Nat}{env:Env}{own:List Nat}{U:aw}{O:Mu}{Q:Fl→aw→Mu→Prop}
variable (G)
def xW(n:Nat)(v i u:V)(O:Mu)(Q:Mu→Prop):Prop:=
 ∀A,bY n A→∀B Z s x y z,Inv G B Z O s.heap→VR B Z v x→VR B Z i y→VR B Z u z→
  wpAny (model G.prog G.w) A (setItem x y z) (fun zz s'=>∃ar B' aH,Q ar∧aG G [] B Z s B' aH ar s') bM s
variable {G}
theorem HA{A:Around}{s:Shared}{l:Addr}{vs:List Value}{m:Nat}{k:Int}{t:Tok}{v:Value}{Q:Unit→Shared→Prop}{E:Value→Shared→Prop}(g:s.heap.get? l=some (lobj vs m))(h0:0≤k)(jv:k<2 ^ 63)(hn:k<vs.length)
  (hQ:∀h' m',h'.get? l=some (lobj (vs.set k.toNat v) m')→Heap.SameBut l s.heap h'→Q () {s with heap:=h'}):wpAny (model G.prog G.w) A (setItem (.ref l) (.int k t) v) Q E s:=by
 have hl:s.heap.IsList l vs.toArray:=⟨_,g,rfl,m,rfl⟩;have fin:∀j,k.toNat=j→wpAny (model G.prog G.w) A.in1 (setSeqItemAt l j v) (fun zz=>Q ()) (fun zz zz=>False) s:=by
  rintro j rfl;refine wpAny_setSeqItemAt g rfl (hQ _ (if(vs.toArray.setIfInBounds k.toNat v).size==vs.toArray.size then m else m+1) ?_ (Heap.SameBut.update ..))
  have:=IsL.update (h:=s.heap) (l:=l) g (·.setIfInBounds k.toNat v)
  rw[show vs.toArray.setIfInBounds k.toNat v=(vs.set k.toNat v).toArray by simp]at this
  rw[show vs.toArray.setIfInBounds k.toNat v=(vs.set k.toNat v).toArray by simp]
  exact this
 unfold setItem;refine wpAny_holding ?_;refine wpAny_bind (wpAny_sequenceKey hl.typeIs (by decide) ?_)
 refine wpAny_bind (wpAny_callSpecial?_slot (name:=Str.ofString "__setitem__") hl.typeIs slot_list_setitem
  (wpAny_call_entry slot_list_setitem hl.typeIs entry_list_setitem ?_ (args_list_setitem _ _ _)))
 show wpAny _ _ (Builtin.List.listSubscript? (.int k t) >>= _) _ _ s;refine wpAny_bind (wpAny_listSubscript_int (fitsIndex_of h0 jv) ?_);clear jv hQ;obtain⟨j,rfl⟩:=Int.eq_ofNat_of_zero_le h0;have hj:j<vs.toArray.size:=by simp;exact ag 2 0 (aa (aK (az af) (az ab)) (ak af ab)) (by kd_p) hn
 have fin:=fin j rfl;show wpAny _ _ ((seqItemAt l j >>= fun r=>pure (r.map (j,·))) >>= _) _ _ s
 refine wpAny_bind (wpAny_bind (wpAny_seqItemAt g rfl (wpAny_pure ?_)));rw[Array.getElem?_eq_getElem hj];show wpAny _ _ (setSeqItemAt l j v >>= _) _ _ s;refine wpAny_bind (wpAny_mono fin (fun zz s' q=>?_) fun zz zz x=>x.elim);first
  |exact wpAny_bind (wpAny_pure (wpAny_pure ⟨.none,rfl,wpAny_pure q⟩))
  |exact wpAny_pure ⟨.none,rfl,wpAny_pure q⟩
theorem Lh{xs:List V}{j:Nat}{i:Int}{u:V}{Q:Mu→Prop}(hj:O[j]?=some (some xs))(h0:0≤i)(h1:i<xs.length)(jv:xs.length<2 ^ 62)(hc:Cl u)(q:Q (O.set j (some (xs.set i.toNat u)))):xW G n (.ml j) (.int i) u O Q:=by
 intro A hA B Z s x y z I hv hi hu;refine VR.bC hi ?_;intro _;rename_i t;cases hv with
 |ml e=>
  rename_i a;refine ew (I.ml j a xs e hj) ?_;intro _ vs k g r;have hl:s.heap.IsList a vs.toArray:=⟨_,g,rfl,k,rfl⟩;have sz:vs.toArray.size=xs.length:=by simp[r.1]
  refine HA g h0 (by exact ag 2 1 (aa (aK aq (az af)) (aa (ak af (nk (2 ^ 62))) (aa (ax ab af) (aK aq (zk (2 ^ 63)))))) (by kd_p) h1 jv sz) (by rw[←r.1];exact h1) fun h' k' e' hs=>?_
  have P:=I.xK (t:=s.toks) e hj (r.set (hu.clean hc []) i.toNat) (n:=k') e' hs;exact⟨_,_,_,q,P⟩
theorem QA{o i:Expr}{pos:Pos}{v:V}{R:aw→Mu→Prop}(h:bz G n env (eval o env) U O fun ov aA=>bz G n env (eval i env) U aA fun iv aZ=>xW G n ov iv v aZ (R U)):
  gF G n env own (assign (.Subscript o i pos) env) v U O R:=by
 intro A hA B Z s u I F r;rw[assign_Subscript];refine wpAny_bind (wpAny_holding (wpAny_mono (h A hA B Z s I F) ?_ fun zz zz x=>x));rintro x s1 ⟨ov,aA,B1,aE,bf,P1,r1⟩;have F1:=F.same P1;refine wpAny_bind (wpAny_holding (wpAny_mono (bf A hA B1 aE s1 P1.inv F1) ?_ fun zz zz x=>x));rintro y s2 ⟨iv,aZ,B2,aV,h2,P2,r2⟩;have F2:=F1.same P2;refine wpAny_bind (wpAny_standAt (wpAny_bind (wpAny_holding (wpAny_mono (h2 A hA B2 aV s2 x y u P2.inv (r1.mono P2.le P2.pre) r2 ((r.mono P1.le P1.pre).mono P2.le P2.pre)) ?_ fun zz zz x=>x))));rintro zz s3 ⟨dN,B3,dK,q,P3⟩;exact wpAny_release ⟨U,dN,B3,dK,q,((P1.trans P2).trans P3).wide F,F2.same P3⟩
variable (G)
noncomputable def qp(n:Nat)(env:Env)(own:List Nat):List Expr→List V→aw→Mu→(aw→Mu→Prop)→Prop
 |[],[],U,O,R=>R U O
 |t::ts,v::vs,U,O,R=>gF G n env own (assign t env) v U O fun ao ar=>qp n env own ts vs ao ar R
 |_,_,_,_,_=>False
noncomputable def HB(n:Nat)(env:Env)(own:List Nat):List Expr→V→aw→Mu→(aw→Mu→Prop)→Prop
 |[],v,U,O,R=>R U O
 |t::ts,v,U,O,R=>gF G n env own (assign t env) v U O fun ao ar=>HB n env own ts v ao ar R
variable {G}
theorem rj:∀ {ts:List Expr} {vs:List V} {U:aw} {O:Mu} {R:aw→Mu→Prop},qp G n env own ts vs U O R→∀A,bY n A→∀B Z s xs,Inv G B Z O s.heap→bt G env B Z U s.heap→aB B Z vs xs→
  wpAny (model G.prog G.w) A (assignInOrder (ts.map fun t=>assign t env) xs) (PA G env own B Z s R) bM s
 |[],[],U,O,R,h,A,hA,B,Z,s,xs,I,F,r=>wpAny_pure ⟨U,O,B,Z,h,aG.refl I F.bL,F⟩
 |t::ts,v::vs,U,O,R,h,A,hA,B,Z,s,xs,I,F,r=>by
  refine aB.aO r ?_;intro x us rx ru;show wpAny _ _ (do holding us (assign t env x);assignInOrder (ts.map fun t=>assign t env) us) _ _ _
  refine wpAny_bind (wpAny_holding (wpAny_mono (h A hA B Z s x I F rx) ?_ fun zz zz x=>x));rintro zz s1 ⟨a9,aA,B1,aE,bf,P1,F1⟩;refine wpAny_mono (rj bf A hA B1 aE s1 us P1.inv F1 (ru.mono P1.le P1.pre)) ?_ fun zz zz x=>x;rintro zz s2 ⟨b9,aZ,B2,aV,h2,P2,F2⟩;exact⟨b9,aZ,B2,aV,h2,P1.trans P2,F2⟩
 |[],_::_,_,_,_,h,_,_,_,_,_,_,_,_,_=>h.elim
 |_::_,[],_,_,_,h,_,_,_,_,_,_,_,_,_=>h.elim
theorem Dh:∀ {ts:List Expr} {v:V} {U:aw} {O:Mu} {R:aw→Mu→Prop},HB G n env own ts v U O R→∀A,bY n A→∀B Z s x,Inv G B Z O s.heap→bt G env B Z U s.heap→VR B Z v x→
  wpAny (model G.prog G.w) A (assignAll x (ts.map fun t=>assign t env)) (PA G env own B Z s R) bM s
 |[],v,U,O,R,h,A,hA,B,Z,s,x,I,F,r=>wpAny_pure ⟨U,O,B,Z,h,aG.refl I F.bL,F⟩
 |[t],v,U,O,R,h,A,hA,B,Z,s,x,I,F,r=>h A hA B Z s x I F r
 |t::t'::ts,v,U,O,R,h,A,hA,B,Z,s,x,I,F,r=>by
  show wpAny _ _ (do holding [x] (assign t env x);assignAll x ((t'::ts).map fun t=>assign t env)) _ _ _
  refine wpAny_bind (wpAny_holding (wpAny_mono (h A hA B Z s x I F r) ?_ fun zz zz x=>x));rintro zz s1 ⟨a9,aA,B1,aE,bf,P1,F1⟩;refine wpAny_mono (Dh (ts:=t'::ts) bf A hA B1 aE s1 x P1.inv F1 (r.mono P1.le P1.pre)) ?_ fun zz zz x=>x;rintro zz s2 ⟨b9,aZ,B2,aV,h2,P2,F2⟩;exact⟨b9,aZ,B2,aV,h2,P1.trans P2,F2⟩
def jy(ts:List Expr)(env:Env):Prop:=assignEach ts env=ts.map fun t=>(false,assign t env)
theorem jy.snd{ts:List Expr}{env:Env}(h:jy ts env):(assignEach ts env).map (·.2)=ts.map fun t=>assign t env:=by rw[h];simp
theorem n7:∀ts:List Expr,(ts.map fun t=>(false,assign t env)).findIdx? (·.1)=none
 |[]=>rfl
 |t::ts=>by rw[List.map_cons,List.findIdx?_cons];simp[n7 ts]
theorem HC{ts:List Expr}{k:Nat}{pos:Pos}{v:V}{vs:List V}{R:aw→Mu→Prop}(hp:jy ts env)(hu:xV G v O vs)(hl:vs.length=ts.length)(h:qp G n env own ts vs U O R):
  gF G n env own (assign (.Tuple ts k pos) env) v U O R:=by
 intro A hA B Z s u I F r;rw[assign_Tuple];refine wpAny_bind (wpAny_standAt ?_);unfold unpack;rw[hp.snd,hp,n7,List.length_map,←hl];refine wpAny_bind (wpAny_holding (hu A hA.handled B Z s u _ _ I r fun h' items hk ri=>?_));have P:aG G (fa G env own) B Z s B Z O {s with heap:=h'}:=I.kz (t:=s.toks) hk F.bL
 refine wpAny_mono (rj h A hA B Z {s with heap:=h'} items P.inv (F.same (I.kz (t:=s.toks) hk (fun zz m=>nomatch m))) ri) ?_ fun zz zz x=>x
 rintro zz s2 ⟨b9,aZ,B2,aV,h2,P2,F2⟩;exact⟨b9,aZ,B2,aV,h2,P.trans P2,F2⟩
theorem xX{ts:List Expr}{e:Expr}{pos:Pos}(hp:jy ts env)(hs:swapsWithSole ts e pos.line env=pure false)(hw:swappedStores ts e env=pure none)
  (h:bz G n env (eval e env) U O fun v aA=>HB G n env own ts v U aA (Q .next)):cn G n env own (exec (.Assign ts e pos) env) U O Q:=by
 intro A hA B Z s I F;refine wpAny_Assign_stores (wpAny_mono (h A hA B Z s I F) ?_ fun zz zz x=>x) hs hw;rintro x s1 ⟨v,aA,B1,aE,bf,P1,r1⟩;rw[hp.snd];refine wpAny_mono (Dh bf A hA B1 aE s1 x P1.inv (F.same P1) r1) ?_ fun zz zz x=>x;rintro zz s2 ⟨b9,aZ,B2,aV,h2,P2,F2⟩;exact⟨.next,b9,aZ,B2,aV,h2,(P1.wide F).trans P2,F2,.next⟩
theorem l0{A:Around}{B:ay}{Z:List Addr}{O:Mu}:∀ {xs:List Nat} {vs:List V} {U:aw} {s:Shared} {us:List Value} {Q:Unit→Shared→Prop} {E:Value→Shared→Prop},(∀x∈xs,nV G env own x)→xs.length=vs.length→Inv G B Z O s.heap→bt G env B Z U s.heap→aB B Z vs us→
  (∀h' tk,bt G env B Z (bc U (xs.zip vs)) h'→aG G (fa G env own) B Z s B Z O {s with heap:=h',toks:=tk}→Q () {s with heap:=h',toks:=tk})→
  wpAny (model G.prog G.w) A (assignInOrder (xs.map fun x=>bindName env (G.nm x)) us) Q E s
 |[],[],U,s,us,Q,E,hk,hl,I,F,r,hQ=>wpAny_pure (hQ s.heap s.toks F (aG.refl I F.bL))
 |x::xs,v::vs,U,s,us,Q,E,hk,hl,I,F,r,hQ=>by
  refine aB.aO r ?_;intro u us rx ru;show wpAny _ _ (do holding us (bindName env (G.nm x) u);assignInOrder (xs.map fun x=>bindName env (G.nm x)) us) _ _ _
  have hx:=hk x (.head _);refine wpAny_bind (wpAny_holding (wpAny_bindName (gv hx.1 hx.2 I F rx fun h' tk F' P=>?_)));exact l0 (fun y hy=>hk y (.tail _ hy)) (by simpa using hl) P.inv F' ru fun kB YA Hg P'=>hQ kB YA Hg (P.trans P')
 |[],_::_,_,_,_,_,_,_,hl,_,_,_,_=>by simp at hl
 |_::_,[],_,_,_,_,_,_,hl,_,_,_,_=>by simp at hl
theorem HD{ts:List Expr}{k:Nat}{e:Expr}{HE pos:Pos}{xs:List Nat}(hk:∀x∈xs,nV G env own x)(hs:swapsWithSole [.Tuple ts k HE] e pos.line env=pure false)(hw:swappedStores [.Tuple ts k HE] e env=pure (some (xs.map G.nm)))
  (h:bz G n env (eval e env) U O fun v aA=>∃vs,xV G v aA vs∧vs.length=xs.length∧Q .next (bc U (xs.reverse.zip vs.reverse)) aA):cn G n env own (exec (.Assign [.Tuple ts k HE] e pos) env) U O Q:=by
 intro A hA B Z s I F;refine Assign_Tuple_swapped (wpAny_mono (h A hA B Z s I F) ?_ fun zz zz x=>x) hs hw;rintro x s1 ⟨v,aA,B1,aE,⟨vs,hu,hl,q⟩,P1,r1⟩;rw[List.length_map,←hl];refine hu A hA.handled B1 aE s1 x _ _ P1.inv r1 fun h' items gL ri=>?_;have F1:=F.same P1;have P2:aG G (fa G env own) B1 aE s1 B1 aE aA {s1 with heap:=h'}:=P1.inv.kz (t:=s1.toks) gL F1.bL
 have F2:=F1.same (P1.inv.kz (t:=s1.toks) gL (fun zz m=>nomatch m));have e1:((xs.map G.nm).reverse.map fun n=>bindName env n)=xs.reverse.map fun x=>bindName env (G.nm x):=by simp
 rw[e1];refine l0 (fun y hy=>hk y (by simpa using hy)) (by simp[hl]) P2.inv F2 ri.reverse fun kB tk F' P'=>?_
 exact⟨.next,_,aA,B1,aE,q,((P1.wide F).trans P2).trans P',F',.next⟩
end
end
open PySem PySem.Spec PySem.Calls PyProof.Rows PySem.W PySem.SeqAt
theorem resolve{B:ay}{Z:List Addr}{O:Mu}{h:Heap}{i:Nat}{xs:List V}{x:Value}(I:Inv G B Z O h)(hi:O[i]?=some (some xs))(r:VR B Z (.ml i) x):∃a vs n,x=.ref a∧h.get? a=some (lobj vs n)∧aB B [] xs vs∧Z[i]?=some a:=by
 cases r with
 |ml e=>refine ew (I.ml i _ xs e hi) ?_;intro zz vs n g r;exact⟨_,vs,n,rfl,g,r,e⟩
theorem held{B:ay}{Z:List Addr}{O:Mu}{h:Heap}{xs:List V}{x:Value}(I:Inv G B Z O h)(r:VR B Z (.list xs) x):∃a vs n,x=.ref a∧h.get? a=some (lobj vs n)∧aB B Z xs vs∧B a=some (lobj vs n):=by
 cases r with
 |list e l h9=>exact⟨_,_,_,rfl,I.holds _ _ e,⟨l,h9⟩,e⟩
theorem qq{B:ay}{Z:List Addr}{O:Mu}{h:Heap}{xs:List V}{x:Value}(I:Inv G B Z O h)(r:VR B Z (.tuple xs) x):∃a vs n,x=.ref a∧h.get? a=some (gY vs n)∧aB B Z xs vs∧B a=some (gY vs n):=by
 cases r with
 |tuple e l h9=>exact⟨_,_,_,rfl,I.holds _ _ e,⟨l,h9⟩,e⟩
theorem zm{A:Around}{s:Shared}{a b:Addr}{vs us:List Value}{k m:Nat}{Q:Value→Shared→Prop}{E:Value→Shared→Prop}(h1:s.heap.get? a=some (lobj vs k))(h2:s.heap.get? b=some (lobj us m))(bG:vs.length+us.length≤sizeLine)
  (h:Q (.ref s.heap.objs.size) {s with heap:=s.heap.push (lobj (vs++us) 0)}):wpAny (model G.prog G.w) A (binaryOp .Add (.ref a) (.ref b)) Q E s:=by
 refine P.add_list (items:=vs.toArray) (items2:=us.toArray) h1 h2 ?_ (by simpa using bG)
 rw[show vs.toArray++us.toArray=(vs++us).toArray by simp]
 exact h
noncomputable def times{τ:Type}(xs:List τ)(k:Int):List τ:=(List.replicate k.toNat xs).flatten
theorem tW(xs:List Value):∀ (n:Nat) (acc:Array Value),List.foldl (fun x1 x2=>x1++x2) acc (List.replicate n xs.toArray)=acc++((List.replicate n xs).flatten).toArray
 |0,acc=>by simp
 |n+1,acc=>by rw[List.replicate_succ,List.foldl_cons,tW xs n];simp[List.replicate_succ]
theorem zo{A:Around}{s:Shared}{a:Addr}{vs:List Value}{m:Nat}{k:Int}{t:Tok}{Q:Value→Shared→Prop}{E:Value→Shared→Prop}(h1:s.heap.get? a=some (lobj vs m))(hU : -(2 ^ 63:Int)≤k)(A2:k<2 ^ 63)(bG:vs.length*k.toNat≤2 ^ 24)
  (h:Q (.ref s.heap.objs.size) {s with heap:=s.heap.push (lobj (times vs k) 0)}):wpAny (model G.prog G.w) A (binaryOp .Mult (.ref a) (.int k t)) Q E s:=by
 have e:List.foldl (fun x1 x2=>x1++x2) #[] (List.replicate (if vs.toArray.isEmpty=true then 0 else k.toNat) vs.toArray)=(times vs k).toArray:=by
  unfold times;rw[tW];cases vs with
  |nil=>simp
  |cons x r=>simp
 refine wpAny_binaryOp_repeat_ref (T:="list") (U:="int") (by decide) ⟨_,h1,rfl⟩ (fun s'=>typeIs_int s' k t) noFill_list_mul F.fills_int_mul F.slot_int_rmul repeat_list F.slot_int_index.lookup
  (call_meets F.slot_int_rmul (typeIs_int s k t) F.entry_int_rmul (F.args_int_rmul_2 _ _) (int___rmul___int_list k t a vs.toArray m) ⟨h1,rfl,⟨_,h1,rfl⟩,call_meets F.slot_list_mul ⟨_,h1,rfl⟩ F.entry_list_mul (F.args_list_mul_2 _ _)
    (AutoListH.list___mul___list_int_3 a vs.toArray m k t (by simp[Builtin.List.listFitsIndex];exact ag 0 1 (aa (ai (cI (zk (2 ^ 63))) aq) (aa (aK aq (zk (2 ^ 63))) (aT (ai (zk (-9223372036854775808)) aq) (aK aq (zk 9223372036854775808))))) (by kd_p) hU A2) (by simp;exact ag 1 0 (aa (ae ab (nk (2 ^ 24))) (ae ab (nk 1152921504606846975))) (by kd_p) bG) (by simp[Builtin.List.listTooLong,sizeLine];omega)) ⟨h1,?_⟩⟩)
 rw[e];exact h
theorem aB.flat{B:ay}{Z:List Addr}{xs:List V}{vs:List Value}(h:aB B Z xs vs):∀n,aB B Z (List.replicate n xs).flatten (List.replicate n vs).flatten
 |0=>.nil
 |n+1=>by rw[List.replicate_succ,List.replicate_succ,List.flatten_cons,List.flatten_cons];exact h.append (h.flat n)
section
variable{n:Nat}{O:Mu}{Q:V→Mu→Prop}
theorem Ox{B:ay}{Z:List Addr}{s:Shared}{xs:List V}{vs:List Value}(I:Inv G B Z O s.heap)(r:aB B Z xs vs)(q:Q (.list xs) O):PV G B Z s Q (.ref s.heap.objs.size) {s with heap:=s.heap.push (lobj vs 0)}:=by
 have P:=I.push (o:=lobj vs 0) (t:=s.toks) rfl;exact⟨_,_,_,_,q,P,.newList (ay.dc ..) (r.mono P.le P.pre)⟩
theorem Oy{B:ay}{Z:List Addr}{s:Shared}{xs:List V}{vs:List Value}(I:Inv G B Z O s.heap)(r:aB B [] xs vs)(q:Q (.ml O.length) (O++[some xs])):PV G B Z s Q (.ref s.heap.objs.size) {s with heap:=s.heap.push (lobj vs 0)}:=by
 have P:=I.G2 (t:=s.toks) r;exact⟨_,_,_,_,q,P,.ml (by rw[←I.len];simp)⟩
theorem Oz{B:ay}{Z:List Addr}{s:Shared}{xs:List V}{vs:List Value}(I:Inv G B Z O s.heap)(r:aB B Z xs vs)(q:Q (.tuple xs) O):PV G B Z s Q (.ref s.heap.objs.size) {s with heap:=s.heap.push (gY vs 0)}:=by
 have P:=I.push (o:=gY vs 0) (t:=s.toks) rfl;exact⟨_,_,_,_,q,P,.newTuple (ay.dc ..) (r.mono P.le P.pre)⟩
theorem A3{xs ys:List V}(bG:xs.length+ys.length≤sizeLine)(q:Q (.list (xs++ys)) O):cB G n .Add (.list xs) (.list ys) O Q:=by
 intro A hA B Z s x y I hx hy;refine br (held I hx) ?_;intro a vs k z1;subst z1;intro h1 r1 zz;refine br (held I hy) ?_;intro b us m z1;subst z1;intro h2 r2 zz;exact zm h1 h2 (by rw[←r1.1,←r2.1];exact bG) (Ox I (r1.append r2) q)
theorem HF{i:Nat}{xs ys:List V}(hi:O[i]?=some (some xs))(hc:∀y∈ys,Cl y)(bG:xs.length+ys.length≤sizeLine)(q:Q (.ml O.length) (O++[some (xs++ys)])):cB G n .Add (.ml i) (.list ys) O Q:=by
 intro A hA B Z s x y I hx hy;refine br (resolve I hi hx) ?_;intro a vs k z1;subst z1;intro h1 r1 zz;refine br (held I hy) ?_;intro b us m z1;subst z1;intro h2 r2 zz;exact zm h1 h2 (by rw[←r1.1,←r2.1];exact bG) (Oy I (r1.append (r2.clean hc [])) q)
theorem A4{xs:List V}{k:Int}(hU : -(2 ^ 63:Int)≤k)(A2:k<2 ^ 63)(bG:xs.length*k.toNat≤2 ^ 24)(q:Q (.list (times xs k)) O):cB G n .Mult (.list xs) (.int k) O Q:=by
 intro A hA B Z s x y I hx hy;refine VR.bC hy ?_;intro zz;refine br (held I hx) ?_;intro a vs m z1;subst z1;intro h1 r1 zz;exact zo h1 hU A2 (by rw[←r1.1];exact bG) (Ox I (r1.flat _) q)
theorem zp{xs:List V}{k:Int}(hc:∀y∈xs,Cl y)(hU : -(2 ^ 63:Int)≤k)(A2:k<2 ^ 63)(bG:xs.length*k.toNat≤2 ^ 24)(q:Q (.ml O.length) (O++[some (times xs k)])):cB G n .Mult (.list xs) (.int k) O Q:=by
 intro A hA B Z s x y I hx hy;refine VR.bC hy ?_;intro zz;refine br (held I hx) ?_;intro a vs m z1;subst z1;intro h1 r1 zz;exact zo h1 hU A2 (by rw[←r1.1];exact bG) (Oy I ((r1.clean hc []).flat _) q)
end
noncomputable def gw:List (Option Bool)→Option Bool
 |[]=>some true
 |some b::r=>(gw r).map (b && ·)
 |none::_=>none
noncomputable def dQ:Nat→V→V→Option Bool
 |0,_,_=>none
 |k+1,v,u=>match v,u with
  |.int a,.int b=>some (a==b)
  |.str a,.str b=>some (a==b)
  |.list xs,.list ys=>if xs.length=ys.length then gw (List.zipWith (dQ k) xs ys) else some false
  |.tuple xs,.tuple ys=>if xs.length=ys.length then gw (List.zipWith (dQ k) xs ys) else none
  |_,_=>none
theorem hZ:∀ {l:List (Option Bool)} {b:Bool},gw l=some b→∃bs:List Bool,l=bs.map some∧b=bs.all id
 |[],b,h=>by cases h;exact⟨[],rfl,rfl⟩
 |some c::r,b,h=>by
  unfold gw at h;cases q:gw r with
  |none=>rw[q]at h;cases h
  |some d=>
   rw[q]at h;refine aW (hZ q) ?_;intro bs z1;subst z1;intro z2;subst z2;cases h;exact⟨c::bs,rfl,rfl⟩
 |none::r,b,h=>by cases h
theorem zip_get{k:Nat}{xs ys:List V}{bs:List Bool}(h:List.zipWith (dQ k) xs ys=bs.map some){j:Nat}{x y:V}(hx:xs[j]?=some x)(hy:ys[j]?=some y):∃b,bs[j]?=some b∧dQ k x y=some b:=by
 have:(List.zipWith (dQ k) xs ys)[j]?=some (dQ k x y):=by rw[List.getElem?_zipWith,hx,hy]
 rw[h,List.getElem?_map]at this;cases q:bs[j]? with
 |none=>rw[q]at this;cases this
 |some b=>rw[q]at this;exact⟨b,rfl,(Option.some.inj this).symm⟩
theorem all_range(bs:List Bool):(List.range bs.length).all (fun j=>bs[j]?.getD true)=bs.all id:=by
 rw[Bool.eq_iff_iff];simp only[List.all_eq_true,List.mem_range,id];constructor
 ·intro h b hb
  obtain⟨j,hj,rfl⟩:=List.mem_iff_getElem.mp hb;have:=h j hj
  rwa [List.getElem?_eq_getElem hj]at this
 ·intro h j hj
  rw[List.getElem?_eq_getElem hj];exact h _ (List.getElem_mem _)
theorem pA{k:Nat}{xs ys:List V}{bs:List Bool}(h:List.zipWith (dQ k) xs ys=bs.map some)(e:xs.length=ys.length):bs.length=xs.length:=by
 have:=congrArg List.length h;simp at this;exact ag 3 0 (aa (ax af ab) (aa (ax (jS af ab) au) (ax au af))) (by kd_p) e this
theorem Di{k:Nat}{xs ys:List V}{bs:List Bool}(hb:List.zipWith (dQ k) xs ys=bs.map some)(e:xs.length=ys.length)(f:∀ (j:Nat) (x y:V) (b:Bool),xs[j]?=some x→ys[j]?=some y→dQ k x y=some b→b=true):bs.all id=true:=by
 rw[List.all_eq_true];intro c hc;obtain⟨j,hj,rfl⟩:=List.mem_iff_getElem.mp hc;have hl:=pA hb e;have hx:xs[j]?=some xs[j]:=List.getElem?_eq_getElem (by exact ag 4 0 (aa (ax au af) (aa (ak aM ab) (aa (ax ab au) (ak aM au)))) (by kd_p) e hj hl)
 have hy:ys[j]?=some ys[j]:=List.getElem?_eq_getElem (by exact ag 4 0 (aa (ax af au) (aa (ak aM ab) (aa (ax ab af) (ak aM au)))) (by kd_p) e hj hl)
 refine aW (zip_get hb hx hy) ?_;intro b h3 h4;rw[List.getElem?_eq_getElem hj]at h3;cases Option.some.inj h3;exact f j _ _ _ hx hy h4
theorem ny:∀ (k:Nat) {v u:V} {B:ay} {Z:List Addr} {x:Value} {b:Bool},dQ k v u=some b→VR B Z v x→VR B Z u x→b=true
 |0,v,u,B,Z,x,b,h,_,_=>by cases h
 |k+1,v,u,B,Z,x,b,h,h1,h2=>by
  unfold dQ at h;split at h
  ·cases Option.some.inj h;cases h1;cases h2;simp
  ·cases Option.some.inj h;cases h1;cases h2;simp
  ·cases h1 with
   |list e l h9=>
    cases h2 with
    |list e' l' QB=>
     rw[e]at e';have:=congrArg (fun o:Option Obj=>o.map (·.data)) e'
     simp at this;obtain⟨rfl,_⟩:=this;rw[if_pos (l.trans l'.symm)]at h;refine aW (hZ h) ?_;intro bs hb z1;subst z1;refine Di hb (l.trans l'.symm) fun j x y b hx hy sq=>?_;refine aW (aB.get (B:=B) (Z:=Z) ⟨l,h9⟩ hx) ?_;intro v hv r;exact ny k sq r (QB j _ _ hy hv)
  ·cases h1 with
   |tuple e l h9=>
    cases h2 with
    |tuple e' l' QB=>
     rw[e]at e';have:=congrArg (fun o:Option Obj=>o.map (·.data)) e'
     simp at this;obtain⟨rfl,_⟩:=this;rw[if_pos (l.trans l'.symm)]at h;refine aW (hZ h) ?_;intro bs hb z1;subst z1;refine Di hb (l.trans l'.symm) fun j x y b hx hy sq=>?_;refine aW (aB.get (B:=B) (Z:=Z) ⟨l,h9⟩ hx) ?_;intro v hv r;exact ny k sq r (QB j _ _ hy hv)
  ·exact bk h
theorem QC(a b:Str):(a==b)=(a.cps.toList==b.cps.toList):=by
 rw[Bool.eq_iff_iff];obtain⟨a⟩:=a;obtain⟨b⟩:=b;simp
theorem pB:∀ (k:Nat) {v u:V} {B:ay} {Z:List Addr} {O:Mu} {s:Shared} {x y:Value} {b:Bool} {A:Around},dQ k v u=some b→A.units+k<cLine→Inv G B Z O s.heap→VR B Z v x→VR B Z u y→
  EqAt A s x y b∧((∀a,x=.ref a→RcAt A s x y b))
 |0,v,u,B,Z,O,s,x,y,b,A,h,_,_,_,_=>by cases h
 |k+1,v,u,B,Z,O,s,x,y,b,A,h,hu,I,h1,h2=>by
  have Lj:A.in1.units+k<cLine:=by show A.units+1+k<cLine;exact ag 3 0 (aa (ak (aj au (aj af aC)) ab) (ak (aj (aj au aC) af) ab)) (by kd_p) hu
  have mh:A.units<cLine:=by exact ag 3 0 (aa (ak (aj au (aj ab aC)) af) (ak au af)) (by kd_p) hu
  unfold dQ at h;split at h
  ·cases Option.some.inj h;refine VR.bC h1 ?_;intro _;refine VR.bC h2 ?_;intro _;exact⟨(PySem.MeetsSeq.EqGives.int _ _ _ _).at A s,(fun _ e=>by cases e)⟩
  ·cases Option.some.inj h;refine VR.fQ h1 ?_;intro _;refine VR.fQ h2 ?_;intro _;rw[QC];exact⟨PySem.MeetsSeq.EqGives.at (PySem.SeqRoads2.EqGives.str _ _ _ _) A s,(fun _ e=>by cases e)⟩
  ·rename_i xs ys
   refine br (held I h1) ?_;intro a vs m z1;subst z1;intro g1 r1 e1;refine br (held I h2) ?_;intro a' us m' z1;subst z1;intro g2 r2 e2;have qi:s.heap.IsList a vs.toArray:=⟨_,g1,rfl,m,rfl⟩;have A5:s.heap.IsList a' us.toArray:=⟨_,g2,rfl,m',rfl⟩;have rc:RcAt A s (.ref a) (.ref a') b:=by
    by_cases q:xs.length=ys.length
    ·rw[if_pos q]at h
     refine aW (hZ h) ?_;intro bs hb z1;subst z1;have hl:=pA hb q;have sz:vs.toArray.size=us.toArray.size:=by simp[←r1.1,←r2.1,q]
     have:=RcAt.lists (A:=A) (e:=fun j=>bs[j]?.getD true) qi A5 sz mh (fun j p1 p2=>by
      simp at p1 p2;have q1:j<xs.length:=by rw[r1.1];exact p1
      have q2:j<ys.length:=by rw[r2.1];exact p2
      refine aW (zip_get hb (List.getElem?_eq_getElem q1) (List.getElem?_eq_getElem q2)) ?_;intro b HG he;simp only[HG,Option.getD_some];exact(pB k he Lj I (r1.2 j _ _ (List.getElem?_eq_getElem q1) (by simp)) (r2.2 j _ _ (List.getElem?_eq_getElem q2) (by simp))).1)
     rw[show vs.toArray.size=bs.length by simp[←r1.1,hl],all_range]at this
     exact this
    ·rw[if_neg q]at h;cases Option.some.inj h
     exact RcAt.lists_lengths qi A5 (by simp[←r1.1,←r2.1,q]) mh
   refine⟨?_,fun _ _=>rc⟩
   by_cases q:a=a'
   ·subst q
    have:=ny (k+1) (v:=.list xs) (u:=.list ys) (b:=b) (by unfold dQ;exact h) h1 h2
    subst this;exact EqAt.same _
   ·exact EqAt.of_refs q rc
  ·rename_i xs ys
   refine br (qq I h1) ?_;intro a vs m z1;subst z1;intro g1 r1 e1;refine br (qq I h2) ?_;intro a' us m' z1;subst z1;intro g2 r2 e2;have qi:s.heap.IsTuple a vs.toArray:=⟨_,g1,rfl,m,rfl⟩;have A5:s.heap.IsTuple a' us.toArray:=⟨_,g2,rfl,m',rfl⟩
   by_cases q:xs.length=ys.length
   ·have h':=h
    rw[if_pos q]at h;refine aW (hZ h) ?_;intro bs hb z1;subst z1;have hl:=pA hb q;have sz:vs.toArray.size=us.toArray.size:=by simp[←r1.1,←r2.1,q]
    have rc:RcAt A s (.ref a) (.ref a') (bs.all id):=by
     have:=RcAt.tuples (A:=A) (e:=fun j=>bs[j]?.getD true) qi A5 mh (fun j p1 p2=>by
      simp at p1 p2;have q1:j<xs.length:=by rw[r1.1];exact p1
      have q2:j<ys.length:=by rw[r2.1];exact p2
      refine aW (zip_get hb (List.getElem?_eq_getElem q1) (List.getElem?_eq_getElem q2)) ?_;intro b HG he;simp only[HG,Option.getD_some];exact(pB k he Lj I (r1.2 j _ _ (List.getElem?_eq_getElem q1) (by simp)) (r2.2 j _ _ (List.getElem?_eq_getElem q2) (by simp))).1)
     rw[←sz,Nat.min_self,show vs.toArray.size=bs.length by simp[←r1.1,hl],all_range]at this
     simpa using this
    refine⟨?_,fun _ _=>rc⟩
    by_cases z:a=a'
    ·subst z
     have:=ny (k+1) (v:=.tuple xs) (u:=.tuple ys) (b:=bs.all id) (by unfold dQ;exact h') h1 h2
     rw[this];exact EqAt.same _
    ·exact EqAt.of_refs z rc
   ·rw[if_neg q]at h;exact bk h
  ·exact bk h
section
variable{n:Nat}{O:Mu}{Q:V→Mu→Prop}
theorem QD{v u:V}{b:Bool}(h:dQ 50 v u=some b)(hl:∃xs,v=.list xs∨v=.tuple xs)(q:Q (.bool b) O):bW G n .Eq v u O Q:=by
 intro A hA B Z s x y I hx hy;have hu:A.units+50<cLine:=by have:=hA.units;unfold cLine;exact ag 2 0 (aa (ae (aj af (cZ 16 ab)) c9) (ak (aj af (nk 50)) (nk 9900))) (by kd_p) this
 have:∃a,x=.ref a:=by
  obtain⟨xs,rfl|rfl⟩:=hl
  ·refine VR.eList hx ?_;intro zz zz zz zz zz zz;exact⟨_,rfl⟩
  ·refine VR.Oo hx ?_;intro zz zz zz zz zz zz;exact⟨_,rfl⟩
 obtain⟨a,rfl⟩:=this;exact(pB 50 h hu I hx hy).2 a rfl _ _ _ _ (PV.bQ I .bool q)
end
section
variable(G:dn)(n:Nat)
def Dj(op:UnaryOp)(v:V)(O:Mu)(Q:V→Mu→Prop):Prop:=∀A,bY n A→∀B Z s x,Inv G B Z O s.heap→VR B Z v x→wpAny (model G.prog G.w) A (unaryOp op x) (PV G B Z s Q) bM s
def s9(name:Str)(v:V)(O:Mu)(Q:V→Mu→Prop):Prop:=∀A,bY n A→∀B Z s x,Inv G B Z O s.heap→VR B Z v x→wpAny (model G.prog G.w) A (getAttr x name true) (PV G B Z s Q) bM s
def A6(op:Operator)(v u:V)(O:Mu)(Q:V→Mu→Prop):Prop:=∀A,bY n A→∀B Z s x y,Inv G B Z O s.heap→VR B Z v x→VR B Z u y→wpAny (model G.prog G.w) A (inplaceOp op x y) (PV G B Z s Q) bM s
structure gZ(a b:Int):Prop where ok:IntMulOk a b
structure OA(b:Int):Prop where
 ne:b≠0
 small:b.natAbs.log2<9000
structure pC(a b:Int):Prop where
 nonneg:0≤b
 small:(Builtin.Int.intBits a:Int)*b≤2 ^ 27
structure wt(a b:Int):Prop where
 nonneg:0≤b
 small:(Builtin.Int.intBits a:Int)+b≤2 ^ 27
structure l4(a b:Str):Prop where ok:a.length+b.length≤sizeLine
structure tX(a:Str)(k:Int):Prop where ok:MulOk a k
structure Un(m k:Nat):Prop where ok:m+k≤sizeLine
structure Uo(m:Nat)(k:Int):Prop where
 lo : -(2 ^ 63:Int)≤k
 hi:k<2 ^ 63
 ok:m*k.toNat≤2 ^ 24
structure cp(m:Nat):Prop where ok:m<2 ^ 62
structure gM(m:Nat):Prop where ok:m≤sizeLine
end
noncomputable def HH:V→Option (List V)
 |.list xs=>some xs
 |.tuple xs=>some xs
 |_=>none
section
variable{G:dn}{n:Nat}{O:Mu}{Q:V→Mu→Prop}
theorem xY{v:V}{xs:List V}(h:HH v=some xs):xV G v O xs:=by
 unfold HH at h;split at h
 ·cases Option.some.inj h;exact xV.list
 ·cases Option.some.inj h;exact xV.tuple
 ·exact bk h
theorem HI{a b:Int}{t:Tok}(q:Q (.bool (decide (a≤b))) O):bW G n .LtE (.int a) (.raw (.int b t)) O Q:=by
 intro A hA B Z s x y I hx hy;refine VR.j2 hy ?_;exact Ot q A hA B Z s x _ I hx .int
theorem HJ{x:Value}(hx:x≠.none)(q:Q (.bool false) O):bW G n .Is (.raw x) .none O Q:=by
 intro A hA B Z s x y I Lk hy;refine VR.j2 Lk ?_;refine VR.xI hy ?_;exact is_none_ne hx (PV.bQ I .bool q)
theorem QE{xs ys:List V}{b:Bool}(h:dQ 50 (.list xs) (.list ys)=some b)(q:Q (.bool (!b)) O):bW G n .NotEq (.list xs) (.list ys) O Q:=by
 intro A hA B Z s x y I hx hy;have mh:A.units<cLine:=hA.Dd;have Lj:A.in1.units+49<cLine:=by have:=hA.units;show A.units+1+49<cLine;unfold cLine;exact ag 2 0 (aa (ae (aj af (cZ 16 ab)) c9) (ak (aj (aj af aC) (nk 49)) (nk 9900))) (by kd_p) this
 refine br (held I hx) ?_;intro a vs m z1;subst z1;intro g1 r1 e1;refine br (held I hy) ?_;intro a' us m' z1;subst z1;intro g2 r2 e2;have qi:s.heap.IsList a vs.toArray:=⟨_,g1,rfl,m,rfl⟩;have A5:s.heap.IsList a' us.toArray:=⟨_,g2,rfl,m',rfl⟩;unfold dQ at h;simp only[]at h
 by_cases z:xs.length=ys.length
 ·rw[if_pos z]at h
  refine aW (hZ h) ?_;intro bs hb z1;subst z1;have hl:=pA hb z;have sz:vs.toArray.size=us.toArray.size:=by simp[←r1.1,←r2.1,z]
  have:=PySem.SeqAt.RcNeAt.lists (A:=A) (e:=fun j=>bs[j]?.getD true) qi A5 sz mh (fun j p1 p2=>by
   simp at p1 p2;have q1:j<xs.length:=by rw[r1.1];exact p1
   have q2:j<ys.length:=by rw[r2.1];exact p2
   refine aW (zip_get hb (List.getElem?_eq_getElem q1) (List.getElem?_eq_getElem q2)) ?_;intro b HG he;simp only[HG,Option.getD_some];exact(pB 49 he Lj I (r1.2 j _ _ (List.getElem?_eq_getElem q1) (by simp)) (r2.2 j _ _ (List.getElem?_eq_getElem q2) (by simp))).1)
  rw[show vs.toArray.size=bs.length by simp[←r1.1,hl],all_range]at this
  exact this _ _ _ _ (PV.bQ I .bool q)
 ·rw[if_neg z]at h;cases Option.some.inj h
  exact PySem.SeqAt.RcNeAt.lists_lengths qi A5 (by simp[←r1.1,←r2.1,z]) mh _ _ _ _ (PV.bQ I .bool q)
theorem A7{a b:Int}(q:Q (.int (a+b)) O):cB G n .Add (.int a) (.int b) O Q:=PT q
theorem QF{a b:Int}(q:Q (.int (a-b)) O):cB G n .Sub (.int a) (.int b) O Q:=PU q
theorem gh{a b:Int}(h:gZ a b)(q:Q (.int (a*b)) O):cB G n .Mult (.int a) (.int b) O Q:=PW h.ok q
theorem dR{a b:Int}(h:OA b)(q:Q (.int (a.fdiv b)) O):cB G n .FloorDiv (.int a) (.int b) O Q:=KU h.ne h.small q
theorem dD{a b:Int}(h:b≠0)(q:Q (.int (a.fmod b)) O):cB G n .Mod (.int a) (.int b) O Q:=PX h q
theorem qr{a b:Int}(h:pC a b)(q:Q (.int (a ^ b.toNat)) O):cB G n .Pow (.int a) (.int b) O Q:=PY h.nonneg h.small q
theorem A8{a b:Int}(h:wt a b)(q:Q (.int (a*2 ^ b.toNat)) O):cB G n .LShift (.int a) (.int b) O Q:=PZ h.nonneg h.small q
theorem A9{a b:Int}(h:0≤b)(q:Q (.int (a.fdiv (2 ^ b.toNat))) O):cB G n .RShift (.int a) (.int b) O Q:=Qa h q
theorem HK{a b:Int}(q:Q (.int (Builtin.bitXor a b)) O):cB G n .BitXor (.int a) (.int b) O Q:=Qb q
theorem jc{a b:Str}(h:l4 a b)(q:Q (.str (a++b)) O):cB G n .Add (.str a) (.str b) O Q:=Eb h.ok q
theorem tc{a:Str}{k:Int}(h:tX a k)(q:Q (.str (Txt.mul a k)) O):cB G n .Mult (.str a) (.int k) O Q:=Ec h.ok q
theorem td{a b:List V}(h:Un a.length b.length)(q:Q (.list (a++b)) O):cB G n .Add (.list a) (.list b) O Q:=A3 h.ok q
theorem lx{a:List V}{k:Int}(h:Uo a.length k)(q:Q (.list (times a k)) O):cB G n .Mult (.list a) (.int k) O Q:=A4 h.lo h.hi h.ok q
theorem V_lt{a b:Int}(q:Q (.bool (decide (a<b))) O):bW G n .Lt (.int a) (.int b) O Q:=TY q
theorem Up{a b:Int}(q:Q (.bool (decide (a≤b))) O):bW G n .LtE (.int a) (.int b) O Q:=Ot q
theorem QG{a b:Int}{t:Tok}(q:Q (.bool (decide (a≤b))) O):bW G n .LtE (.int a) (.raw (.int b t)) O Q:=HI q
theorem Uq{a b:Int}(q:Q (.bool (decide (b<a))) O):bW G n .Gt (.int a) (.int b) O Q:=TZ q
theorem Ur{a b:Int}(q:Q (.bool (decide (b≤a))) O):bW G n .GtE (.int a) (.int b) O Q:=T3 q
theorem Us{a b:Int}(q:Q (.bool (a==b)) O):bW G n .Eq (.int a) (.int b) O Q:=T4 q
theorem Ut{a b:Int}(q:Q (.bool (a !=b)) O):bW G n .NotEq (.int a) (.int b) O Q:=T5 q
theorem HL{a b:Str}(q:Q (.bool (a==b)) O):bW G n .Eq (.str a) (.str b) O Q:=Qc q
theorem QH{a b:Str}(q:Q (.bool (a !=b)) O):bW G n .NotEq (.str a) (.str b) O Q:=Qd q
theorem En{a b:Bool}(q:Q (.bool (a !=b)) O):bW G n .IsNot (.bool a) (.bool b) O Q:=Ee q
theorem QI(q:Q (.bool true) O):bW G n .Is .none .none O Q:=Qe q
theorem QJ{a:Int}(q:Q (.bool false) O):bW G n .Is (.int a) .none O Q:=KV (by intro e;cases e) (by intro zz e;cases e) q
theorem tY{x:Value}(hx:x≠.none)(q:Q (.bool false) O):bW G n .Is (.raw x) .none O Q:=HJ hx q
theorem Ba{xs ys:List V}{b:Bool}(h:dQ 50 (.list xs) (.list ys)=some b)(q:Q (.bool b) O):bW G n .Eq (.list xs) (.list ys) O Q:=QD h ⟨_,.inl rfl⟩ q
theorem HM{xs ys:List V}{b:Bool}(h:dQ 50 (.list xs) (.list ys)=some b)(q:Q (.bool (!b)) O):bW G n .NotEq (.list xs) (.list ys) O Q:=QE h q
theorem iB{b:Bool}{Q:Bool→Mu→Prop}(q:Q b O):iP G n (.bool b) O Q:=KW q
theorem Ll{a:Int}{Q:Bool→Mu→Prop}(q:Q (a !=0) O):iP G n (.int a) O Q:=Qg q
theorem Lm{xs:List V}{Q:Bool→Mu→Prop}(h:cp xs.length)(q:Q (!xs.isEmpty) O):iP G n (.list xs) O Q:=KX h.ok q
theorem HN{a:Int}(q:Q (.int (-a)) O):Dj G n .USub (.int a) O Q:=Qh q
theorem QK{a:Int}(q:Q (.int (Builtin.bitNot a)) O):Dj G n .Invert (.int a) O Q:=Qi q
theorem V_at{xs:List V}{i:Int}{v:V}(hv:xs[cF i xs.length]?=some v)(h0 : -(xs.length:Int)≤i)(hl:cp xs.length)(q:Q v O):gg G n (.list xs) (.int i) O Q:=Em h0 hl.ok hv q
theorem jz{xs:List V}{i:Int}{v:V}(hv:xs[i.toNat]?=some v)(h0:0≤i)(hl:cp xs.length)(q:Q v O):gg G n (.tuple xs) (.int i) O Q:=A0 h0 hl.ok hv q
theorem xZ{xs:List V}{j:Nat}{i:Int}{v:V}(hj:(O[j]?:Option (Option (List V)))=some (some xs))(hv:xs[cF i xs.length]?=some v)(h0 : -(xs.length:Int)≤i)(hl:cp xs.length)(q:Q v O):gg G n (.ml j) (.int i) O Q:=Lf hj h0 hl.ok hv q
theorem tZ{xs:List V}{lo hi st:Option Int}(h0:st≠some 0)(hl:gM xs.length)(q:Q (.list (pick xs lo hi st)) O):jx G n (.list xs) lo hi st O Q:=Hz h0 hl.ok q
theorem HO{x:Str}{lo hi:Option Int}(hl:gM (dO x lo hi).length)(q:Q (.str (dO x lo hi)) O):jx G n (.str x) lo hi none O Q:=Lg hl.ok q
theorem Eo{a b:Int}(q:Q (.int (a+b)) O):A6 G n .Add (.int a) (.int b) O Q:=by
 intro A hA B Z s x y I hx hy;refine VR.bC hx ?_;intro zz;refine VR.bC hy ?_;intro zz;exact AutoIntOps.iadd_0 (PV.here I .int q)
theorem Ep{a b:Int}(q:Q (.int (a-b)) O):A6 G n .Sub (.int a) (.int b) O Q:=by
 intro A hA B Z s x y I hx hy;refine VR.bC hx ?_;intro zz;refine VR.bC hy ?_;intro zz;exact AutoIntOps.isub_0 (PV.here I .int q)
theorem x3{xs:List V}{j:Nat}{i:Int}{u:V}{Q:Mu→Prop}(hj:(O[j]?:Option (Option (List V)))=some (some xs))(h0:0≤i)(h1:i<xs.length)(hl:cp xs.length)(hc:Cl u)(q:Q (O.set j (some (xs.set i.toNat u)))):xW G n (.ml j) (.int i) u O Q:=Lh hj h0 h1 hl.ok hc q
end
set_option genCtorIdx false
mutual
inductive E where
 |var (x:Nat)|glob (x:Nat)
 |int (i:Int)|str (s:Str)|bool (b:Bool)|vF|no
 |bin (op:Operator) (l r:E)|cmp (op:CmpOp) (l r:E)|neg (e:E)|inv (e:E)
 |wu (l r:E)|zq (t:T) (c d:E)
 |list (m:Bool) (es:Es)|tup (es:Es)
 |call (f:E) (args:Es)|mC (f:E) (args:Es) (name:Str) (k:E)
 |cA (o:E) (name:Str) (args:Es)|attr (o:E) (name:Str)
 |sub (o i:E)|slice (o lo hi st:E)
 |eB (m:Bool) (elt:E) (x:Nat) (iter:E) (cond:Ts) (fr own:List Nat)
 |t4 (m:Bool) (elt:E) (x:Nat) (iter:E) (cond:Ts) (y:Nat) (x4:E) (eE:Ts) (fr own:List Nat)
inductive Es where
 |nil|cons (e:E) (r:Es)
inductive T where
 |val (e:E)|cmp (op:CmpOp) (l r:E)|not (t:T)|and (ts:Ts)|or (ts:Ts)
inductive Ts where
 |nil|cons (t:T) (r:Ts)
end
inductive Tg where
 |name (x:Nat)|sub (o i:E)|g9 (a b:Tg)|Dk (a b c:Tg)
mutual
inductive S where
 |expr (e:E)|asg (t:Tg) (e:E)|OB (t u:Tg) (e:E)|Dl (t u v:Tg) (e:E)|kE (xs:List Nat) (e:E)|aug (x:Nat) (op:Operator) (e:E)
 |iff (t:T) (b e:Ss)|rm (t:T) (b:Ss)|for (x:Nat) (it:E) (b:Ss)|ret (e:E)|HP|pass|brk|bad
inductive Ss where
 |nil|cons (s:S) (r:Ss)|su (x:Nat) (r:Ss)
end
set_option genCtorIdx true
section
variable(G:dn)(nm:Nat→Str)(gl:Nat→Option Value)(n:Nat)
def jA(name:Str)(v:V)(O:Mu)(f:Value):Prop:=
 (∀h,(∀a o,G.Bs a=some o→h.get? a=some o)→fV G f h) ∧
  ∀A B Z s x pl (Q:Value×List Value→Shared→Prop) (E:Value→Shared→Prop),Inv G B Z O s.heap→VR B Z v x→Q (f,[x]) s→wpAny (model G.prog G.w) A (getMethod x name pl) Q E s
noncomputable def pD:V→Option (Option Int)
 |.none=>some none
 |.int i=>some (some i)
 |_=>none
end
noncomputable def isEqSome{τ:Type} [BEq τ] (o:Option τ) (a:τ):Bool:=match o with
 |some b=>b==a
 |none=>false
section
variable(nm:Nat→Str)
noncomputable def Er(sc:Scope)(x:Nat)(k:NameKind):Bool:=sc.names.lookup (nm x)==some k
noncomputable def jW(sc:Scope)(own:List Nat)(x:Nat):Bool:=own.contains x&&(Er nm sc x .local||Er nm sc x .cell)
noncomputable def nz:List Str→Bool
 |[]=>true
 |a::r=>!(r.any (· == a))&&nz r
noncomputable def x5(sc outer:Scope)(zi wq:List Nat):Bool:=
 sc.kind == .function&&outer.kind == .function&&nz (sc.names.map (·.1)) &&
 zi.all (fun x=>sc.names.lookup (nm x)==some .free&&outer.names.lookup (nm x)==some .cell) &&
 sc.names.all (fun p=>p.2 != .free||zi.any fun x=>nm x==p.1) &&
 wq.all fun x=>Er nm sc x .local||Er nm sc x .cell
end
noncomputable def pt:Expr→List Expr×Nat×List Comprehension×Scope×Keyword
 |.BoolOp _ vs _=>(vs,0,[],default,default)
 |.BinOp l _ r _=>([l,r],0,[],default,default)
 |.UnaryOp _ a _=>([a],0,[],default,default)
 |.IfExp t a b _=>([t,a,b],0,[],default,default)
 |.ListComp e g s _=>([e],0,g,s,default)
 |.Compare l _ r _=>(l::r,0,[],default,default)
 |.Call f as k _=>(f::as,0,[],default,k.headD default)
 |.Constant _ k _=>([],k,[],default,default)
 |.Attribute v _ _=>([v],0,[],default,default)
 |.Subscript a b _=>([a,b],0,[],default,default)
 |.List es _=>(es,0,[],default,default)
 |.Tuple es k _=>(es,k,[],default,default)
 |.Slice l u s _=>([l.getD default,u.getD default,s.getD default],0,[],default,default)
 |_=>([],0,[],default,default)
noncomputable def ks(x:Expr):List Expr:=(pt x).1
noncomputable def bj(i:Nat)(x:Expr):Expr:=(pt x).1.getD i default
noncomputable def gen(i:Nat)(x:Expr):Comprehension:=(pt x).2.2.1.getD i default
noncomputable def Et(l:List Expr):Expr:=l.headD default
noncomputable def E.kd(e:E):Nat:=E.casesOn (motive_1:=fun zz=>Nat) e
 (fun zz=>0) (fun zz=>0) (fun zz=>0) (fun zz=>0) (fun zz=>0) 0 1 (fun zz zz zz=>0) (fun zz zz zz=>4) (fun zz=>0) (fun zz=>0) (fun zz zz=>4) (fun zz zz zz=>4) (fun zz zz=>0) (fun zz=>0)
 (fun zz zz=>2) (fun zz zz zz zz=>2) (fun zz zz zz=>2) (fun zz zz=>0) (fun zz zz=>0) (fun zz zz zz zz=>0) (fun zz zz zz zz zz zz zz=>3) (fun zz zz zz zz zz zz zz zz zz zz=>3)
noncomputable def E.zr(e:E):Bool:=e.kd==1
section
variable(nm:Nat→Str)
mutual
noncomputable def bH:E→Expr→Expr
 |.var x,y=>.Name (nm x) y.pos
 |.glob x,y=>.Name (nm x) y.pos
 |.int i,y=>.Constant (.int i) (pt y).2.1 y.pos
 |.str a,y=>.Constant (.str a) (pt y).2.1 y.pos
 |.bool b,y=>.Constant (.bool b) (pt y).2.1 y.pos
 |.vF,y=>.Constant .none (pt y).2.1 y.pos
 |.no,y=>.Constant .none (pt y).2.1 y.pos
 |.bin op l r,y=>.BinOp (bH l (bj 0 y)) op (bH r (bj 1 y)) y.pos
 |.cmp op l r,y=>.Compare (bH l (bj 0 y)) [op] [bH r (bj 1 y)] y.pos
 |.neg e,y=>.UnaryOp .USub (bH e (bj 0 y)) y.pos
 |.inv e,y=>.UnaryOp .Invert (bH e (bj 0 y)) y.pos
 |.wu l r,y=>.BoolOp .And [bH l (bj 0 y),bH r (bj 1 y)] y.pos
 |.zq t c d,y=>.IfExp (mD t (bj 0 y)) (bH c (bj 1 y)) (bH d (bj 2 y)) y.pos
 |.list _ es,y=>.List (jB es (ks y)) y.pos
 |.tup es,y=>.Tuple (jB es (ks y)) (pt y).2.1 y.pos
 |.call f as,y=>.Call (bH f (bj 0 y)) (jB as (ks y).tail) [] y.pos
 |.mC f as name k,y=>.Call (bH f (bj 0 y)) (jB as (ks y).tail) [⟨some name,bH k (pt y).2.2.2.2.value,(pt y).2.2.2.2.pos⟩] y.pos
 |.cA o name as,y=>.Call (.Attribute (bH o (bj 0 (bj 0 y))) name (bj 0 y).pos) (jB as (ks y).tail) [] y.pos
 |.attr o name,y=>.Attribute (bH o (bj 0 y)) name y.pos
 |.sub o i,y=>.Subscript (bH o (bj 0 y)) (bH i (bj 1 y)) y.pos
 |.slice o lo hi st,y=>.Subscript (bH o (bj 0 y)) (.Slice (bif lo.zr then none else some (bH lo (bj 0 (bj 1 y)))) (bif hi.zr then none else some (bH hi (bj 1 (bj 1 y)))) (bif st.zr then none else some (bH st (bj 2 (bj 1 y)))) (bj 1 y).pos) y.pos
 |.eB _ elt x iter cond _ _,y=>.ListComp (bH elt (bj 0 y)) [⟨.Name (nm x) (gen 0 y).target.pos,bH iter (gen 0 y).iter,j8 cond (gen 0 y).ifs,0⟩] (pt y).2.2.2.1 y.pos
 |.t4 _ elt x iter cond x2 x4 eE _ _,y=>.ListComp (bH elt (bj 0 y)) [⟨.Name (nm x) (gen 0 y).target.pos,bH iter (gen 0 y).iter,j8 cond (gen 0 y).ifs,0⟩,⟨.Name (nm x2) (gen 1 y).target.pos,bH x4 (gen 1 y).iter,j8 eE (gen 1 y).ifs,0⟩] (pt y).2.2.2.1 y.pos
noncomputable def jB:Es→List Expr→List Expr
 |.nil,_=>[]
 |.cons e r,l=>bH e (Et l)::jB r l.tail
noncomputable def mD:T→Expr→Expr
 |.val e,y=>bH e y
 |.cmp op l r,y=>.Compare (bH l (bj 0 y)) [op] [bH r (bj 1 y)] y.pos
 |.not t,y=>.UnaryOp .Not (mD t (bj 0 y)) y.pos
 |.and ts,y=>.BoolOp .And (j8 ts (ks y)) y.pos
 |.or ts,y=>.BoolOp .Or (j8 ts (ks y)) y.pos
noncomputable def j8:Ts→List Expr→List Expr
 |.nil,_=>[]
 |.cons t r,l=>mD t (Et l)::j8 r l.tail
end
mutual
noncomputable def bP:E→Scope→Expr→Bool
 |.glob x,sc,_=>Er nm sc x .globalImplicit
 |.bin _ l r,sc,y=>bP l sc (bj 0 y)&&bP r sc (bj 1 y)
 |.cmp op l r,sc,y=>bP l sc (bj 0 y)&&bP r sc (bj 1 y) && !behindInMarks op (bH nm r (bj 1 y))
 |.neg e,sc,y=>bP e sc (bj 0 y)
 |.inv e,sc,y=>bP e sc (bj 0 y)
 |.wu l r,sc,y=>bP l sc (bj 0 y)&&bP r sc (bj 1 y)
 |.zq t c d,sc,y=>mE t sc (bj 0 y)&&bP c sc (bj 1 y)&&bP d sc (bj 2 y)
 |.list _ es,sc,y=>iT es sc (ks y)
 |.tup es,sc,y=>iT es sc (ks y)
 |.call f as,sc,y=>bP f sc (bj 0 y)&&iT as sc (ks y).tail
 |.mC f as _ k,sc,y=>bP f sc (bj 0 y)&&iT as sc (ks y).tail&&bP k sc (pt y).2.2.2.2.value
 |.cA o _ as,sc,y=>!(o.kd==2)&&((bj 0 y).pos.endLine==y.pos.line)&&decide ((jB nm as (ks y).tail).length<20)&&bP o sc (bj 0 (bj 0 y))&&iT as sc (ks y).tail
 |.attr o _,sc,y=>!(o.kd==2)&&bP o sc (bj 0 y)
 |.sub o i,sc,y=>bP o sc (bj 0 y)&&bP i sc (bj 1 y)
 |.slice o lo hi st,sc,y=>bP o sc (bj 0 y)&&bP lo sc (bj 0 (bj 1 y))&&bP hi sc (bj 1 (bj 1 y))&&bP st sc (bj 2 (bj 1 y))
 |.eB _ elt x iter cond fr own,sc,y=>x5 nm (pt y).2.2.2.1 sc fr own&&jW nm (ju (pt y).2.2.2.1 sc) own x&&bP iter sc (gen 0 y).iter&&bP elt (ju (pt y).2.2.2.1 sc) (bj 0 y)&&jC cond (ju (pt y).2.2.2.1 sc) (gen 0 y).ifs
 |.t4 _ elt x iter cond x2 x4 eE fr own,sc,y=>x5 nm (pt y).2.2.2.1 sc fr own&&jW nm (ju (pt y).2.2.2.1 sc) own x&&jW nm (ju (pt y).2.2.2.1 sc) own x2&&bP iter sc (gen 0 y).iter&&bP x4 (ju (pt y).2.2.2.1 sc) (gen 1 y).iter&&bP elt (ju (pt y).2.2.2.1 sc) (bj 0 y)&&jC cond (ju (pt y).2.2.2.1 sc) (gen 0 y).ifs&&jC eE (ju (pt y).2.2.2.1 sc) (gen 1 y).ifs
 |_,_,_=>true
noncomputable def iT:Es→Scope→List Expr→Bool
 |.nil,_,_=>true
 |.cons e r,sc,l=>bP e sc (Et l)&&iT r sc l.tail
noncomputable def mE:T→Scope→Expr→Bool
 |.val e,sc,y=>!(e.kd==4)&&bP e sc y
 |.cmp op l r,sc,y=>bP l sc (bj 0 y)&&bP r sc (bj 1 y) && !behindInMarks op (bH nm r (bj 1 y))
 |.not t,sc,y=>mE t sc (bj 0 y)
 |.and ts,sc,y=>jC ts sc (ks y)
 |.or ts,sc,y=>jC ts sc (ks y)
noncomputable def jC:Ts→Scope→List Expr→Bool
 |.nil,_,_=>true
 |.cons t r,sc,l=>mE t sc (Et l)&&jC r sc l.tail
end
noncomputable def gV:Tg→Expr→Expr
 |.name x,y=>.Name (nm x) y.pos
 |.sub o i,y=>.Subscript (bH nm o (bj 0 y)) (bH nm i (bj 1 y)) y.pos
 |.g9 a b,y=>.Tuple [gV a (bj 0 y),gV b (bj 1 y)] (pt y).2.1 y.pos
 |.Dk a b c,y=>.Tuple [gV a (bj 0 y),gV b (bj 1 y),gV c (bj 2 y)] (pt y).2.1 y.pos
noncomputable def jD(sc:Scope)(own:List Nat):Tg→Expr→Bool
 |.name x,_=>jW nm sc own x
 |.sub o i,y=>bP nm o sc (bj 0 y)&&bP nm i sc (bj 1 y)
 |.g9 a b,y=>jD sc own a (bj 0 y)&&jD sc own b (bj 1 y)
 |.Dk a b c,y=>jD sc own a (bj 0 y)&&jD sc own b (bj 1 y)&&jD sc own c (bj 2 y)
noncomputable def pureOf{τ:Type}:Sem τ→Option τ
 |.pure a=>some a
 |_=>none
theorem Bb{τ:Type}{t:Sem τ}{a:τ}(h:pureOf t=some a):t=pure a:=by
 cases t<;>first|(cases h;rfl)|cases h
noncomputable def zt(sc:Scope):Env:=newEnv sc 0 0 [] "" none .none none 0
theorem HQ{env env':Env}(h:env.scope=env'.scope)(ts:List Expr)(e:Expr):swappedStores ts e env=swappedStores ts e env':=by
 unfold swappedStores Env.blockKind Env.kindOf;rw[h]
noncomputable def Tg.name?(t:Tg):Option Nat:=Tg.casesOn (motive:=fun zz=>Option Nat) t some (fun zz zz=>none) (fun zz zz=>none) (fun zz zz zz=>none)
noncomputable def Uu:Stmt→List Expr×List (List Stmt)
 |.Expr x _=>([x],[])
 |.Assign ts v _=>(v::ts,[])
 |.AugAssign t _ v _=>([t,v],[])
 |.If t b e _=>([t],[b,e])
 |.While t b _ _=>([t],[b])
 |.For t i b _ _=>([t,i],[b])
 |.Return v _=>([v.getD default],[])
 |_=>([],[])
noncomputable def sk(i:Nat)(x:Stmt):Expr:=(Uu x).1.getD i default
noncomputable def sb(i:Nat)(x:Stmt):List Stmt:=(Uu x).2.getD i []
noncomputable def HR(sc:Scope)(ts:List Expr)(v:Expr)(r:Option (List Str)):Bool:=isEqSome (pureOf (swappedStores ts v (zt sc))) r
mutual
noncomputable def pE:S→Stmt→Stmt
 |.expr e,y=>.Expr (bH nm e (sk 0 y)) y.pos
 |.asg t e,y=>.Assign [gV nm t (sk 1 y)] (bH nm e (sk 0 y)) y.pos
 |.OB t u e,y=>.Assign [gV nm t (sk 1 y),gV nm u (sk 2 y)] (bH nm e (sk 0 y)) y.pos
 |.Dl t u v e,y=>.Assign [gV nm t (sk 1 y),gV nm u (sk 2 y),gV nm v (sk 3 y)] (bH nm e (sk 0 y)) y.pos
 |.kE _ e,y=>.Assign [.Tuple (ks (sk 1 y)) (pt (sk 1 y)).2.1 (sk 1 y).pos] (bH nm e (sk 0 y)) y.pos
 |.aug x op e,y=>.AugAssign (.Name (nm x) (sk 0 y).pos) op (bH nm e (sk 1 y)) y.pos
 |.iff t b e,y=>.If (mD nm t (sk 0 y)) (dS b (sb 0 y)) (dS e (sb 1 y)) y.pos
 |.rm t b,y=>.While (mD nm t (sk 0 y)) (dS b (sb 0 y)) [] y.pos
 |.for x it b,y=>.For (.Name (nm x) (sk 0 y).pos) (bH nm it (sk 1 y)) (dS b (sb 0 y)) [] y.pos
 |.ret e,y=>.Return (some (bH nm e (sk 0 y))) y.pos
 |.HP,y=>.Return none y.pos
 |.pass,y=>.Pass y.pos
 |.brk,y=>.Break y.pos
 |.bad,y=>y
noncomputable def dS:Ss→List Stmt→List Stmt
 |.nil,_=>[]
 |.cons s r,l=>pE s (l.headD default)::dS r l.tail
 |.su _ r,l=>dS r l
end
mutual
noncomputable def t5:S→Scope→List Nat→Stmt→Bool
 |.expr e,sc,_,y=>!(e.kd==3)&&bP nm e sc (sk 0 y)
 |.asg t e,sc,own,y=>jD nm sc own t (sk 1 y)&&bP nm e sc (sk 0 y)&&(!(e.kd==3)||t.name?.isSome)&&HR sc [gV nm t (sk 1 y)] (bH nm e (sk 0 y)) none
 |.OB t u e,sc,own,y=>jD nm sc own t (sk 1 y)&&jD nm sc own u (sk 2 y)&&bP nm e sc (sk 0 y)&&HR sc [gV nm t (sk 1 y),gV nm u (sk 2 y)] (bH nm e (sk 0 y)) none
 |.Dl t u v e,sc,own,y=>jD nm sc own t (sk 1 y)&&jD nm sc own u (sk 2 y)&&jD nm sc own v (sk 3 y)&&bP nm e sc (sk 0 y)&&HR sc [gV nm t (sk 1 y),gV nm u (sk 2 y),gV nm v (sk 3 y)] (bH nm e (sk 0 y)) none
 |.kE xs e,sc,own,y=>xs.all (jW nm sc own)&&bP nm e sc (sk 0 y) && !(e.kd==3)&&HR sc [.Tuple (ks (sk 1 y)) (pt (sk 1 y)).2.1 (sk 1 y).pos] (bH nm e (sk 0 y)) (some (xs.map nm))
 |.aug x _ e,sc,own,y=>jW nm sc own x&&bP nm e sc (sk 1 y)
 |.iff t b e,sc,own,y=>mE nm t sc (sk 0 y)&&cX b sc own (sb 0 y)&&cX e sc own (sb 1 y)
 |.rm t b,sc,own,y=>mE nm t sc (sk 0 y)&&cX b sc own (sb 0 y)
 |.for x it b,sc,own,y=>jW nm sc own x&&bP nm it sc (sk 1 y)&&cX b sc own (sb 0 y)
 |.ret e,sc,_,y=>bP nm e sc (sk 0 y)
 |_,_,_,_=>true
noncomputable def cX:Ss→Scope→List Nat→List Stmt→Bool
 |.nil,_,_,_=>true
 |.cons s r,sc,own,l=>t5 s sc own (l.headD default)&&cX r sc own l.tail
 |.su _ r,sc,own,l=>cX r sc own l
end
end
section
variable{n:Nat}{env:Env}{own:List Nat}{U:aw}{O:Mu}
theorem fY.mono{t:Sem Bool}{Q Q':Bool→Mu→Prop}(h:fY G n env t U O Q)(hQ:∀v ar,Q v ar→Q' v ar):fY G n env t U O Q':=
 fun A hA B Z s I F=>wpAny_mono (h A hA B Z s I F) (fun zz _ ⟨ar,B',aH,q,r⟩=>⟨ar,B',aH,hQ _ _ q,r⟩) fun zz zz x=>x
theorem e7.mono{t:Sem (List Value)}{Q Q':List V→Mu→Prop}(h:e7 G n env t U O Q)(hQ:∀v ar,Q v ar→Q' v ar):e7 G n env t U O Q':=
 fun A hA B Z s I F=>wpAny_mono (h A hA B Z s I F) (fun zz _ ⟨v,ar,B',aH,q,r⟩=>⟨v,ar,B',aH,hQ _ _ q,r⟩) fun zz zz x=>x
theorem gF.mono{f:Value→Sem Unit}{v:V}{Q Q':aw→Mu→Prop}(h:gF G n env own f v U O Q)(hQ:∀ao ar,Q ao ar→Q' ao ar):gF G n env own f v U O Q':=
 fun A hA B Z s u I F r=>wpAny_mono (h A hA B Z s u I F r) (fun zz _ ⟨ao,ar,B',aH,q,r⟩=>⟨ao,ar,B',aH,hQ _ _ q,r⟩) fun zz zz x=>x
theorem HS{o:Expr}{name:Str}{apos pos:Pos}{args:List Expr}{Q:V→Mu→Prop}(t6:attributeBase o name env (eval o env)=eval o env)(hp:eJ args env)(hlen:args.length<20)(QL:(apos.endLine==pos.line)=true)
  (h:bz G n env (eval o env) U O fun v aA=>∃f,jA G name v aA f∧e7 G n env (spliced (backTo pos (starEach args env))) U aA fun vs aZ=>aU G n f (v::vs) [] aZ Q):
  bz G n env (eval (.Call (.Attribute o name apos) args [] pos) env) U O Q:=by
 intro A hA B Z s I F;rw[arm_eval_Call,t6];refine wpAny_bind (wpAny_mono (h A hA B Z s I F) ?_ fun zz zz x=>x);rintro x s1 ⟨v,aA,B1,aE,⟨f,⟨hk,hm⟩,bf⟩,P1,r1⟩;have F1:=F.same P1;refine wpAny_bind (wpAny_standAt ?_);have Uv:methodCallForm (args.length+([]:List Keyword).length) (backTo pos (starEach args env)) (backToKw pos (keywordEach [] env))=true:=by
  unfold methodCallForm;rw[hp,show backToKw pos (keywordEach [] env)=[] from rfl];unfold backTo;simp;exact ag 1 0 (aa (ak ab (nk 20)) (ak ab (nk 30))) (by kd_p) hlen
 have t7:methodCallPos true o env apos pos=pure pos:=by unfold methodCallPos;simp[QL]
 unfold methodCall;rw[Uv];refine wpAny_bind (wpAny_holding (hm _ B1 aE s1 x _ _ _ P1.inv r1 ?_));refine wpAny_bind (wpAny_of_eq t7 ?_);refine callWith_of (P:=fV G f) (by rw[plain_any hp];rfl) (fun zz h=>h) (iE (kws:=[]) hp rfl ?_)
 refine wpAny_mono (bf A hA B1 aE s1 P1.inv F1) ?_ fun zz zz x=>x;rintro xs s2 ⟨vs,aZ,B2,aV,bu,P2,r2⟩;refine kwAll_nil ⟨hk _ fun a o e=>P2.inv.holds a o (P2.inv.base a o e),?_⟩;exact wpAny_mono (bu A hA B2 aV s2 (x::xs) [] P2.inv (.cons (r1.mono P2.le P2.pre) r2) .nil) (fun z s6 Uw=>PV.after P1 (PV.after P2 Uw)) fun zz zz x=>x
theorem Ln{o:Expr}{name:Str}{pos:Pos}{Q:V→Mu→Prop}(t6:attributeBase o name env (eval o env)=eval o env)
  (h:bz G n env (eval o env) U O fun v aA=>s9 G n name v aA Q):bz G n env (eval (.Attribute o name pos) env) U O Q:=by
 intro A hA B Z s I F;rw[arm_eval_Attribute,t6];refine wpAny_bind (wpAny_mono (h A hA B Z s I F) ?_ fun zz zz x=>x);rintro x s1 ⟨v,aA,B1,aE,bf,P1,r1⟩;refine wpAny_bind (wpAny_standAt (wpAny_bind (wpAny_holding (wpAny_mono (bf A hA B1 aE s1 x P1.inv r1) (fun z s2 bu=>?_) fun zz zz x=>x))));exact wpAny_bind (wpAny_letTemporaryGo (wpAny_pure (PV.after P1 bu)))
theorem j9{st st':V→aw→Mu→List V→(aw→Mu→List V→Prop)→Prop}(h1:∀v U O acc k,st v U O acc k→st' v U O acc k)(h2:∀v U O acc k k',(∀a b c,k a b c→k' a b c)→st' v U O acc k→st' v U O acc k'):
  ∀ {xs:List V} {U:aw} {O:Mu} {acc:List V} {k:aw→Mu→List V→Prop},cb st xs U O acc k→cb st' xs U O acc k
 |[],_,_,_,_,h=>h
 |x::xs,U,O,acc,k,h=>h2 _ _ _ _ _ _ (fun a b c q=>j9 h1 h2 q) (h1 _ _ _ _ _ h)
theorem jd{st:V→aw→Mu→List V→(aw→Mu→List V→Prop)→Prop}(h2:∀v U O acc k k',(∀a b c,k a b c→k' a b c)→st v U O acc k→st v U O acc k'):
  ∀ {xs:List V} {U:aw} {O:Mu} {acc:List V} {k k':aw→Mu→List V→Prop},(∀a b c,k a b c→k' a b c)→cb st xs U O acc k→cb st xs U O acc k'
 |[],_,_,_,_,_,hk,h=>hk _ _ _ h
 |x::xs,U,O,acc,k,k',hk,h=>h2 _ _ _ _ _ _ (fun a b c q=>jd h2 hk q) h
theorem ly{st st':V→aw→Mu→(Fl→aw→Mu→Prop)→Prop}(h1:∀v U O k,st v U O k→st' v U O k)(h2:∀v U O k k',(∀a b c,k a b c→k' a b c)→st' v U O k→st' v U O k'):
  ∀ {xs:List V} {U:aw} {O:Mu} {k:Fl→aw→Mu→Prop},forL st xs U O k→forL st' xs U O k
 |[],_,_,_,h=>h
 |x::xs,U,O,k,h=>h2 _ _ _ _ _ (fun a b c q=>by
   cases a with
   |next=>exact ly h1 h2 q
   |cont=>exact ly h1 h2 q
   |brk=>exact q
   |ret v=>exact q) (h1 _ _ _ _ h)
theorem lA{ifs:List Expr}{k k':Bool→Mu→Prop}(h:∀a b,k a b→k' a b)(q:rd G n env ifs U O k):rd G n env ifs U O k':=by
 match ifs,q with
 |[],q=>exact h _ _ q
 |[c],q=>exact fY.mono (n:=n) q h
 |_::_::_,q=>exact q.elim
theorem ka{elt target:Expr}{ifs:List Expr}(v:V)(U:aw)(O:Mu)(acc:List V)(k k':aw→Mu→List V→Prop)(hk:∀a b c,k a b c→k' a b c)(h:gc G n env own elt target ifs v U O acc k):gc G n env own elt target ifs v U O acc k':=by
 refine gF.mono h fun a9 aA bf=>lA (fun b aZ bu=>?_) bf;cases b with
 |false=>exact hk _ _ _ bu
 |true=>exact bz.mono bu fun u dN wj=>⟨wj.1,hk _ _ _ wj.2⟩
theorem rn{elt t0 i1 t1:Expr}{f0 f1:List Expr}(v:V)(U:aw)(O:Mu)(acc:List V)(k k':aw→Mu→List V→Prop)(hk:∀a b c,k a b c→k' a b c)(h:gK G n env own elt t0 f0 i1 t1 f1 v U O acc k):gK G n env own elt t0 f0 i1 t1 f1 v U O acc k':=by
 refine gF.mono h fun a9 aA bf=>lA (fun b aZ bu=>?_) bf;cases b with
 |false=>exact hk _ _ _ bu
 |true=>exact bz.mono bu fun u dN ⟨xs,hi,wj⟩=>⟨xs,hi,jd ka hk wj⟩
end
theorem aL{a b:Bool}(h:(a&&b)=true):a=true:=(Bool.and_eq_true_iff.mp h).1
theorem aR{a b:Bool}(h:(a&&b)=true):b=true:=(Bool.and_eq_true_iff.mp h).2
theorem gj(nm:Nat→Str)(e:E)(y:Expr)(env:Env)(x:Value):foldedSetIterable (bH nm e y) env x=pure x:=by
 unfold foldedSetIterable;cases e<;>rfl
theorem ro{nm:Nat→Str}{e:E}{y:Expr}{name:Str}{env:Env}(h:(!(e.kd==2))=true):attributeBase (bH nm e y) name env (eval (bH nm e y) env)=eval (bH nm e y) env:=by
 cases e<;>first|rfl|exact nomatch (show false=true from h)
theorem x6(nm:Nat→Str)(e:E)(y:Expr)(o i:Value):subscripted (bH nm e y) false o i=operate [o,i] (getItem o i):=by
 unfold subscripted;cases e<;>rfl
theorem vG{nm:Nat→Str}{e:E}{y:Expr}(h:(!(e.kd==4))=true)(env:Env):isTrue (bH nm e y) env (eval (bH nm e y) env)=(do let v ←eval (bH nm e y) env;standAt (bH nm e y).pos;holding [v] (truthy v)):=by
 cases e<;>first|rfl|exact nomatch (show false=true from h)
theorem mF(nm:Nat→Str)(e:E)(y:Expr)(xs:List Expr)(env:Env):starEach (bH nm e y::xs) env=(false,eval (bH nm e y) env)::starEach xs env:=by
 cases e<;>rfl
theorem qt(nm:Nat→Str)(t:Tg)(y:Expr)(xs:List Expr)(env:Env):assignEach (gV nm t y::xs) env=(false,assign (gV nm t y) env)::assignEach xs env:=by
 cases t<;>rfl
theorem eF{nm:Nat→Str}:∀ {es:Es} {xs:List Expr} {env:Env},eJ (jB nm es xs) env
 |.nil,xs,env=>rfl
 |.cons e r,xs,env=>(mF nm e (Et xs) (jB nm r xs.tail) env).trans (congrArg _ eF)
theorem nA{nm:Nat→Str}{sc:Scope}{x:Nat}{k:NameKind}(h:Er nm sc x k=true):sc.names.lookup (nm x)=some k:=eq_of_beq h
theorem fB{nm:Nat→Str}{sc:Scope}{own:List Nat}{x:Nat}{env:Env}(hs:env.scope=sc)(hn:∀x,G.nm x=nm x)(h:jW nm sc own x=true):nV G env own x:=by
 unfold jW at h;simp only[Bool.and_eq_true,Bool.or_eq_true]at h;refine⟨by simpa using h.1,?_⟩
 unfold Env.kindOf;rw[hs,hn];exact h.2.imp nA nA
theorem pF:∀ {l:List Str},nz l=true→l.Nodup
 |[],_=>.nil
 |a::r,h=>by
  unfold nz at h;simp only[Bool.and_eq_true]at h;refine List.nodup_cons.mpr ⟨fun m=>?_,pF h.2⟩;have:=h.1;simp at this;exact this a m rfl
theorem wx{nm:Nat→Str}{sc outer:Scope}{zi wq:List Nat}(hn:∀x,G.nm x=nm x)(h:x5 nm sc outer zi wq=true):tR G sc outer zi wq:=by
 unfold x5 at h;simp only[Bool.and_eq_true]at h;obtain⟨⟨⟨⟨⟨h1,h2⟩,h3⟩,h4⟩,h5⟩,h6⟩:=h;have nd:=pF h3;refine⟨eq_of_beq h1,eq_of_beq h2,nd,fun x hx=>?_,fun p hp hk=>?_,fun p hp hk=>?_,fun x hx=>?_⟩
 ·have:=List.all_eq_true.mp h4 x hx
  simp only[Bool.and_eq_true]at this;rw[hn];exact⟨mem_of_lookupK (eq_of_beq this.1),eq_of_beq this.2⟩
 ·have:=List.all_eq_true.mp h5 p hp
  simp only[Bool.or_eq_true]at this;rcases this with q|q
  ·rw[hk]at q;simp at q
  ·refine aW (List.any_eq_true.mp q) ?_;intro x hx e
   exact⟨x,hx,by rw[hn];exact eq_of_beq e⟩
 ·have:(p.1,NameKind.local)∈sc.names:=hk▸hp
  exact cM nd this
 ·have:=List.all_eq_true.mp h6 x hx
  simp only[Bool.or_eq_true]at this;rw[hn];exact this.imp nA nA
section
variable(G:dn)(gl:Nat→Option Value)(n:Nat)
structure Ux(env:Env)(c:Bool)(x:Expr)(U:aw)(O:Mu)(Q:V→Mu→Prop):Prop where
 tr:bz G n env (eval x env) U O Q
 nm:c=true→(∀s p l,∃z,swapsWith x (some (.Name s p)) l env=pure z)∧∀ {px rh:Pos} {own:List Nat} {y:Nat} {R:Fl→aw→Mu→Prop},nV G env own y→swapsWith x (some (.Name (G.nm y) px)) rh.line env=pure true→(∀v ar,Q v ar→R .next (set U y v) ar)→
  cn G n env own (exec (.Assign [.Name (G.nm y) px] x rh) env) U O R
def qw:Prop:=∀x v,gl x=some v→G.gl x=some v
def cC(e:E)(U:aw)(O:Mu)(Q:V→Mu→Prop):Prop:=qw G gl→∀ (sc:Scope) (y:Expr) (env:Env),bP G.nm e sc y=true→env.scope=sc→Ux G n env (e.kd==3) (bH G.nm e y) U O Q
def mG(e:Es)(U:aw)(O:Mu)(Q:List V→Mu→Prop):Prop:=qw G gl→∀ (sc:Scope) (ys:List Expr) (env:Env) (pos:Pos),iT G.nm e sc ys=true→env.scope=sc→e7 G n env (spliced (backTo pos (starEach (jB G.nm e ys) env))) U O Q
def t8(t:T)(U:aw)(O:Mu)(Q:Bool→Mu→Prop):Prop:=qw G gl→∀ (sc:Scope) (y:Expr) (env:Env),mE G.nm t sc y=true→env.scope=sc→fY G n env (isTrue (mD G.nm t y) env (eval (mD G.nm t y) env)) U O Q
def x7(t:Ts)(U:aw)(O:Mu)(Q:Bool→Mu→Prop):Prop:=qw G gl→∀ (sc:Scope) (ys:List Expr) (env:Env),jC G.nm t sc ys=true→env.scope=sc→fY G n env (allTrue .And (j8 G.nm t ys) env) U O Q
def eh(t:Ts)(U:aw)(O:Mu)(Q:Bool→Mu→Prop):Prop:=qw G gl→∀ (sc:Scope) (ys:List Expr) (env:Env),jC G.nm t sc ys=true→env.scope=sc→rd G n env (j8 G.nm t ys) U O Q
end
section
variable(G:dn)(gl:Nat→Option Value)(n:Nat)
abbrev HT{β:Type}(F:V→Mu→β→Prop)(Q:β):V→Mu→Prop:=fun v O=>F v O Q
abbrev YB(F:V→V→Mu→(V→Mu→Prop)→Prop)(v:V)(Q:V→Mu→Prop):V→Mu→Prop:=fun u O=>F v u O Q
abbrev Lo(r:E)(U:aw)(F:V→V→Mu→(V→Mu→Prop)→Prop)(Q:V→Mu→Prop):V→Mu→Prop:=fun v O=>cC G gl n r U O (YB F v Q)
abbrev Uy(r:E)(U:aw)(Q:V→Mu→Prop)(v:V):Bool→Mu→Prop:=fun b O=>match b with|true=>cC G gl n r U O Q|false=>Q v O
abbrev YC(r:E)(U:aw)(Q:V→Mu→Prop):V→Mu→Prop:=fun v O=>iP G n v O (Uy G gl n r U Q v)
abbrev Uz(c d:E)(U:aw)(Q:V→Mu→Prop):Bool→Mu→Prop:=fun b O=>match b with|true=>cC G gl n c U O Q|false=>cC G gl n d U O Q
abbrev YD(m:Bool)(Q:V→Mu→Prop):List V→Mu→Prop:=fun vs O=>gM vs.length∧dg m Q O vs
abbrev YE(Q:V→Mu→Prop):List V→Mu→Prop:=fun vs O=>gM vs.length∧Q (.tuple vs) O
abbrev QM(fv:V)(Q:V→Mu→Prop):List V→Mu→Prop:=fun vs O=>bD G n fv vs [] O Q
abbrev UA(fv:V)(vs:List V)(name:Str)(Q:V→Mu→Prop):V→Mu→Prop:=fun u O=>bD G n fv vs [(name,u)] O Q
abbrev YF(fv:V)(k:E)(name:Str)(U:aw)(Q:V→Mu→Prop):List V→Mu→Prop:=fun vs O=>cC G gl n k U O (UA G n fv vs name Q)
abbrev UB(f:Value)(v:V)(Q:V→Mu→Prop):List V→Mu→Prop:=fun vs O=>aU G n f (v::vs) [] O Q
abbrev YG(name:Str)(args:Es)(U:aw)(Q:V→Mu→Prop):V→Mu→Prop:=fun v O=>∃f,jA G name v O f∧mG G gl n args U O (UB G n f v Q)
end
theorem ev{n:Nat}{env:Env}{x:Expr}{U:aw}{O:Mu}{Q:V→Mu→Prop}(h:bz G n env (eval x env) U O Q):Ux G n env false x U O Q:=⟨h,nofun⟩
section
variable{gl:Nat→Option Value}{n:Nat}{U:aw}{O:Mu}{Q:V→Mu→Prop}
theorem bU{x:Nat}{v:V}(h:get U x=some v)(q:Q v O):cC G gl n (.var x) U O Q:=fun zz zz zz zz zz zz=>ev (xM h q)
theorem t9{x:Nat}{v:Value}(h:gl x=some v)(q:Q (.raw v) O)(hg:qw G gl){sc:Scope}{y:Expr}{env:Env}(l:bP G.nm (.glob x) sc y=true)(hs:env.scope=sc):bz G n env (eval (bH G.nm (.glob x) y) env) U O Q:=
 KQ (by unfold Env.kindOf;rw[hs];exact nA l) (hg _ _ h) q
theorem wy{x:Nat}{v:Value}(h:gl x=some v)(q:Q (.raw v) O):cC G gl n (.glob x) U O Q:=fun hg zz zz zz l hs=>ev (t9 h q hg l hs)
theorem HU{i:Int}(h:Q (.int i) O):cC G gl n (.int i:E) U O Q:=fun zz zz zz zz zz zz=>ev (PO h)
theorem ua{x:Str}(h:Q (.str x) O):cC G gl n (.str x:E) U O Q:=fun zz zz zz zz zz zz=>ev (PQ h)
theorem wz{b:Bool}(h:Q (.bool b) O):cC G gl n (.bool b:E) U O Q:=fun zz zz zz zz zz zz=>ev (KR h)
theorem HV(h:Q .none O):cC G gl n (.vF:E) U O Q:=fun zz zz zz zz zz zz=>ev (KS h)
theorem zu{op:Operator}{l r:E}(w:cC G gl n l U O (Lo G gl n r U (cB G n op) Q)):cC G gl n (.bin op l r:E) U O Q:=fun hg zz zz zz h hs=>
 ev (G3 (bz.mono (w hg _ _ _ (aL h) hs).tr fun v aA w1=>(w1 hg _ _ _ (aR h) hs).tr))
theorem HW{op:CmpOp}{l r:E}(w:cC G gl n l U O (Lo G gl n r U (bW G n op) Q)):cC G gl n (.cmp op l r:E) U O Q:=fun hg zz zz zz h hs=>
 ev (PR (bz.mono (w hg _ _ _ (aL (aL h)) hs).tr fun v aA w1=>(w1 hg _ _ _ (aR (aL h)) hs).tr) (Bool.not_eq_true' _▸aR h))
theorem HX{e:E}(w:cC G gl n e U O (HT (Dj G n .USub) Q)):cC G gl n (.neg e:E) U O Q:=fun hg zz zz zz h hs=>ev (Ou (w hg _ _ _ h hs).tr)
theorem HY{e:E}(w:cC G gl n e U O (HT (Dj G n .Invert) Q)):cC G gl n (.inv e:E) U O Q:=fun hg zz zz zz h hs=>ev (Ou (w hg _ _ _ h hs).tr)
theorem Eu{l r:E}(w:cC G gl n l U O (YC G gl n r U Q)):cC G gl n (.wu l r:E) U O Q:=fun hg zz zz zz h hs=>by
 refine ev (KZ (bz.mono (w hg _ _ _ (aL h) hs).tr fun v aA w1 A hA B Z s x I r1=>wpAny_mono (w1 A hA B Z s x I r1) ?_ fun zz zz x=>x));rintro b s2 ⟨aZ,B2,aV,q,P2⟩;refine⟨aZ,B2,aV,?_,P2⟩;cases b with
 |true=>exact(q hg _ _ _ (aR h) hs).tr
 |false=>exact q
theorem HZ{t:T}{c d:E}(w:t8 G gl n t U O (Uz G gl n c d U Q)):cC G gl n (.zq t c d:E) U O Q:=fun hg zz zz zz h hs=>by
 refine ev (G5 (fY.mono (w hg _ _ _ (aL (aL h)) hs) fun b aA w1=>?_));cases b with
 |true=>exact(w1 hg _ _ _ (aR (aL h)) hs).tr
 |false=>exact(w1 hg _ _ _ (aR h) hs).tr
theorem Ew{m:Bool}{es:Es}(w:mG G gl n es U O (YD m Q)):cC G gl n (.list m es:E) U O Q:=fun hg zz zz zz h hs=>by
 have w':=fun pos=>e7.mono (w hg _ _ _ pos h hs) fun vs aA w1=>(⟨w1.1.ok,w1.2⟩:vs.length≤sizeLine∧_);cases m with
 |false=>exact ev (K3 (w' _))
 |true=>exact ev (G6 (w' _))
theorem uc{es:Es}(w:mG G gl n es U O (YE Q)):cC G gl n (.tup es:E) U O Q:=fun hg zz zz zz h hs=>
 ev (G7 (e7.mono (w hg _ _ _ _ h hs) fun vs aA w1=>⟨w1.1.ok,w1.2⟩))
theorem ud{s:Str}{p pos:Pos}{args:Es}{fv:V}{env:Env}{ys:List Expr}{sc:Scope}(hf:∀ {R:V→Mu→Prop},R fv O→bz G n env (eval (.Name s p) env) U O R)(w:mG G gl n args U O (QM G n fv Q))(hg:qw G gl)(h:iT G.nm args sc ys=true)(hs:env.scope=sc):
  bz G n env (eval (.Call (.Name s p) (jB G.nm args ys) [] pos) env) U O Q:=
 xU rfl eF rfl (hf (e7.mono (w hg _ _ _ _ h hs) fun vs aZ w2=>A1 ⟨[],rfl,rfl,w2⟩))
theorem Bc{x:Nat}{v:V}{args:Es}(hx:get U x=some v)(w:mG G gl n args U O (QM G n v Q)):cC G gl n (.call (.var x) args:E) U O Q:=fun hg zz zz zz h hs=>ev (ud (fun q=>xM hx q) w hg (aR h) hs)
theorem Ex{x:Nat}{v:Value}{args:Es}(hx:gl x=some v)(w:mG G gl n args U O (QM G n (.raw v) Q)):cC G gl n (.call (.glob x) args:E) U O Q:=fun hg zz zz zz h hs=>ev (ud (fun q=>t9 (y:=.Name (G.nm x) _) hx q hg (aL h) hs) w hg (aR h) hs)
theorem Bd{x:Nat}{v:Value}{k:E}{args:Es}{name:Str}(hx:gl x=some v)(w:mG G gl n args U O (YF G gl n (.raw v) k name U Q)):cC G gl n (.mC (.glob x) args name k:E) U O Q:=fun hg zz zz zz h hs=>
 ev (xU rfl eF rfl (t9 hx (e7.mono (w hg _ _ _ _ (aR (aL h)) hs) fun vs aZ w2=>Dg (bz.mono (w2 hg _ _ _ (aR h) hs).tr fun u dN w3=>A1 ⟨[(_,u)],rfl,rfl,w3⟩)) hg (aL (aL h)) hs))
theorem bB{o:E}{name:Str}{args:Es}(w:cC G gl n o U O (YG G gl n name args U Q)):cC G gl n (.cA o name args:E) U O Q:=fun hg zz zz zz h hs=>
 ev (HS (ro (aL (aL (aL (aL h))))) eF (of_decide_eq_true (aR (aL (aL h)))) (aR (aL (aL (aL h)))) (bz.mono (w hg _ _ _ (aR (aL h)) hs).tr fun v aA ⟨f,hf,w1⟩=>⟨f,hf,w1 hg _ _ _ _ (aR h) hs⟩))
theorem Ey{o:E}{name:Str}(w:cC G gl n o U O (HT (s9 G n name) Q)):cC G gl n (.attr o name:E) U O Q:=fun hg zz zz zz h hs=>ev (Ln (ro (aL h)) (w hg _ _ _ (aR h) hs).tr)
theorem H0{o i:E}(w:cC G gl n o U O (Lo G gl n i U (gg G n) Q)):cC G gl n (.sub o i:E) U O Q:=fun hg zz zz zz h hs=>
 ev (Qz (bz.mono (w hg _ _ _ (aL h) hs).tr fun v aA w1=>(w1 hg _ _ _ (aR h) hs).tr) (x6 _ _ _))
theorem oF{v:V}{p:Option Int}(h:pD v=some p):v=jw p:=by
 unfold pD at h;split at h
 ·cases Option.some.inj h;rfl
 ·cases Option.some.inj h;rfl
 ·exact bk h
def UC(G:dn)(n:Nat)(v l u s:V)(O:Mu)(Q:V→Mu→Prop):Prop:=∃a b c,l=jw a∧u=jw b∧s=jw c∧jx G n v a b c O Q
theorem UD{v l u s:V}{a b c:Option Int}(h1:pD l=some a)(h2:pD u=some b)(h3:pD s=some c)(h:jx G n v a b c O Q):UC G n v l u s O Q:=⟨a,b,c,oF h1,oF h2,oF h3,h⟩
def H2(gl:Nat→Option Value)(n:Nat)(G:dn)(e:E)(U:aw)(O:Mu)(Q:V→Mu→Prop):Prop:=qw G gl→∀ (sc:Scope) (y:Expr) (env:Env),bP G.nm e sc y=true→env.scope=sc→bz G n env (evalPart (bif e.zr then none else some (bH G.nm e y)) env) U O Q
theorem Lp(q:Q .none O):H2 gl n G .no U O Q:=fun zz zz zz env zz zz A hA B Z s I F=>by
 show wpAny _ _ (evalPart none env) _ _ _;rw[evalPart_none];exact wpAny_pure (PV.bQ I .none q)
theorem YH{e:E}(he:e.zr=false)(w:cC G gl n e U O Q):H2 gl n G e U O Q:=fun hg zz zz zz h hs=>by
 rw[he,cond_false,evalPart_some];exact(w hg _ _ _ h hs).tr
abbrev UE(G:dn)(n:Nat)(v l u:V)(Q:V→Mu→Prop):V→Mu→Prop:=fun s O=>UC G n v l u s O Q
abbrev UG(G:dn)(gl:Nat→Option Value)(n:Nat)(st:E)(U:aw)(v l:V)(Q:V→Mu→Prop):V→Mu→Prop:=fun u O=>H2 gl n G st U O (UE G n v l u Q)
abbrev UH(G:dn)(gl:Nat→Option Value)(n:Nat)(hi st:E)(U:aw)(v:V)(Q:V→Mu→Prop):V→Mu→Prop:=fun l O=>H2 gl n G hi U O (UG G gl n st U v l Q)
abbrev UI(G:dn)(gl:Nat→Option Value)(n:Nat)(lo hi st:E)(U:aw)(Q:V→Mu→Prop):V→Mu→Prop:=fun v O=>H2 gl n G lo U O (UH G gl n hi st U v Q)
theorem Be{o lo hi st:E}(w:cC G gl n o U O (UI G gl n lo hi st U Q)):cC G gl n (.slice o lo hi st) U O Q:=fun hg zz zz zz h hs=>
 ev (Hy (bz.mono (w hg _ _ _ (aL (aL (aL h))) hs).tr fun v aA w1=>bz.mono (w1 hg _ _ _ (aR (aL (aL h))) hs) fun l aZ w2=>bz.mono (w2 hg _ _ _ (aR (aL h)) hs) fun u dN w3=>w3 hg _ _ _ (aR h) hs))
theorem bK{xs:List V}(q:Q (.list xs) O):dg false Q O xs:=q
end
theorem Lq{n:Nat}{env:Env}{own:List Nat}{t:Sem Flow}{U:aw}{O:Mu}{Q:Fl→aw→Mu→Prop}{x i:Nat}{xs:List V}(hx:get U x=some (.ml i))(hi:O[i]?=some (some xs))
  (h:cn G n env own t (set U x (.list xs)) (O.set i none) Q):cn G n env own t U O Q:=by
 intro A hA B Z s I F;have bA:=(List.getElem?_eq_some_iff.mp hi).1;rw[←I.len]at bA;have hl:Z[i]?=some Z[i]:=List.getElem?_eq_getElem bA;refine oy (I.freeze hl hi) ?_;intro vs k r e I';have hm:Z[i]∈Z:=List.getElem_mem _;have le:ay.le B (B.add Z[i] (lobj vs k)):=ay.iA (I.ml i _ xs hl hi).1;have hv:VR (B.add Z[i] (lobj vs k)) Z (.list xs) (.ref Z[i]):=.list (ay.dc ..) r.1 ((r.any Z).mono le (List.prefix_refl _)).2;have ref:∀u,VR B Z (.ml i) u→u=.ref Z[i]:=fun u hu=>by
  cases hu with
  |ml e=>rw[hl]at e;cases Option.some.inj e;rfl
 have F':bt G env (B.add Z[i] (lobj vs k)) Z (set U x (.list xs)) s.heap:=by
  refine aW F.ns ?_;intro m jb xJ;refine⟨F.kind,F.gl,F.bi,⟨m,jb,fun y v hy hk=>?_⟩,fun y v hy=>?_,⟨?_,F.cV.2⟩,fun n' c hc=>?_,F.inj,F.all⟩
  ·rw[get_set]at hy
   by_cases q:x=y
   ·subst q
    rw[if_pos rfl]at hy;cases Option.some.inj hy;refine aW (xJ x _ hx hk) ?_;intro u h1 h2;exact⟨u,h1,ref u h2▸hv⟩
   ·rw[if_neg q]at hy
    refine aW (xJ y v hy hk) ?_;intro u h1 h2;exact⟨u,h1,h2.mono le (List.prefix_refl _)⟩
  ·rw[get_set]at hy
   by_cases q:x=y
   ·subst q
    rw[if_pos rfl]at hy;cases Option.some.inj hy;rcases F.cl x _ hx with z|⟨hk,c,u,hc,eX,h2⟩
    ·exact .inl z
    ·exact .inr ⟨hk,c,u,hc,eX,ref u h2▸hv⟩
   ·rw[if_neg q]at hy
    rcases F.cl y v hy with z|⟨hk,c,u,hc,eX,h2⟩
    ·exact .inl z
    ·exact .inr ⟨hk,c,u,hc,eX,h2.mono le (List.prefix_refl _)⟩
  ·unfold ay.add
   rw[if_neg (fun q:env.locals=Z[i]=>F.cV.2.1 (q▸hm))];exact F.cV.1
  ·refine qe (F.dI n' c hc) ?_;intro a1 a2 a3
   refine⟨a1.imp id fun a1=>?_,a2,a3⟩;unfold ay.add;rw[if_neg (fun q:c=Z[i]=>a2 (q▸hm))];exact a1
 have P:aG G (fa G env own) B Z s (B.add Z[i] (lobj vs k)) Z (O.set i none) s:=by
  refine⟨le,List.prefix_refl _,I',.refl _ _,F.bL,.refl s,fun a ha=>?_,fun a ha=>.inl ha⟩;unfold ay.add at ha
  by_cases q:a=Z[i]
  ·exact .inr (.inl (q▸hm))
  ·rw[if_neg q]at ha;exact .inl ha
 refine wpAny_mono (h A hA _ Z s I' F') ?_ fun zz zz x=>x;rintro fl s' ⟨r',ao,ar,B',aH,q,P',Hg,rr⟩;exact⟨r',ao,ar,B',aH,q,P.trans P',Hg,rr⟩
section
variable{gl:Nat→Option Value}{n:Nat}
theorem du{nm:Nat→Str}{e:E}{y:Expr}(h:(!(e.kd==3))=true)(t:Option Expr)(l:Nat)(env:Env):swapsWith (bH nm e y) t l env=pure false:=by
 cases e<;>first|rfl|exact nomatch (show false=true from h)
theorem Bf{τ:Type} [BEq τ] [LawfulBEq τ] {o:Option τ} {a:τ} (h:isEqSome o a=true):o=some a:=by
 unfold isEqSome at h;cases o with
 |none=>cases h
 |some b=>rw[eq_of_beq h]
theorem te{sc:Scope}{ts:List Expr}{e:Expr}{env:Env}{r:Option (List Str)}(hs:env.scope=sc)(h:HR sc ts e r=true):swappedStores ts e env=pure r:=by
 rw[HQ (env':=zt sc) (by rw[hs];rfl)]
 exact Bb (Bf h)
theorem wA(hg:qw G gl){cenv:Env}{sc:Scope}{own:List Nat}(hc:cenv.scope=sc){x:Nat}{p:Pos}{elt:E}{y:Expr}{cond:Ts}{ifs:List Expr}(ho:jW G.nm sc own x=true)(he:bP G.nm elt sc y=true)(hi:jC G.nm cond sc ifs=true)
  {v:V}{U:aw}{O:Mu}{acc:List V}{k:aw→Mu→List V→Prop}(hk:eh G gl n cond (set U x v) O fun b aZ=>match b with|false=>k (set U x v) aZ acc|true=>cC G gl n elt (set U x v) aZ fun u dN=>gM (acc.length+1)∧k (set U x v) dN (acc++[u])):gc G n cenv own (bH G.nm elt y) (.Name (G.nm x) p) (j8 G.nm cond ifs) v U O acc k:=by
 unfold gc;refine nh (fB hc (fun zz=>rfl) ho) (lA (fun b aZ q=>?_) (hk hg _ _ _ hi hc));cases b with
 |false=>exact q
 |true=>exact bz.mono (q hg _ _ _ he hc).tr fun u dN w3=>⟨w3.1.ok,w3.2⟩
theorem Ez(hg:qw G gl){cenv:Env}{sc:Scope}{own:List Nat}(hc:cenv.scope=sc){x x2:Nat}{p p2:Pos}{elt me:E}{y y2:Expr}{cond eE:Ts}{ifs OC:List Expr}(ho:jW G.nm sc own x=true)(YI:jW G.nm sc own x2=true)(he:bP G.nm elt sc y=true)(kF:bP G.nm me sc y2=true)(hi:jC G.nm cond sc ifs=true)(hj:jC G.nm eE sc OC=true)
  {v:V}{U:aw}{O:Mu}{acc:List V}{k:aw→Mu→List V→Prop}(hk:eh G gl n cond (set U x v) O fun b aZ=>match b with|false=>k (set U x v) aZ acc|true=>cC G gl n me (set U x v) aZ fun w dN=>∃ys,Iter G w dN ys∧(cb (fun v U O acc k=>eh G gl n eE (set U x2 v) O fun b aZ=>(match b with|false=>k (set U x2 v) aZ acc|true=>cC G gl n elt (set U x2 v) aZ fun u dN=>gM (acc.length+1)∧k (set U x2 v) dN (acc++[u]))) ys (set U x v) dN acc k)):gK G n cenv own (bH G.nm elt y) (.Name (G.nm x) p) (j8 G.nm cond ifs) (bH G.nm me y2) (.Name (G.nm x2) p2) (j8 G.nm eE OC) v U O acc k:=by
 unfold gK;refine nh (fB hc (fun zz=>rfl) ho) (lA (fun b aZ q=>?_) (hk hg _ _ _ hi hc));cases b with
 |false=>exact q
 |true=>exact bz.mono (q hg _ _ _ kF hc).tr fun u dN ⟨ys,hy,w3⟩=>⟨ys,hy,j9 (fun v U O acc k hk=>wA hg hc YI he hj hk) ka w3⟩
theorem rq{m:Bool}{Q Q':V→Mu→Prop}(h:∀v O,Q v O→Q' v O){O:Mu}{xs:List V}(q:dg m Q O xs):dg m Q' O xs:=by
 cases m with
 |false=>exact h _ _ q
 |true=>exact⟨q.1,h _ _ q.2⟩
section
variable{U:aw}{O:Mu}{Q:V→Mu→Prop}
abbrev UJ(k:aw→Mu→List V→Prop)(acc:List V)(U:aw):V→Mu→Prop:=fun u O=>gM (acc.length+1)∧k U O (acc++[u])
abbrev UK(G:dn)(gl:Nat→Option Value)(n:Nat)(elt:E)(U:aw)(acc:List V)(k:aw→Mu→List V→Prop):Bool→Mu→Prop:=fun b O=>match b with|false=>k U O acc|true=>cC G gl n elt U O (UJ k acc U)
abbrev OD(G:dn)(gl:Nat→Option Value)(n:Nat)(cond:Ts)(x:Nat)(elt:E):V→aw→Mu→List V→(aw→Mu→List V→Prop)→Prop:=fun v U O acc k=>eh G gl n cond (set U x v) O (UK G gl n elt (set U x v) acc k)
abbrev OE(m:Bool)(Q:V→Mu→Prop):aw→Mu→List V→Prop:=fun zz O acc=>dg m Q O acc
abbrev UL(G:dn)(gl:Nat→Option Value)(n:Nat)(m:Bool)(elt:E)(x:Nat)(cond:Ts)(fr:List Nat)(U:aw)(Q:V→Mu→Prop):V→Mu→Prop:=fun v O=>∃xs,Iter G v O xs∧cb (OD G gl n cond x elt) xs (cz U fr) O [] (OE m Q)
abbrev UM(G:dn)(gl:Nat→Option Value)(n:Nat)(x2:Nat)(eE:Ts)(elt:E)(U:aw)(acc:List V)(k:aw→Mu→List V→Prop):V→Mu→Prop:=fun w O=>∃ys,Iter G w O ys∧cb (OD G gl n eE x2 elt) ys U O acc k
abbrev UN(G:dn)(gl:Nat→Option Value)(n:Nat)(me:E)(x2:Nat)(eE:Ts)(elt:E)(U:aw)(acc:List V)(k:aw→Mu→List V→Prop):Bool→Mu→Prop:=fun b O=>match b with|false=>k U O acc|true=>cC G gl n me U O (UM G gl n x2 eE elt U acc k)
abbrev UO(G:dn)(gl:Nat→Option Value)(n:Nat)(cond:Ts)(x:Nat)(me:E)(x2:Nat)(eE:Ts)(elt:E):V→aw→Mu→List V→(aw→Mu→List V→Prop)→Prop:=fun v U O acc k=>eh G gl n cond (set U x v) O (UN G gl n me x2 eE elt (set U x v) acc k)
abbrev UP(G:dn)(gl:Nat→Option Value)(n:Nat)(m:Bool)(elt:E)(x:Nat)(cond:Ts)(me:E)(x2:Nat)(eE:Ts)(fr:List Nat)(U:aw)(Q:V→Mu→Prop):V→Mu→Prop:=fun v O=>∃xs,Iter G v O xs∧cb (UO G gl n cond x me x2 eE elt) xs (cz U fr) O [] (OE m Q)
theorem dE{m:Bool}{elt it:E}{x:Nat}{cond:Ts}{fr own:List Nat}
  (w:cC G gl n it U O (UL G gl n m elt x cond fr U Q)):cC G gl n (.eB m elt x it cond fr own) U O Q:=fun hg sc y env h hs=>by
 subst hs;have dP:=wx (G:=G) (fun zz=>rfl) (aL (aL (aL (aL h))));have core:=fun(aA:Mu) (xs:List V) cenv (hc:cenv.scope=ju _ env.scope) w1=>j9 (xs:=xs) (U:=cz U fr) (O:=aA) (acc:=[]) (k:=fun zz ar acc=>dg m Q ar acc) (st':=gc G n cenv own (bH G.nm elt (bj 0 y)) (.Name (G.nm x) (gen 0 y).target.pos) (j8 G.nm cond (gen 0 y).ifs))
  (fun v U O acc k hk=>wA hg hc (aR (aL (aL (aL h)))) (aR (aL h)) (aR h) hk) ka w1
 have w':=(w hg _ _ _ (aR (aL (aL h))) rfl).tr;exact⟨Hr m dP (gj _ _ _ env) (fun zz zz=>rfl) (bz.mono w' fun v aA ⟨xs,hi,w1⟩=>⟨xs,hi,fun cenv hc=>core aA xs cenv hc w1⟩),
  fun zz=>⟨fun zz zz zz=>⟨_,rfl⟩,fun hx zw hQ=>Hv m hx zw dP (gj _ _ _ env) (fun zz zz=>rfl) (bz.mono w' fun v aA ⟨xs,hi,w1⟩=>⟨xs,hi,fun cenv hc=>jd ka (fun zz zz zz q=>rq hQ q) (core aA xs cenv hc w1)⟩)⟩⟩
theorem zx{m:Bool}{elt it me:E}{x x2:Nat}{cond eE:Ts}{fr own:List Nat}
  (w:cC G gl n it U O (UP G gl n m elt x cond me x2 eE fr U Q)):cC G gl n (.t4 m elt x it cond x2 me eE fr own) U O Q:=fun hg sc y env h hs=>by
 subst hs;have PL:=aR h;have h:=aL h;have PK:=aR h;have h:=aL h;have PJ:=aR h;have h:=aL h;have PI:=aR h;have h:=aL h;have h9:=aR (aL h);have h8:=aR (aL (aL h));have dP:=wx (G:=G) (fun zz=>rfl) (aL (aL (aL h)));have core:=fun(aA:Mu) (xs:List V) cenv (hc:cenv.scope=ju _ env.scope) w1=>j9 (xs:=xs) (U:=cz U fr) (O:=aA) (acc:=[]) (k:=fun zz ar acc=>dg m Q ar acc) (st':=gK G n cenv own (bH G.nm elt (bj 0 y)) (.Name (G.nm x) (gen 0 y).target.pos) (j8 G.nm cond (gen 0 y).ifs) (bH G.nm me (gen 1 y).iter) (.Name (G.nm x2) (gen 1 y).target.pos) (j8 G.nm eE (gen 1 y).ifs))
  (fun v U O acc k hk=>Ez hg hc h8 h9 PJ PI PK PL hk) rn w1
 have w':=(w hg _ _ _ (aR h) rfl).tr;exact⟨Hs m dP (gj _ _ _ env) (gj _ _ _) (fun zz zz=>rfl) (fun zz zz=>rfl) (bz.mono w' fun v aA ⟨xs,hi,w1⟩=>⟨xs,hi,fun cenv hc=>core aA xs cenv hc w1⟩),
  fun zz=>⟨fun zz zz zz=>⟨_,rfl⟩,fun hx zw hQ=>Hw m hx zw dP (gj _ _ _ env) (gj _ _ _) (fun zz zz=>rfl) (fun zz zz=>rfl) (bz.mono w' fun v aA ⟨xs,hi,w1⟩=>⟨xs,hi,fun cenv hc=>jd rn (fun zz zz zz q=>rq hQ q) (core aA xs cenv hc w1)⟩)⟩⟩
end
end
section
variable(G:dn)(gl:Nat→Option Value)(n:Nat)
abbrev UQ(Q:List V→Mu→Prop)(v:V):List V→Mu→Prop:=fun vs O=>Q (v::vs) O
abbrev YJ(r:Es)(U:aw)(Q:List V→Mu→Prop):V→Mu→Prop:=fun v O=>mG G gl n r U O (UQ Q v)
abbrev UR(r:Ts)(U:aw)(Q:Bool→Mu→Prop):Bool→Mu→Prop:=fun b O=>match b with|true=>x7 G gl n r U O Q|false=>Q false O
end
section
variable{gl:Nat→Option Value}{n:Nat}{U:aw}{O:Mu}
theorem kT{Q:List V→Mu→Prop}(w:Q [] O):mG G gl n (.nil:Es) U O Q:=fun zz zz zz zz zz zz zz=>Qj w
theorem gk{Q:List V→Mu→Prop}{e:E}{r:Es}(w:cC G gl n e U O (YJ G gl n r U Q)):mG G gl n (.cons e r:Es) U O Q:=fun hg zz zz zz zz h hs=>
 K1 (bz.mono (w hg _ _ _ (aL h) hs).tr fun v aA w1=>w1 hg _ _ _ _ (aR h) hs) (mF _ _ _ _ _)
section
variable{Q:Bool→Mu→Prop}
theorem ue{e:E}(w:cC G gl n e U O (HT (iP G n) Q)):t8 G gl n (.val e:T) U O Q:=fun hg zz zz env h hs=>
 KY (w hg _ _ _ (aR h) hs).tr (vG (aL h) env)
theorem zy{op:CmpOp}{l r:E}(w:cC G gl n l U O (Lo G gl n r U (bW G n op) (HT (iP G n) Q))):t8 G gl n (.cmp op l r:T) U O Q:=fun hg zz zz zz h hs=>
 tJ (bz.mono (w hg _ _ _ (aL (aL h)) hs).tr fun v aA w1=>(w1 hg _ _ _ (aR (aL h)) hs).tr) (Bool.not_eq_true' _▸aR h)
theorem H3{ts:Ts}(w:x7 G gl n ts U O Q):t8 G gl n (.and ts:T) U O Q:=fun hg zz zz zz h hs=>ra (w hg _ _ _ h hs)
theorem Bg(w:Q true O):x7 G gl n (.nil:Ts) U O Q:=fun zz zz zz zz zz zz=>vC w
theorem zA{t:T}{r:Ts}(w:t8 G gl n t U O (UR G gl n r U Q)):x7 G gl n (.cons t r:Ts) U O Q:=fun hg zz zz zz h hs=>by
 refine tK (fY.mono (w hg _ _ _ (aL h) hs) fun b aA w1=>?_);cases b with
 |true=>exact w1 hg _ _ _ (aR h) hs
 |false=>exact w1
theorem cR(w:Q true O):eh G gl n (.nil:Ts) U O Q:=fun zz zz zz zz zz zz=>w
theorem kU{t:T}(w:t8 G gl n t U O Q):eh G gl n (.cons t .nil:Ts) U O Q:=fun hg zz zz zz h hs=>w hg _ _ _ (aL h) hs
end
section
variable{R:aw→Mu→Prop}{v:V}
def qx(G:dn)(gl:Nat→Option Value)(n:Nat)(t:Tg)(v:V)(U:aw)(O:Mu)(R:aw→Mu→Prop):Prop:=qw G gl→∀ (sc:Scope) (own:List Nat) (y:Expr) (env:Env),jD G.nm sc own t y=true→env.scope=sc→gF G n env own (assign (gV G.nm t y) env) v U O R
section
variable(G:dn)(gl:Nat→Option Value)(n:Nat)
abbrev US(ov v:V)(R:aw→Mu→Prop)(U:aw):V→Mu→Prop:=fun iv O=>xW G n ov iv v O (R U)
abbrev YK(i:E)(U:aw)(v:V)(R:aw→Mu→Prop):V→Mu→Prop:=fun ov O=>cC G gl n i U O (US G n ov v R U)
abbrev H4(t:Tg)(v:V)(R:aw→Mu→Prop):aw→Mu→Prop:=fun U O=>qx G gl n t v U O R
end
theorem gx{x:Nat}(w:R (set U x v) O):qx G gl n (.name x:Tg) v U O R:=fun zz zz zz zz zz h hs=>nh (fB hs (fun zz=>rfl) h) w
theorem H5{o i:E}(w:cC G gl n o U O (YK G gl n i U v R)):qx G gl n (.sub o i:Tg) v U O R:=fun hg zz zz zz zz h hs=>
 QA (bz.mono (w hg _ _ _ (aL h) hs).tr fun ov aA w1=>(w1 hg _ _ _ (aR h) hs).tr)
theorem mH{env:Env}:jy [] env:=rfl
theorem eS{nm:Nat→Str}{t:Tg}{y:Expr}{xs:List Expr}{env:Env}(h:jy xs env):jy (gV nm t y::xs) env:=(qt nm t y xs env).trans (congrArg _ h)
theorem nB{a b:Tg}{x y:V}(hu:HH v=some [x,y])(w:qx G gl n a x U O (H4 G gl n b y R)):qx G gl n (.g9 a b) v U O R:=fun hg zz zz zz zz h hs=>
 HC (eS (eS mH)) (xY hu) rfl (gF.mono (w hg _ _ _ _ (aL h) hs) fun a9 aA w1=>w1 hg _ _ _ _ (aR h) hs)
theorem EA{a b c:Tg}{x y z:V}(hu:HH v=some [x,y,z])(w:qx G gl n a x U O (H4 G gl n b y (H4 G gl n c z R))):qx G gl n (.Dk a b c) v U O R:=fun hg zz zz zz zz h hs=>
 HC (eS (eS (eS mH))) (xY hu) rfl (gF.mono (w hg _ _ _ _ (aL (aL h)) hs) fun a9 aA w1=>gF.mono (w1 hg _ _ _ _ (aR (aL h)) hs) fun b9 aZ w2=>w2 hg _ _ _ _ (aR h) hs)
end
section
variable{Q:Fl→aw→Mu→Prop}
def wpS(G:dn)(gl:Nat→Option Value)(n:Nat)(t:S)(U:aw)(O:Mu)(Q:Fl→aw→Mu→Prop):Prop:=qw G gl→∀ (sc:Scope) (own:List Nat) (y:Stmt) (env:Env),sc.kind=.function→t5 G.nm t sc own y=true→env.scope=sc→cn G n env own (exec (pE G.nm t y) env) U O Q
def aX(G:dn)(gl:Nat→Option Value)(n:Nat)(t:Ss)(U:aw)(O:Mu)(Q:Fl→aw→Mu→Prop):Prop:=qw G gl→∀ (sc:Scope) (own:List Nat) (ys:List Stmt) (env:Env),sc.kind=.function→cX G.nm t sc own ys=true→env.scope=sc→cn G n env own (execs (dS G.nm t ys) env) U O Q
section
variable(G:dn)(gl:Nat→Option Value)(n:Nat)
abbrev YL(Q:Fl→aw→Mu→Prop)(U:aw):V→Mu→Prop:=fun zz O=>Q .next U O
abbrev YM(t:Tg)(U:aw)(Q:Fl→aw→Mu→Prop):V→Mu→Prop:=fun v O=>qx G gl n t v U O (Q .next)
abbrev UT(t u z:Tg)(U:aw)(Q:Fl→aw→Mu→Prop):V→Mu→Prop:=fun v O=>qx G gl n t v U O (H4 G gl n u v (H4 G gl n z v (Q .next)))
abbrev OG(Q:Fl→aw→Mu→Prop)(U:aw)(x:Nat):V→Mu→Prop:=fun v O=>Q .next (set U x v) O
abbrev UU(op:Operator)(v:V)(x:Nat)(U:aw)(Q:Fl→aw→Mu→Prop):V→Mu→Prop:=fun u O=>A6 G n op v u O (OG Q U x)
abbrev UW(b e:Ss)(U:aw)(Q:Fl→aw→Mu→Prop):Bool→Mu→Prop:=fun c O=>match c with|true=>aX G gl n b U O Q|false=>aX G gl n e U O Q
abbrev UX(J:Nat→aw→Mu→Prop)(k:Nat)(Q:Fl→aw→Mu→Prop):Fl→aw→Mu→Prop:=fun r fK cU=>match r with
    |.next=>∃m,m<k∧J m fK cU
    |.cont=>∃m,m<k∧J m fK cU
    |.brk=>Q .next fK cU
    |.ret v=>Q (.ret v) fK cU
abbrev YN(b:Ss)(J:Nat→aw→Mu→Prop)(k:Nat)(U:aw)(Q:Fl→aw→Mu→Prop):Bool→Mu→Prop:=fun c ar=>match c with
   |true=>aX G gl n b U ar (UX J k Q)
   |false=>Q .next U ar
abbrev UY(x:Nat)(b:Ss):V→aw→Mu→(Fl→aw→Mu→Prop)→Prop:=fun v U O k=>aX G gl n b (set U x v) O k
abbrev YO(x:Nat)(b:Ss)(U:aw)(Q:Fl→aw→Mu→Prop):V→Mu→Prop:=fun v O=>∃xs,Iter G v O xs∧forL (UY G gl n x b) xs U O Q
abbrev YQ(Q:Fl→aw→Mu→Prop)(U:aw):V→Mu→Prop:=fun v O=>Q (.ret v) U O
abbrev YR(r:Ss)(Q:Fl→aw→Mu→Prop):Fl→aw→Mu→Prop:=fun f U O=>match f with | .next=>aX G gl n r U O Q|f=>Q f U O
end
theorem EB{e:E}(w:cC G gl n e U O (YL Q U)):wpS G gl n (.expr e:S) U O Q:=fun hg zz zz zz zz hk h hs=>
 De (w hg _ _ _ (aR h) hs).tr (by unfold interactive;rw[hs,hk];rfl) (du (aL h) _ _ _)
theorem H6{e:E}{t:Tg}(ht:t.name?.isSome=false)(w:cC G gl n e U O (YM G gl n t U Q)):wpS G gl n (.asg t e:S) U O Q:=fun hg zz zz zz zz hk h hs=>
 xX (eS mH) (du ((Bool.or_eq_true_iff.mp (aR (aL h))).resolve_right (by rw[ht];exact Bool.false_ne_true)) _ _ _) (te hs (aR h)) (bz.mono (w hg _ _ _ (aR (aL (aL h))) hs).tr fun v aA w1=>w1 hg _ _ _ _ (aL (aL (aL h))) hs)
theorem wB{e:E}{x:Nat}(w:cC G gl n e U O (OG Q U x)):wpS G gl n (.asg (.name x) e:S) U O Q:=fun hg sc own y env hk h hs=>by
 have w':=w hg _ _ _ (aR (aL (aL h))) hs;have ho:=fB (x:=x) (own:=own) hs (fun zz=>rfl) (aL (aL (aL h)));have ha:=fun(hz:swapsWith (bH G.nm e (sk 0 y)) (some (.Name (G.nm x) (sk 1 y).pos)) y.pos.line env=pure false)=>xX (own:=own) (Q:=Q) (ts:=[gV G.nm (.name x) (sk 1 y)]) (pos:=y.pos) (eS mH) hz (te hs (aR h)) (bz.mono w'.tr fun u aA q=>nh ho q);cases hc:e.kd==3 with
 |false=>exact ha (du (by rw[hc];rfl) _ _ _)
 |true=>
  obtain⟨hz,hN⟩:=w'.nm hc;obtain⟨z,hz⟩:=hz (G.nm x) (sk 1 y).pos y.pos.line;cases z with
  |true=>exact hN ho hz fun zz zz q=>q
  |false=>exact ha hz
theorem EC{e:E}{t u z:Tg}(w:cC G gl n e U O (UT G gl n t u z U Q)):wpS G gl n (.Dl t u z e:S) U O Q:=fun hg zz zz zz zz hk h hs=>
 xX (eS (eS (eS mH))) rfl (te hs (aR h)) (bz.mono (w hg _ _ _ (aR (aL h)) hs).tr fun v aA w1=>
  gF.mono (w1 hg _ _ _ _ (aL (aL (aL (aL h)))) hs) fun zz zz w2=>gF.mono (w2 hg _ _ _ _ (aR (aL (aL (aL h)))) hs) fun zz zz w3=>w3 hg _ _ _ _ (aR (aL (aL h))) hs)
def UZ(xs:List Nat)(U:aw)(O:Mu)(Q:Fl→aw→Mu→Prop)(v:V):Prop:=∃vs,HH v=some vs∧vs.length=xs.length∧Q .next (bc U (xs.reverse.zip vs.reverse)) O
theorem U0{xs:List Nat}{vs:List V}(hl:vs.length=xs.length)(h:Q .next (bc U (xs.reverse.zip vs.reverse)) O):UZ xs U O Q (.tuple vs):=⟨vs,rfl,hl,h⟩
abbrev U1(xs:List Nat)(U:aw)(Q:Fl→aw→Mu→Prop):V→Mu→Prop:=fun v O=>UZ xs U O Q v
theorem Bh{xs:List Nat}{e:E}(w:cC G gl n e U O (U1 xs U Q)):wpS G gl n (.kE xs e) U O Q:=fun hg zz zz y env hk h hs=>
 HD (fun z hz=>fB hs (fun zz=>rfl) (List.all_eq_true.mp (aL (aL (aL h))) z hz)) (du (aR (aL h)) (some (.Tuple (ks (sk 1 y)) (pt (sk 1 y)).2.1 (sk 1 y).pos)) y.pos.line env) (te hs (aR h)) (bz.mono (w hg _ _ _ (aR (aL (aL h))) hs).tr fun v aA ⟨vs,hu,w1⟩=>⟨vs,xY hu,w1⟩)
theorem H7{x:Nat}{op:Operator}{e:E}{v:V}(hv:get U x=some v)(w:cC G gl n e U O (UU G n op v x U Q)):wpS G gl n (.aug x op e) U O Q:=fun hg zz zz zz zz hk h hs=>
 Ql (fB hs (fun zz=>rfl) (aL h)) hv (w hg _ _ _ (aR h) hs).tr
theorem H8{t:T}{b e:Ss}(w:t8 G gl n t U O (UW G gl n b e U Q)):wpS G gl n (.iff t b e:S) U O Q:=fun hg zz zz zz zz hk h hs=>by
 refine Ov (fY.mono (w hg _ _ _ (aL (aL h)) hs) fun c aA w1=>?_);cases c with
 |true=>exact w1 hg _ _ _ _ hk (aR (aL h)) hs
 |false=>exact w1 hg _ _ _ _ hk (aR h) hs
theorem ED{t:T}{b:Ss}(J:Nat→aw→Mu→Prop)(k0:Nat)(h0:J k0 U O)(w:∀k U O,J k U O→t8 G gl n t U O (YN G gl n b J k U Q)):wpS G gl n (.rm t b:S) U O Q:=fun hg zz zz zz zz hk h hs=>by
 refine Hf J k0 h0 fun k U O hj=>fY.mono (w k U O hj hg _ _ _ (aL h) hs) fun c aA w1=>?_;cases c with
 |true=>exact w1 hg _ _ _ _ hk (aR h) hs
 |false=>exact w1
theorem gN{x:Nat}{it:E}{b:Ss}(w:cC G gl n it U O (YO G gl n x b U Q)):wpS G gl n (.for x it b:S) U O Q:=fun hg zz own y env hk h hs=>by
 refine Qp (bz.mono (w hg _ _ _ (aR (aL h)) hs).tr fun v aA ⟨xs,hi,w1⟩=>⟨xs,hi,?_⟩) (gj _ _ _ env) (fun zz zz=>rfl);exact ly (st':=fun v U O k=>gF G n env own (assign (.Name (G.nm x) (sk 0 y).pos) env) v U O fun ao ar=>cn G n env own (execs (dS G.nm b (sb 0 y)) env) ao ar k) (fun v U O k gL=>nh (fB hs (fun zz=>rfl) (aL (aL h))) (gL hg _ _ _ _ hk (aR h) hs)) (fun v U O k k' EE fZ=>gF.mono fZ fun ao ar pq=>cn.mono pq EE) w1
theorem uf{e:E}(w:cC G gl n e U O (YQ Q U)):wpS G gl n (.ret e:S) U O Q:=fun hg zz zz zz zz hk h hs=>G8 (w hg _ _ _ h hs).tr
theorem EF(w:Q (.ret .none) U O):wpS G gl n (.HP:S) U O Q:=fun zz zz zz zz zz zz zz zz=>K4 w
theorem H9(w:Q .brk U O):wpS G gl n (.brk:S) U O Q:=fun zz zz zz zz zz zz zz zz=>Qk w
theorem eG(w:Q .next U O):aX G gl n (.nil:Ss) U O Q:=fun zz zz zz zz zz zz zz zz=>xP w
theorem ic{s:S}{r:Ss}(w:wpS G gl n s U O (YR G gl n r Q)):aX G gl n (.cons s r:Ss) U O Q:=fun hg zz zz zz zz hk h hs=>by
 refine j5 (cn.mono (w hg _ _ _ _ hk (aL h) hs) fun f a9 aA w1=>?_);cases f with
 |next=>exact w1 hg _ _ _ _ hk (aR h) hs
 |brk=>exact w1
 |cont=>exact w1
 |ret v=>exact w1
theorem nE{x:Nat}{r:Ss}{i:Nat}{xs:List V}(hx:get U x=some (.ml i))(hi:(O[i]?:Option (Option (List V)))=some (some xs))(w:aX G gl n r (set U x (.list xs)) (O.set i none) Q):aX G gl n (.su x r) U O Q:=fun hg sc own ys env hk h hs=>
 Lq hx hi (w hg _ _ _ _ hk h hs)
end
def qy(nm:Nat→Str)(e:E)(sc:Scope)(x:Expr):Prop:=bP nm e sc x=true∧bH nm e x=x
def x8(nm:Nat→Str)(e:T)(sc:Scope)(x:Expr):Prop:=mE nm e sc x=true∧mD nm e x=x
def Ia(nm:Nat→Str)(sc:Scope)(own:List Nat)(t:Tg)(x:Expr):Prop:=jD nm sc own t x=true∧gV nm t x=x
def mI(nm:Nat→Str)(st:S)(sc:Scope)(own:List Nat)(x:Stmt):Prop:=t5 nm st sc own x=true∧pE nm st x=x
section
variable{nm:Nat→Str}(hn:∀x,G.nm x=nm x)(hg:∀x v,gl x=some v→G.gl x=some v)
include hn in
theorem qz:nm=G.nm:=funext fun x=>(hn x).symm
include hn hg
theorem dG(e:E){sc:Scope}{y:Expr}{env:Env}{Q:V→Mu→Prop}(h:bP nm e sc y=true)(hs:env.scope=sc)(w:cC G gl n e U O Q):bz G n env (eval (bH nm e y) env) U O Q:=by
 cases qz hn;exact(w hg _ _ _ h hs).tr
theorem kW(e:Es){sc:Scope}{ys:List Expr}{env:Env}{pos:Pos}{Q:List V→Mu→Prop}(h:iT nm e sc ys=true)(hs:env.scope=sc)(w:mG G gl n e U O Q):e7 G n env (spliced (backTo pos (starEach (jB nm e ys) env))) U O Q:=by
 cases qz hn;exact w hg _ _ _ _ h hs
theorem nG(t:T){sc:Scope}{y:Expr}{env:Env}{Q:Bool→Mu→Prop}(h:mE nm t sc y=true)(hs:env.scope=sc)(w:t8 G gl n t U O Q):fY G n env (isTrue (mD nm t y) env (eval (mD nm t y) env)) U O Q:=by
 cases qz hn;exact w hg _ _ _ h hs
theorem x9{sc:Scope}{own:List Nat}(t:Tg){y:Expr}{env:Env}{v:V}{R:aw→Mu→Prop}(h:jD nm sc own t y=true)(hs:env.scope=sc)(w:qx G gl n t v U O R):gF G n env own (assign (gV nm t y) env) v U O R:=by
 cases qz hn;exact w hg _ _ _ _ h hs
theorem tf(st:S){sc:Scope}{own:List Nat}{y:Stmt}{env:Env}{Q:Fl→aw→Mu→Prop}(hk:sc.kind=.function)(h:t5 nm st sc own y=true)(hs:env.scope=sc)(w:wpS G gl n st U O Q):cn G n env own (exec (pE nm st y) env) U O Q:=by
 cases qz hn;exact w hg _ _ _ _ hk h hs
theorem eP(st:Ss){sc:Scope}{own:List Nat}{ys:List Stmt}{env:Env}{Q:Fl→aw→Mu→Prop}(hk:sc.kind=.function)(h:cX nm st sc own ys=true)(hs:env.scope=sc)(w:aX G gl n st U O Q):cn G n env own (execs (dS nm st ys) env) U O Q:=by
 cases qz hn;exact w hg _ _ _ _ hk h hs
theorem zB(e:E){sc:Scope}{x:Expr}{env:Env}{Q:V→Mu→Prop}(h:qy nm e sc x)(hs:env.scope=sc)(w:cC G gl n e U O Q):bz G n env (eval x env) U O Q:=h.2▸dG hn hg e h.1 hs w
theorem ug(t:T){sc:Scope}{x:Expr}{env:Env}{Q:Bool→Mu→Prop}(h:x8 nm t sc x)(hs:env.scope=sc)(w:t8 G gl n t U O Q):fY G n env (isTrue x env (eval x env)) U O Q:=h.2▸nG hn hg t h.1 hs w
theorem Ib{sc:Scope}{own:List Nat}(t:Tg){x:Expr}{env:Env}{v:V}{R:aw→Mu→Prop}(h:Ia nm sc own t x)(hs:env.scope=sc)(w:qx G gl n t v U O R):gF G n env own (assign x env) v U O R:=h.2▸x9 hn hg t h.1 hs w
theorem Ic(st:S){sc:Scope}{own:List Nat}{x:Stmt}{env:Env}{Q:Fl→aw→Mu→Prop}(hk:sc.kind=.function)(h:mI nm st sc own x)(hs:env.scope=sc)(w:wpS G gl n st U O Q):cn G n env own (exec x env) U O Q:=h.2▸tf hn hg st hk h.1 hs w
end
end
section
variable{n:Nat}{O:Mu}{Q:V→Mu→Prop}
theorem fh{f:Value}{v:V}(h:∀A,bY n A→∀B Z s x,Inv G B Z O s.heap→VR B Z v x→wpAny (model G.prog G.w) A (call f [x]) (PV G B Z s Q) bM s):aU G n f [v] [] O Q:=by
 intro A hA B Z s xs ks I rv rk;refine aB.aO rv ?_;intro x us r rs;rw[aB.fg rs,aB.fg rk];exact h A hA B Z s x I r
theorem ie{f:Value}{v u:V}(h:∀A,bY n A→∀B Z s x y,Inv G B Z O s.heap→VR B Z v x→VR B Z u y→wpAny (model G.prog G.w) A (call f [x,y]) (PV G B Z s Q) bM s):aU G n f [v,u] [] O Q:=by
 intro A hA B Z s xs ks I rv rk;refine aB.aO rv ?_;intro x us r rs;refine aB.aO rs ?_;intro y us r2 rs;rw[aB.fg rs,aB.fg rk];exact h A hA B Z s x y I r r2
theorem PV.keeps{B:ay}{Z:List Addr}{s:Shared}{v:V}{x:Value}{h':Heap}{tk:Nat}(I:Inv G B Z O s.heap)(k:∀b o,s.heap.get? b=some o→h'.get? b=some o)(r:VR B Z v x)(q:Q v O):PV G B Z s Q x {s with heap:=h',toks:=tk}:=
 ⟨v,O,B,Z,q,I.kz k (fun zz m=>nomatch m),r⟩
theorem cN{xs:List V}(bG:xs.length<2 ^ 62)(q:Q (.int xs.length) O):bD G n (.raw (.builtin "len")) [.list xs] [] O Q:=by
 refine bD.machine (fun zz e=>by cases e) (fh fun A hA B Z s x I r=>?_)
 refine br (held I r) ?_;intro a vs k z1;subst z1;intro g r1 zz;refine call_len_list (items:=vs.toArray) ⟨_,g,rfl,k,rfl⟩ (by simp[←r1.1];exact Py bG) ?_
 rw[show vs.toArray.size=xs.length by simp[r1.1]]
 exact PV.here I .int q
theorem fj{i:Nat}{xs:List V}(hi:O[i]?=some (some xs))(bG:xs.length<2 ^ 62)(q:Q (.int xs.length) O):bD G n (.raw (.builtin "len")) [.ml i] [] O Q:=by
 refine bD.machine (fun zz e=>by cases e) (fh fun A hA B Z s x I r=>?_)
 refine br (resolve I hi r) ?_;intro a vs k z1;subst z1;intro g r1 zz;refine call_len_list (items:=vs.toArray) ⟨_,g,rfl,k,rfl⟩ (by simp[←r1.1];exact Py bG) ?_
 rw[show vs.toArray.size=xs.length by simp[r1.1]]
 exact PV.here I .int q
theorem n8{xs:List V}(bG:xs.length<2 ^ 62)(q:Q (.int xs.length) O):bD G n (.raw (.builtin "len")) [.tuple xs] [] O Q:=by
 refine bD.machine (fun zz e=>by cases e) (fh fun A hA B Z s x I r=>?_)
 refine br (qq I r) ?_;intro a vs k z1;subst z1;intro g r1 zz;refine P.len_tuple (items:=vs.toArray) (n:=k) g (by simp[←r1.1];exact Py bG) ?_
 rw[show vs.toArray.size=xs.length by simp[r1.1]]
 exact PV.here I .int q
theorem zC{x:Str}(bG:x.length<2 ^ 62)(q:Q (.int x.length) O):bD G n (.raw (.builtin "len")) [.str x] [] O Q:=by
 refine bD.machine (fun zz e=>by cases e) (fh fun A hA B Z s y I r=>?_)
 refine VR.fQ r ?_;intro zz;exact PyProof.Rows.len_str (by exact ag 1 0 (aa (ak ab (nk (2 ^ 62))) (dJ (ai (zk (2 ^ 63)) (az ab)))) (by kd_p) bG) (PV.here I .int q)
theorem d5{a:Int}(q:Q (.gE 0 a) O):bD G n (.raw (.type "range")) [.int a] [] O Q:=by
 refine bD.machine (fun zz e=>by cases e) (fh fun A hA B Z s x I r=>?_)
 refine VR.bC r ?_;intro zz;refine call_range_1 ?_;exact⟨_,_,_,_,q,I.push rfl,.gE (ay.dc ..)⟩
theorem oG{a b:Int}(q:Q (.gE a b) O):bD G n (.raw (.type "range")) [.int a,.int b] [] O Q:=by
 refine bD.machine (fun zz e=>by cases e) (ie fun A hA B Z s x y I r r2=>?_)
 refine VR.bC r ?_;intro zz;refine VR.bC r2 ?_;intro zz;refine call_range_2 ?_;exact⟨_,_,_,_,q,I.push rfl,.gE (ay.dc ..)⟩
theorem Lr{a:Int}(q:Q (.int (if a<0 then -a else a)) O):bD G n (.raw (.builtin "abs")) [.int a] [] O Q:=by
 refine bD.machine (fun zz e=>by cases e) (fh fun A hA B Z s x I r=>?_)
 refine VR.bC r ?_;intro zz;exact call_abs_int fun u tk=>PV.here I .int q
theorem zD{a b:Int}(q:Q (.int (max a b)) O):bD G n (.raw (.builtin "max")) [.int a,.int b] [] O Q:=by
 refine bD.machine (fun zz e=>by cases e) (ie fun A hA B Z s x y I r r2=>?_)
 refine VR.bC r ?_;intro zz;refine VR.bC r2 ?_;intro zz;refine max_two_ints hA.handled fun h' tk k=>?_
 by_cases hc:b>a
 ·rw[if_pos hc];rw[show max a b=b by exact ag 0 2 (aa (aK aN aq) (aS (xF aN aq) aq)) (by kd_p) hc]at q;exact PV.keeps I k .int q
 ·rw[if_neg hc];rw[show max a b=a by exact ag 0 2 (aa (dJ (aK aN aq)) (aS (xF aN aq) aN)) (by kd_p) hc]at q;exact PV.keeps I k .int q
theorem Bi{a b:Int}(hb:b≠0)(hs:b.natAbs.log2<9000)(q:Q (.tuple [.int (a.fdiv b),.int (a.fmod b)]) O):bD G n (.raw (.builtin "divmod")) [.int a,.int b] [] O Q:=by
 refine bD.machine (fun zz e=>by cases e) (ie fun A hA B Z s x y I r r2=>?_)
 refine VR.bC r ?_;intro zz;refine VR.bC r2 ?_;intro zz;refine divmod_int hb ?_ (.inl (PyProof.noPylong_of_log2 (by omega)))
 have:=Oz (Q:=Q) (s:={s with toks:=s.toks+1+1}) I (vs:=[.int (a.fdiv b) s.toks,.int (a.fmod b) (s.toks+1)]) (.cons .int (.cons .int .nil)) q
 exact PV.after (I.tI (t:=s.toks+1+1)) this
theorem ints_of{B:ay}{Z:List Addr}:∀ {ns:List Int} {vs:List Value},aB B Z (ns.map .int) vs→∃xs:List (Int×Tok),vs=xs.map (fun p=>.int p.1 p.2)∧xs.map (·.1)=ns
 |[],vs,h=>⟨[],by rw[aB.fg h];rfl,rfl⟩
 |k::ns,vs,h=>by
  refine aB.aO h ?_;intro v us r rs;refine aW (ints_of rs) ?_;intro xs z1;subst z1;intro e;refine VR.bC r ?_;intro _;rename_i t;exact⟨(k,t)::xs,rfl,by rw[←e];rfl⟩
theorem wC{B:ay}{Z:List Addr}{ns:List Int}{vs:List Value}(h:aB B Z (ns.map .int) vs):∃xs:Array (Int×Tok),vs.toArray=intItems xs∧xs.toList.map (·.1)=ns:=by
 refine aW (ints_of h) ?_;intro xs z1;subst z1;intro e;exact⟨xs.toArray,by simp[intItems],by simpa using e⟩
theorem Dm{ns:List Int}(q:Q (.int ns.sum) O):bD G n (.raw (.builtin "sum")) [.list (ns.map .int)] [] O Q:=by
 refine bD.machine (fun zz e=>by cases e) (fh fun A hA B Z s x I r=>?_)
 refine br (held I r) ?_;intro a vs k z1;subst z1;intro g r1 zz;refine aW (wC r1) ?_;intro xs e1 e2;refine sum_intListG hA.handled (l:=a) (xs:=xs) (e1▸⟨_,g,rfl,k,rfl⟩) fun h' tk t' hk=>?_;have e:preSum (numAt xs) xs.size=ns.sum:=by rw[preSum_eq,List.take_of_length_le (by simp),e2]
 rw[e];exact PV.keeps I hk .int q
theorem Ls{ns:List Int}{m:Int}(hm:m∈ns)(hle:∀a∈ns,m≤a)(q:Q (.int m) O):bD G n (.raw (.builtin "min")) [.list (ns.map .int)] [] O Q:=by
 refine bD.machine (fun zz e=>by cases e) (fh fun A hA B Z s x I r=>?_)
 refine br (held I r) ?_;intro a vs k z1;subst z1;intro g r1 zz;refine aW (wC r1) ?_;intro xs e1 e2;have hl:xs.size=ns.length:=by rw[←e2];simp
 have hp:0<ns.length:=List.length_pos_of_mem hm;refine min_intList hA.handled (l:=a) (xs:=xs) (e1▸⟨_,g,rfl,k,rfl⟩) (by exact ag 2 0 (aa (ax af ab) (aa (ak b6 ab) (ak b6 af))) (by kd_p) hl hp) fun v h' tk hv hk=>?_
 obtain⟨t,rfl⟩:=intItems_at hv;obtain⟨h1,h2⟩:=argBest_lt (numAt xs) (xs.size-1);have num:∀j,numAt xs j=ns.getD j 0:=fun j=>by rw[numAt_eq,e2]
 have e:numAt xs (argBest (fun i j=>decide (numAt xs i<numAt xs j)) (xs.size-1))=m:=by
  obtain⟨j,hj,rfl⟩:=List.mem_iff_getElem.mp hm;have l1:=h2 j (by exact ag 3 0 (aa (ax af ab) (aa (ak b6 ab) (aa (ak au ab) (ae au (bb af aC))))) (by kd_p) hl hp hj)
  have e3:numAt xs j=ns[j]:=by rw[num];simp[List.getD,hj]
  rw[e3]at l1;have hb:argBest (fun i j=>decide (numAt xs i<numAt xs j)) (xs.size-1)<ns.length:=by exact ag 4 0 (aa (ax af au) (aa (ak b6 au) (aa (ae aM (bb af aC)) (aa (ak ab au) (ak aM au))))) (by kd_p) hl hp h1 hj
  have l2:=hle (ns[argBest (fun i j=>decide (numAt xs i<numAt xs j)) (xs.size-1)]) (List.getElem_mem _);have e4:numAt xs (argBest (fun i j=>decide (numAt xs i<numAt xs j)) (xs.size-1))=ns[argBest (fun i j=>decide (numAt xs i<numAt xs j)) (xs.size-1)]:=by
   rw[num];simp[List.getD,hb]
  exact ag 3 4 (aa (ak au af) (aa (ai fy cu) (aa (aS aN cu) (aa (ak ab af) (aa (ai cu aq) (aa (aS fy aq) (aS fy cu))))))) (by kd_p) hj l1 e3 hb l2 e4
 rw[e];exact PV.keeps I hk .int q
theorem EG{i:Nat}{xs:List V}(hi:O[i]?=some (some xs))(bG:xs.length≤sizeLine)(q:Q (.tuple xs) O):bD G n (.raw (.type "tuple")) [.ml i] [] O Q:=by
 refine bD.machine (fun zz e=>by cases e) (fh fun A hA B Z s x I r=>?_)
 refine br (resolve I hi r) ?_;intro a vs k z1;subst z1;intro g r1 zz;refine call_tuple_list (items:=vs.toArray) ⟨_,g,rfl,k,rfl⟩ (fun h' hk=>?_) (by simp[←r1.1];exact bG)
 have P:aG G [] B Z s B Z O {s with heap:=h'}:=I.kz (t:=s.toks) hk (fun zz m=>nomatch m)
 exact PV.after P (Oz (s:={s with heap:=h'}) P.inv (vs:=vs) (r1.any Z) q)
theorem jA.builtin{T id:String}{name:Str}{v:V}(pa:PlainAttrs T)(slot:Slot T name id)(QN:typeOf (.builtin id)=pure (.type "method_descriptor"))
  (h:∀ (B:ay) (Z:List Addr) (s:Shared) (x:Value),Inv G B Z O s.heap→VR B Z v x→s.TypeIs x T∧∀a,x=.ref a→∃ob,s.heap.get? a=some ob∧ob.dict=none):jA G name v O (.builtin id):=
 ⟨fun zz zz=>⟨.machine,.inr (.inl rfl),Looks.of_pure rfl⟩,fun A B Z s x pl Q E I r q=>let⟨a,b⟩:=h B Z s x I r;getMethod_builtin a pa slot QN b q⟩
theorem Ie{xs:List V}:∀ (B:ay) (Z:List Addr) (s:Shared) (x:Value),Inv G B Z O s.heap→VR B Z (.list xs) x→s.TypeIs x "list"∧∀a,x=.ref a→∃ob,s.heap.get? a=some ob∧ob.dict=none:=by
 intro B Z s x I r;refine br (held I r) ?_;intro a vs k z1;subst z1;intro g r1 zz;exact⟨⟨_,g,rfl⟩,fun b e=>by cases e;exact⟨_,g,rfl⟩⟩
theorem Bj{i:Nat}{xs:List V}(hi:O[i]?=some (some xs)):∀ (B:ay) (Z:List Addr) (s:Shared) (x:Value),Inv G B Z O s.heap→VR B Z (.ml i) x→s.TypeIs x "list"∧∀a,x=.ref a→∃ob,s.heap.get? a=some ob∧ob.dict=none:=by
 intro B Z s x I r;refine br (resolve I hi r) ?_;intro a vs k z1;subst z1;intro g r1 zz;exact⟨⟨_,g,rfl⟩,fun b e=>by cases e;exact⟨_,g,rfl⟩⟩
theorem fC{i:Nat}{xs:List V}(hi:O[i]?=some (some xs)):jA G "append" (.ml i) O (.builtin "list.append"):=.builtin F.plainAttrs_list F.slot_list_append F.type_list_append (Bj hi)
theorem fD{i:Nat}{xs:List V}{v:V}(hi:O[i]?=some (some xs))(bG:xs.length≤sizeLine)(hc:Cl v)(q:Q .none (O.set i (some (xs++[v])))):aU G n (.builtin "list.append") [.ml i,v] [] O Q:=by
 refine ie fun A hA B Z s x y I r r2=>?_;refine br (resolve I hi r) ?_;intro a vs k z1;subst z1;intro g r1 ha;refine rg g (by rw[←r1.1];exact bG) fun h' k' e' hs=>?_
 exact⟨_,_,_,_,q,I.xK (t:=s.toks) ha hi (r1.append (.cons (r2.clean hc []) .nil)) e' hs,.none⟩
theorem vH{i:Nat}{xs:List V}(hi:O[i]?=some (some xs)):jA G "reverse" (.ml i) O (.builtin "list.reverse"):=.builtin F.plainAttrs_list F.slot_list_reverse F.type_list_reverse (Bj hi)
theorem vI{i:Nat}{xs:List V}(hi:O[i]?=some (some xs))(bG:xs.length≤sizeLine)(q:Q .none (O.set i (some xs.reverse))):aU G n (.builtin "list.reverse") [.ml i] [] O Q:=by
 refine fh fun A hA B Z s x I r=>?_;refine br (resolve I hi r) ?_;intro a vs k z1;subst z1;intro g r1 ha;refine call_meets F.slot_list_reverse ⟨_,g,rfl⟩ F.entry_list_reverse (F.args_list_reverse_1 _) (AutoSeq1.list_reverse_list_0 a vs.toArray k (by simp[←r1.1];exact bG)) ⟨g,?_⟩
 have e:=IsL.update (h:=s.heap) (l:=a) g (fun x=>x.reverse);rw[show vs.toArray.reverse=vs.reverse.toArray by simp]at e
 exact⟨_,_,_,_,q,I.xK (t:=s.toks) ha hi r1.reverse e (Heap.SameBut.update ..),.none⟩
theorem ya{i:Nat}{xs:List V}(hi:O[i]?=some (some xs)):jA G "insert" (.ml i) O (.builtin "list.insert"):=.builtin F.plainAttrs_list F.slot_list_insert F.type_list_insert (Bj hi)
theorem dw{xs:List V}:jA G "count" (.list xs) O (.builtin "list.count"):=.builtin F.plainAttrs_list F.slot_list_count F.type_list_count Ie
theorem oH{x:Str}:jA G "join" (.str x) O (.builtin "str.join"):=.builtin F.plainAttrs_str F.slot_str_join F.type_str_join fun B Z s y I r=>by refine VR.fQ r ?_;intro zz;exact⟨typeIs_str _ _ _,fun zz e=>by cases e⟩
theorem ig{a:Int}:jA G "bit_length" (.int a) O (.builtin "int.bit_length"):=.builtin F.plainAttrs_int F.slot_int_bit_length F.type_int_bit_length fun B Z s y I r=>by refine VR.bC r ?_;intro zz;exact⟨typeIs_int _ _ _,fun zz e=>by cases e⟩
theorem ij{a:Int}(q:Q (.int (Builtin.Int.intBits a)) O):aU G n (.builtin "int.bit_length") [.int a] [] O Q:=by
 refine fh fun A hA B Z s x I r=>?_;refine VR.bC r ?_;intro zz;exact call_int_bit_length (PV.here I .int q)
theorem dT{ns:List Int}{k:Int}(q:Q (.int (ns.count k:Nat)) O):aU G n (.builtin "list.count") [.list (ns.map .int),.int k] [] O Q:=by
 refine ie fun A hA B Z s x y I r r2=>?_;refine br (held I r) ?_;intro a vs m z1;subst z1;intro g r1 _;refine aW (ints_of r1) ?_;intro xs z1;subst z1;intro e;refine VR.bC r2 ?_;intro _;rename_i t;refine call_meets F.slot_list_count ⟨_,g,rfl⟩ F.entry_list_count (F.args_list_count_2 _ _) (MeetsSeq.list_count a _ m (.int k t) (fun y=>match y with | .int j _=>j==k|_=>false) fun y hy=>?_) ⟨g,?_⟩
 ·simp at hy
  refine j0 hy ?_;clear hy;intro j u _ z1;subst z1;exact MeetsSeq.EqGives.int j k u t
 ·have:(List.map (fun p:Int×Tok=>Value.int p.1 p.2) xs).toArray.toList.countP (fun y=>match y with | .int j _=>j==k|_=>false)=ns.count k:=by
   rw[←e];simp[List.countP_map,List.count,Function.comp_def]
  rw[this];exact PV.here I .int q
theorem yb{i:Nat}{xs:List V}{k:Int}{v:V}(hi:O[i]?=some (some xs))(h0:0≤k)(hk:k≤xs.length)(bG:xs.length≤sizeLine)(hc:Cl v)(q:Q .none (O.set i (some (xs.take k.toNat++v::xs.drop k.toNat)))):aU G n (.builtin "list.insert") [.ml i,.int k,v] [] O Q:=by
 intro A hA B Z s us ks I rv rk;refine aB.aO rv ?_;intro x us r rs;refine aB.aO rs ?_;intro y us r2 rs;refine aB.aO rs ?_;intro z us r3 rs;rw[aB.fg rs,aB.fg rk];refine br (resolve I hi r) ?_;intro a vs m z1;subst z1;intro g r1 ha;refine VR.bC r2 ?_;intro _;rename_i t;have EH:k≤16777216:=by have h:=bG;rw[sizeLine_eq]at h;exact ag 1 1 (aa (ai aq (az ab)) (aa (ae ab bq) (ai aq (zk 16777216)))) (by kd_p) hk h
 have jv:¬(!Builtin.List.listFitsIndex k)=true:=by
  have e:Builtin.List.listFitsIndex k=true:=by
   clear bG q hi ha g;simp[Builtin.List.listFitsIndex];exact ag 0 1 (aa (ai aJ aq) (aa (ai aq (zk 16777216)) (aT (ai (zk (-9223372036854775808)) aq) (aK aq (zk 9223372036854775808))))) (by kd_p) h0 EH
  rw[e];simp
 have YS:xs.length=vs.length:=r1.1;have hz:vs.toArray.size≤sizeLine:=by
  have e:vs.toArray.size=xs.length:=by simp[r1.1]
  rw[e];exact bG
 refine call_meets F.slot_list_insert ⟨_,g,rfl⟩ F.entry_list_insert (F.args_list_insert_3 _ _ _) (AutoSeq1.list_insert_list_int_val_1 a vs.toArray m k t z jv hz) ⟨g,?_⟩;have e:=IsL.update (h:=s.heap) (l:=a) g (fun xs=>have j:=if k<0 then(k+(xs.size:Int)).toNat else min k.toNat xs.size;(xs.extract 0 j).push z++xs.extract j)
 have e2:(have j:=if k<0 then(k+(vs.toArray.size:Int)).toNat else min k.toNat vs.toArray.size;(vs.toArray.extract 0 j).push z++vs.toArray.extract j)=(vs.take k.toNat++z::vs.drop k.toNat).toArray:=by
  rw[if_neg (by exact ag 0 1 (aa (ai aJ aq) (aa (ai aq (zk 16777216)) (dJ (aK aq aJ)))) (by kd_p) h0 EH)]
  have e3:min k.toNat vs.toArray.size=k.toNat:=by simp;exact ag 2 1 (aa (ai aJ aq) (aa (ai aq (az ab)) (aa (ai aq (zk 16777216)) (aa (ax ab af) (ax (jS (dB aq) af) (dB aq)))))) (by kd_p) h0 hk EH YS
  rw[e3];apply Array.ext';simp;exact List.take_of_length_le (by simp)
 rw[e2]at e;have r':aB B [] (xs.take k.toNat++v::xs.drop k.toNat) (vs.take k.toNat++z::vs.drop k.toNat):=(r1.take _).append (.cons (r3.clean hc []) (r1.drop _));exact⟨_,_,_,_,q,I.xK (t:=s.toks) ha hi r' e (Heap.SameBut.update ..),.none⟩
theorem uh{B:ay}{Z:List Addr}:∀ {ns:List Str} {vs:List Value},aB B Z (ns.map .str) vs→StrsAre vs ns
 |[],vs,h=>by rw[aB.fg h];exact .nil
 |k::ns,vs,h=>by
  refine aB.aO h ?_;intro v us r rs;refine VR.fQ r ?_;intro zz;exact .cons _ _ (uh rs)
theorem Bk{x:Str}{ys:List Str}(ze:(ys.map (·.length)).sum+ys.length*x.length≤16777216)(q:Q (.str (Txt.join x ys)) O):aU G n (.builtin "str.join") [.str x,.list (ys.map .str)] [] O Q:=by
 refine ie fun A hA B Z s u y I r r2=>?_;refine VR.fQ r ?_;intro zz;refine br (held I r2) ?_;intro a vs m z1;subst z1;intro g r1 zz;exact join_list (items:=vs.toArray) ⟨_,g,rfl,m,rfl⟩ (uh r1) ze fun t' k=>PV.here I .str q
theorem n9{x:Str}{i:Nat}{ys:List Str}(hi:O[i]?=some (some (ys.map .str)))(ze:(ys.map (·.length)).sum+ys.length*x.length≤16777216)(q:Q (.str (Txt.join x ys)) O):aU G n (.builtin "str.join") [.str x,.ml i] [] O Q:=by
 refine ie fun A hA B Z s u y I r r2=>?_;refine VR.fQ r ?_;intro zz;refine br (resolve I hi r2) ?_;intro a vs m z1;subst z1;intro g r1 zz;exact join_list (items:=vs.toArray) ⟨_,g,rfl,m,rfl⟩ (uh r1) ze fun t' k=>PV.here I .str q
end
open PySem PySem.Spec PySem.Calls PyProof.Rows PySem.W PySem.SeqAt PySem.MeetsSeq PySem.MeetsSeq2 PySem.MeetsSeq3
open PySem.AutoSeq1 (wpAny_loadPart')
noncomputable def fk:List Int→List Int→Bool
 |[],[]=>false
 |[],_::_=>true
 |_::_,[]=>false
 |a::xs,b::ys=>if a=b then fk xs ys else decide (a<b)
theorem uj{A:Around}{s:Shared}{a b:Int}{t u:Tok}{prog:Program}{w:World}{Q:Value→Shared→Prop}{E:Value→Shared→Prop}(h:Q (.bool (decide (a<b))) s):wpAny (model prog w) A (richCompare .Lt (.int a t) (.int b u)) Q E s:=
 lt_int h
theorem pG(xs:List (Int×Tok)){i:Nat}(h:i<xs.length):(xs.map fun p=>Value.int p.1 p.2).toArray[((i:Nat):Int).toNat]?=some (.int xs[i].1 xs[i].2):=by simp[h]
theorem wD(xs:List (Int×Tok)){i:Nat}(h:xs.length≤i):(xs.map fun p=>Value.int p.1 p.2).toArray[((i:Nat):Int).toNat]?=none:=by simp;omega
theorem Ig(l b:Addr)(xs ys:List (Int×Tok))(n n2:Nat)(k:Nat):
  ∀i:Nat,i≤xs.length→i≤ys.length→xs.length-i=k→Meets (Builtin.«list.__eq__.loop» ⟨[.ref l,.ref b,rawInt i,rawInt 0],[]⟩)
   (fun A R s=>s.heap.get? l=some (lobj (xs.map fun p=>.int p.1 p.2) n)∧s.heap.get? b=some (lobj (ys.map fun p=>.int p.1 p.2) n2) ∧
    R (.ok (.ret (.bool (fk ((xs.map (·.1)).drop i) ((ys.map (·.1)).drop i))))) s):=by
 induction k with
 |zero=>
  intro i h1 h2 hk prog w A R s h;obtain⟨hp,g,d,tk,os⟩:=s;refine qe h ?_;clear h;intro hl hb h
  wp_walk using wpAny_loadPart' hl,wpAny_loadPart' hb
  rw[wD xs (by exact Ti hk)]
  wp_walk using wpAny_loadPart' hl,wpAny_loadPart' hb
  have e1:(xs.map (·.1)).drop i=[]:=by simp;exact Ti hk
  rw[e1]at h
  by_cases q:i<ys.length
  ·have e2:(ys.map (·.1)).drop i=ys[i].1::(ys.map (·.1)).drop (i+1):=by rw[List.drop_eq_getElem_cons (by simpa using q)];simp
   rw[e2]at h;show R (.ok (.ret (.bool (decide ((xs.map fun p=>Value.int p.1 p.2).toArray.size<(ys.map fun p=>Value.int p.1 p.2).toArray.size)))) ) _;rw[show decide ((xs.map fun p=>Value.int p.1 p.2).toArray.size<(ys.map fun p=>Value.int p.1 p.2).toArray.size)=true by simp;exact ag 3 0 (aa (ae ab au) (aa (ax (bb au ab) b6) (aa (ak ab af) (ak au af)))) (by kd_p) h1 hk q]
   exact h
  ·have e2:(ys.map (·.1)).drop i=[]:=by simp;exact Pz h2 q
   rw[e2]at h;show R (.ok (.ret (.bool (decide ((xs.map fun p=>Value.int p.1 p.2).toArray.size<(ys.map fun p=>Value.int p.1 p.2).toArray.size)))) ) _;rw[show decide ((xs.map fun p=>Value.int p.1 p.2).toArray.size<(ys.map fun p=>Value.int p.1 p.2).toArray.size)=false by simp;exact ag 3 0 (aa (ae ab af) (aa (ae ab au) (aa (dJ (ak ab au)) (ae au af)))) (by kd_p) h1 h2 q]
   exact h
 |succ k ih=>
  intro i h1 h2 hk prog w A R s h;obtain⟨hp,g,d,tk,os⟩:=s;refine qe h ?_;clear h;intro hl hb h
  wp_walk using wpAny_loadPart' hl,wpAny_loadPart' hb
  have bA:i<xs.length:=by exact Tj h1 hk
  have e1:(xs.map (·.1)).drop i=xs[i].1::(xs.map (·.1)).drop (i+1):=by rw[List.drop_eq_getElem_cons (by simpa using bA)];simp
  have hc:((i:Int)+1)=((i+1:Nat):Int):=by push_cast;rfl
  rw[pG xs bA]
  by_cases q:i<ys.length
  ·have e2:(ys.map (·.1)).drop i=ys[i].1::(ys.map (·.1)).drop (i+1):=by rw[List.drop_eq_getElem_cons (by simpa using q)];simp
   rw[e1,e2]at h;rw[pG ys q];refine wpAny_bind (wpAny_eqBool_int ?_)
   by_cases z:xs[i].1=ys[i].1
   ·unfold fk at h
    rw[if_pos z]at h;rw[show(xs[i].1==ys[i].1)=true by simpa using z]
    wp_walk
    rw[hc];exact⟨plainId_quiet plain_eq_loop _,codeAny_builtin entry_eq_loop (by
     rw[Around.under_plainId plain_eq_loop _];exact ih (i+1) (by exact ag 3 0 (aa (ak au af) (aa (ak au ab) (ae (aj au aC) af))) (by kd_p) bA q) (by exact ag 3 0 (aa (ak au ab) (aa (ak au af) (ae (aj au aC) af))) (by kd_p) bA q) (by exact ag 4 0 (aa (ax (bb aM au) (aj af aC)) (aa (ak au aM) (aa (ak au ab) (ax (bb aM (aj au aC)) af)))) (by kd_p) hk bA q) prog w A R _ ⟨hl,hb,h⟩)⟩
   ·unfold fk at h
    rw[if_neg z]at h;rw[show(xs[i].1==ys[i].1)=false by simpa using z]
    wp_walk using wpAny_loadPart' hl,wpAny_loadPart' hb
    rw[pG xs bA,pG ys q];show wpAny _ _ (do ret (←richCompare .Lt (.int xs[i].1 xs[i].2) (.int ys[i].1 ys[i].2))) _ _ _
    exact wpAny_bind (uj (wpAny_pure h))
  ·have e2:(ys.map (·.1)).drop i=[]:=by simp;exact Pz h2 q
   rw[e1,e2]at h;rw[wD ys (by exact Pz h2 q)]
   wp_walk using wpAny_loadPart' hl,wpAny_loadPart' hb
   show R (.ok (.ret (.bool (decide ((xs.map fun p=>Value.int p.1 p.2).toArray.size<(ys.map fun p=>Value.int p.1 p.2).toArray.size)))) ) _;rw[show decide ((xs.map fun p=>Value.int p.1 p.2).toArray.size<(ys.map fun p=>Value.int p.1 p.2).toArray.size)=false by simp;exact ag 3 0 (aa (ae ab au) (aa (ak ab af) (aa (dJ (ak ab au)) (ae au af)))) (by kd_p) h2 bA q]
   exact h
theorem zE(l b:Addr)(xs ys:List (Int×Tok))(n n2:Nat):
  Meets (Builtin.«list.__lt__» ⟨[.ref l,.ref b],[]⟩)
   (fun A R s=>s.heap.get? l=some (lobj (xs.map fun p=>.int p.1 p.2) n)∧s.heap.get? b=some (lobj (ys.map fun p=>.int p.1 p.2) n2) ∧
    R (.ok (.ret (.bool (fk (xs.map (·.1)) (ys.map (·.1)))))) s):=by
 intro prog w A R s h;obtain⟨hp,g,d,tk,os⟩:=s;refine qe h ?_;clear h;intro hl hb h;have f3:=AutoSeq1.sub_list_list
 wp_walk using wpAny_loadPart' hl,wpAny_loadPart' hb
 exact⟨plainId_quiet plain_eq_loop _,codeAny_builtin entry_eq_loop (by
  rw[Around.under_plainId plain_eq_loop _];exact Ig l b xs ys n n2 _ 0 (by exact Nat.zero_le _) (by exact Nat.zero_le _) rfl prog w A R _ ⟨hl,hb,by simpa using h⟩)⟩
theorem Ii{n:Nat}{O:Mu}{Q:V→Mu→Prop}{xs ys:List Int}(q:Q (.bool (fk xs ys)) O):bW G n .Lt (.list (xs.map .int)) (.list (ys.map .int)) O Q:=by
 intro A hA B Z s x y I hx hy;refine br (held I hx) ?_;intro a vs m z1;subst z1;intro g1 r1 e1;refine br (held I hy) ?_;intro a' us m' z1;subst z1;intro g2 r2 e2;refine aW (ints_of r1) ?_;intro jX z1;subst z1;intro z2;subst z2;refine aW (ints_of r2) ?_;intro Lu z1;subst z1;intro z2;subst z2;exact richCompare_meets_room (op:=.Lt) ⟨_,g1,rfl⟩ ⟨_,g2,rfl⟩ F.slot_list_lt F.entry_list_lt (F.args_list_lt_2 _ _) (zE a a' jX Lu m m')
  ⟨g1,g2,show Value.bool _≠Value.notImplemented∧PV G B Z s Q (.bool (fk (jX.map (·.1)) (Lu.map (·.1)))) s from⟨(fun x=>nomatch x),PV.bQ I .bool q⟩⟩ hA.Dd
def nH(base:Nat)(Z:List Addr)(O:Mu)(a:Addr):Prop:=∃i,base≤i∧Z[i]?=some a∧∃xs,(O[i]?:Option (Option (List V)))=some (some xs)
open Classical in
noncomputable def gO(base:Nat)(Z:List Addr)(O:Mu)(h:Heap)(B:ay):ay:=fun a=>match B a with
 |some o=>some o
 |none=>if nH base Z O a then h.get? a else none
theorem oI(base:Nat)(Z:List Addr)(O:Mu)(h:Heap)(B:ay):ay.le B (gO base Z O h B):=fun a o e=>by unfold gO;rw[e]
theorem uk{base:Nat}{Z:List Addr}{O:Mu}{h:Heap}{B:ay}{a:Addr}(hB:B a=none)(hl:nH base Z O a):gO base Z O h B a=h.get? a:=by unfold gO;rw[hB];simp only[];rw[if_pos hl]
theorem kc{base:Nat}{Z:List Addr}{O:Mu}{h:Heap}{B:ay}{a:Addr}(hB:B a=none)(hl:¬ nH base Z O a):gO base Z O h B a=none:=by unfold gO;rw[hB];simp only[];rw[if_neg hl]
theorem Inv.gO{B:ay}{Z aH:List Addr}{O:Mu}{h:Heap}(I:Inv G B aH O h)(p:Z <+: aH)(p0:G.A₀ <+: Z):Inv G (bg.gO Z.length aH O h B) Z (O.take Z.length) h:=by
 have J:=I.shrink p p0;obtain⟨t,rfl⟩:=p;have le:=oI Z.length (Z++t) O h B;have off:∀a∈Z,¬ nH Z.length (Z++t) O a:=by
  rintro a ha ⟨i,hi,Ij,zz⟩;obtain⟨j,hj,rfl⟩:=List.mem_iff_getElem.mp ha;obtain⟨bA,e⟩:=List.getElem?_eq_some_iff.mp Ij;have e2:(Z++t)[j]'(by simp;exact ag 3 0 (aa (ak au af) (ak au (aj af ab))) (by kd_p) hj)=Z[j]:=List.getElem_append_left hj
  have:=(List.getElem_inj I.nodup).mp (e.trans e2.symm);exact ag 3 0 (aa (ae au af) (aa (ak ab au) (aa (ax af ab) KH))) (by kd_p) hi hj this
 refine⟨J.base.trans le,fun a o e=>?_,J.len,fun i a xs h1 h2=>?_,J.dp,J.nodup,fun a ha=>⟨?_,(J.cg a ha).2⟩,G.hT.mono J.tab le fun zz zz zz x=>x,J.ey⟩
 ·cases q:B a with
  |some o'=>rw[le a o' q]at e;cases Option.some.inj e;exact I.holds a _ q
  |none=>
   by_cases l:nH Z.length (Z++t) O a
   ·rw[uk q l]at e;exact e
   ·rw[kc q l]at e;exact bk e
 ·refine ew (J.ml i a xs h1 h2) ?_;intro hb vs n g r
  exact⟨kc hb (off a (List.mem_of_getElem? h1)),vs,n,g,r.mono le (List.prefix_refl _)⟩
 ·refine kc (I.cg a ha).1 fun⟨i,zz,Ij,_⟩=>(I.cg a ha).2 (List.mem_of_getElem? Ij)
inductive Res(base:Nat)(O:Mu):V→V→Prop where
 |cl {v:V}:Cl v→Res base O v v
 |ml {i:Nat} {xs:List V}:base≤i→(O[i]?:Option (Option (List V)))=some (some xs)→Res base O (.ml i) (.list xs)
 |list {xs ys:List V}:xs.length=ys.length→(∀ (i:Nat) x y,xs[i]?=some x→ys[i]?=some y→Res base O x y)→Res base O (.list xs) (.list ys)
theorem Res.vr{B:ay}{Z aH:List Addr}{O:Mu}{h:Heap}(I:Inv G B aH O h){v v':V}(r:Res Z.length O v v'):∀ {x:Value},VR B aH v x→VR (bg.gO Z.length aH O h B) Z v' x:=by
 have le:=oI Z.length aH O h B
 induction r with
 |cl c=>intro x hx;exact(hx.mono le (List.prefix_refl _)).clean c Z
 |ml hi hx=>
  intro x h1;cases h1 with
  |ml e=>
   refine ew (I.ml _ _ _ e hx) ?_;intro hb vs n g r;exact .list ((uk hb ⟨_,hi,e,_,hx⟩).trans g) r.1 ((r.any Z).mono le (List.prefix_refl _)).2
 | @list ps qs hl _ ih=>
  intro x h1;cases h1 with
  |list e l h9=>
   refine .list (le _ _ e) (hl.symm.trans l) fun i y u hy hu=>?_;have bA:=(List.getElem?_eq_some_iff.mp hy).1;have hx:ps[i]?=some ps[i]:=List.getElem?_eq_getElem (by exact ag 4 0 (aa (ax au af) (aa (ax au ab) (aa (ak aM af) (ak aM au)))) (by kd_p) hl l bA)
   exact ih i _ y hx hy (h9 i _ u hx hu)
theorem aG.wF{W:List Addr}{B B':ay}{Z aH:List Addr}{ar:Mu}{s s1 s':Shared}(p0:G.A₀ <+: Z)(k:∀b o,s.heap.get? b=some o→s1.heap.get? b=some o)(hr:Rest s s1)(P:aG G W B Z s1 B' aH ar s')(hW:∀a∈W,s.heap.get? a=none):
  aG G [] B Z s (bg.gO Z.length aH ar s'.heap B') Z (ar.take Z.length) s':=by
 have P1:=aG.outside p0 k hr P hW;refine⟨P1.le.trans (oI _ _ _ _ _),P1.pre,P.inv.gO P.pre p0,P1.keep,P1.bL,P1.rest,fun a ha=>?_,P1.da⟩;cases q:B' a with
 |some o=>exact P1.dF a (by rw[q];simp)
 |none=>
  by_cases l:nH Z.length aH ar a
  ·refine gJ l ?_;clear l;intro i zz Ij zz
   rcases P.da a (List.mem_of_getElem? Ij) with z|z
   ·exact .inr (.inl z)
   ·refine .inr (.inr ?_)
    cases y:s.heap.get? a with
    |none=>rfl
    |some o=>rw[k a o y]at z;exact ff z
  ·exact absurd (kc q l) ha
noncomputable def vJ:List Str:=[Str.ofString "escape",Str.ofString "pos",Str.ofString "addr",Str.ofString "ch",Str.ofString "result",Str.ofString "start",Str.ofString "len",Str.ofString "open_pos",Str.ofString "opens",Str.ofString "_strip_quoted_realnames",Str.ofString "r",Str.ofString "q1",Str.ofString "half_n",Str.ofString "q2",Str.ofString "pad",Str.ofString "_div3n2n",Str.ofString "b2",Str.ofString "b1",Str.ofString "b",Str.ofString "a",Str.ofString "mask",Str.ofString "n",Str.ofString "_DIV_LIMIT",Str.ofString "divmod",Str.ofString "q",Str.ofString "a3",Str.ofString "a12",Str.ofString "_div2n1n",Str.ofString "a_digits",Str.ofString "inner",Str.ofString "digits",Str.ofString "_digits2int",Str.ofString "q_digits",Str.ofString "a_digit",Str.ofString "reversed",Str.ofString "q_digit",Str.ofString "_int2digits",Str.ofString "int_divmod",Str.ofString "_divmod_pos",Str.ofString "x",Str.ofString "lo",Str.ofString "key",Str.ofString "bisect_right",Str.ofString "hi",Str.ofString "mid",Str.ofString "self",Str.ofString "S",Str.ofString "T",Str.ofString "count",Str.ofString "nt",Str.ofString "Whitespace",Str.ofString "ws",Str.ofString "max",Str.ofString "trailing",Str.ofString "tabsize",Str.ofString "il",Str.ofString "i",Str.ofString "range",Str.ofString "ts",Str.ofString "other",Str.ofString "cells",Str.ofString "numbers",Str.ofString "script",Str.ofString "first",Str.ofString "second",Str.ofString "c",Str.ofString "y",Str.ofString "z",Str.ofString "shape",Str.ofString "points",Str.ofString "low",Str.ofString "letter",Str.ofString "column",Str.ofString "blanks",Str.ofString "fillings",Str.ofString "j",Str.ofString "lengths",Str.ofString "filling",Str.ofString "fit",Str.ofString "fits",Str.ofString "k",Str.ofString "told",Str.ofString "right",Str.ofString "left",Str.ofString "lefts",Str.ofString "rights",Str.ofString "columns",Str.ofString "_law_lead",Str.ofString "extra",Str.ofString "lacks",Str.ofString "text",Str.ofString "rise",Str.ofString "letters",Str.ofString "upper",Str.ofString "menu",Str.ofString "hide",Str.ofString "rows",Str.ofString "row",Str.ofString "place",Str.ofString "one",Str.ofString "parts",Str.ofString "sum",Str.ofString "weights",Str.ofString "part",Str.ofString "rest",Str.ofString "made",Str.ofString "sorted",Str.ofString "below",Str.ofString "sums",Str.ofString "often",Str.ofString "_law_alternant",Str.ofString "kinds",Str.ofString "twos",Str.ofString "ones",Str.ofString "abs",Str.ofString "kind",Str.ofString "_law_shape",Str.ofString "bisect_left",Str.ofString "keeps",Str.ofString "insort_right",Str.ofString "grown",Str.ofString "_law_pushed",Str.ofString "least",Str.ofString "_check_parenthesis",Str.ofString "_law_text",Str.ofString "end",Str.ofString "min",Str.ofString "ends",Str.ofString "_law_fillings",Str.ofString "third",Str.ofString "middle",Str.ofString "_law_cells",Str.ofString "fault",Str.ofString "R",Str.ofString "shift",Str.ofString "L",Str.ofString "lower",Str.ofString "enumerate",Str.ofString "str",Str.ofString "ZeroDivisionError",Str.ofString "_iter_escaped_chars",Str.ofString "tuple"]
noncomputable def aI(i:Nat):Str:=match vJ[i]? with|some s=>s|none=>⟨#[i+1000]⟩
noncomputable abbrev gy:Nat:=0
noncomputable abbrev d6:Nat:=1
noncomputable abbrev eK:Nat:=2
noncomputable abbrev fq:Nat:=3
noncomputable abbrev Ik:Nat:=6
noncomputable abbrev YT:Nat:=10
noncomputable abbrev mJ:Nat:=18
noncomputable abbrev gH:Nat:=19
noncomputable abbrev jY:Nat:=21
noncomputable abbrev bS:Nat:=28
noncomputable abbrev cq:Nat:=29
noncomputable abbrev eT:Nat:=30
noncomputable abbrev zF:Nat:=32
noncomputable abbrev d7:Nat:=33
noncomputable abbrev ke:Nat:=34
noncomputable abbrev mj:Nat:=39
noncomputable abbrev pH:Nat:=40
noncomputable abbrev lB:Nat:=41
noncomputable abbrev pI:Nat:=43
noncomputable abbrev dH:Nat:=45
noncomputable abbrev Il:Nat:=49
noncomputable abbrev rt:Nat:=51
noncomputable abbrev Bl:Nat:=54
noncomputable abbrev zG:Nat:=59
noncomputable abbrev wG:Nat:=62
noncomputable abbrev kX:Nat:=68
noncomputable abbrev wH:Nat:=69
noncomputable abbrev QO:Nat:=70
noncomputable abbrev nI:Nat:=71
noncomputable abbrev EI:Nat:=72
noncomputable abbrev EJ:Nat:=73
noncomputable abbrev lC:Nat:=77
noncomputable abbrev Lv:Nat:=90
noncomputable abbrev yc:Nat:=91
noncomputable abbrev oJ:Nat:=92
noncomputable abbrev um:Nat:=93
noncomputable abbrev Lw:Nat:=94
noncomputable abbrev yd:Nat:=95
noncomputable abbrev lD:Nat:=96
noncomputable abbrev QP:Nat:=99
noncomputable abbrev mn:Nat:=133
noncomputable abbrev mq:Nat:=135
noncomputable abbrev fE:Nat:=137
noncomputable abbrev dq:Nat:=140
noncomputable def U2:List (Nat×Value):=[(6,.builtin "len"),(9,.ref 35),(15,.ref 56),(22,.int 4000 230),(23,.builtin "divmod"),(27,.ref 49),(31,.ref 70),(34,.type "reversed"),(36,.ref 63),(37,.ref 84),(38,.ref 77),(42,.ref 102),(50,.ref 173),(52,.builtin "max"),(57,.type "range"),(87,.ref 196),(101,.builtin "sum"),(106,.builtin "sorted"),(110,.ref 191),(114,.builtin "abs"),(116,.ref 220),(117,.ref 111),(119,.ref 93),(121,.ref 213),(123,.ref 42),(124,.ref 208),(126,.builtin "min"),(128,.ref 201),(131,.ref 184),(137,.type "enumerate"),(138,.type "str"),(139,.type "ZeroDivisionError"),(140,.ref 28),(141,.type "tuple")]
noncomputable def Lx:List (Nat×Value)→Nat→Option Value
 |[],_=>none
 |p::r,x=>bif Nat.beq p.1 x then some p.2 else Lx r x
noncomputable def bX(x:Nat):Option Value:=Lx U2 x
theorem Dn:∀ {l:List (Nat×Value)} {x:Nat} {v:Value},Lx l x=some v→(x,v)∈l
 |p::r,x,v,h=>by
  unfold Lx at h;cases c:Nat.beq p.1 x with
  |true=>
   rw[c]at h;rw[←Option.some.inj h,←Nat.eq_of_beq_eq_true c];exact List.mem_cons_self
  |false=>
   rw[c]at h;exact List.mem_cons_of_mem _ (Dn h)
noncomputable def bI:List Nat:=[2,1,0,3]
noncomputable def cT:List Nat:=[2,5,7,4,1,3]
noncomputable def dU:List Nat:=[2,8,1,3]
noncomputable def oK:Ss:=(.cons (.iff (.cmp .LtE (.bin .Sub (.cA (.var 19) "bit_length" .nil) (.var 21)) (.glob 22)) (.cons (.ret (.call (.glob 23) (.cons (.var 19) (.cons (.var 18) .nil)))) .nil) .nil) (.cons (.asg (.name 14) (.bin .BitAnd (.var 21) (.int 1))) (.cons (.iff (.val (.var 14)) (.cons (.aug 19 .LShift (.int 1)) (.cons (.aug 18 .LShift (.int 1)) (.cons (.aug 21 .Add (.int 1)) .nil))) .nil) (.cons (.asg (.name 12) (.bin .RShift (.var 21) (.int 1))) (.cons (.asg (.name 20) (.bin .Sub (.bin .LShift (.int 1) (.var 12)) (.int 1))) (.cons (.kE [17,16] (.tup (.cons (.bin .RShift (.var 18) (.var 12)) (.cons (.bin .BitAnd (.var 18) (.var 20)) .nil)))) (.cons (.asg (.g9 (.name 11) (.name 10)) (.call (.glob 15) (.cons (.bin .RShift (.var 19) (.var 21)) (.cons (.bin .BitAnd (.bin .RShift (.var 19) (.var 12)) (.var 20)) (.cons (.var 18) (.cons (.var 17) (.cons (.var 16) (.cons (.var 12) .nil)))))))) (.cons (.asg (.g9 (.name 13) (.name 10)) (.call (.glob 15) (.cons (.var 10) (.cons (.bin .BitAnd (.var 19) (.var 20)) (.cons (.var 18) (.cons (.var 17) (.cons (.var 16) (.cons (.var 12) .nil)))))))) (.cons (.iff (.val (.var 14)) (.cons (.aug 10 .RShift (.int 1)) .nil) .nil) (.cons (.ret (.tup (.cons (.bin .BitOr (.bin .LShift (.var 11) (.var 12)) (.var 13)) (.cons (.var 10) .nil)))) .nil))))))))))
noncomputable def Bm:List Nat:=[19,18,21,14,12,20,17,16,11,10,13]
noncomputable def d8:List Nat:=[19,21,28,29]
noncomputable def oa:List Nat:=[30,21,29]
noncomputable def d9:List Nat:=[19,18,21,28,10,32,33,35,24]
noncomputable def eU:Ss:=(.cons (.iff (.cmp .Eq (.var 18) (.int 0)) (.cons .bad .nil) (.cons (.iff (.cmp .Lt (.var 18) (.int 0)) (.cons (.asg (.g9 (.name 24) (.name 10)) (.call (.glob 37) (.cons (.neg (.var 19)) (.cons (.neg (.var 18)) .nil)))) (.cons (.ret (.tup (.cons (.var 24) (.cons (.neg (.var 10)) .nil)))) .nil)) (.cons (.iff (.cmp .Lt (.var 19) (.int 0)) (.cons (.asg (.g9 (.name 24) (.name 10)) (.call (.glob 37) (.cons (.inv (.var 19)) (.cons (.var 18) .nil)))) (.cons (.ret (.tup (.cons (.inv (.var 24)) (.cons (.bin .Add (.var 18) (.inv (.var 10))) .nil)))) .nil)) (.cons (.ret (.call (.glob 38) (.cons (.var 19) (.cons (.var 18) .nil)))) .nil)) .nil)) .nil)) .nil)
noncomputable def eV:List Nat:=[19,18,24,10]
noncomputable def iU:Ss:=(.cons (.iff (.cmp .Is (.var 41) .vF) (.cons (.asg (.name 40) (.call (.glob 42) (.cons (.var 19) (.cons (.var 39) (.cons (.var 40) (.cons (.var 43) .nil)))))) .nil) (.cons (.asg (.name 40) (.mC (.glob 42) (.cons (.var 19) (.cons (.call (.var 41) (.cons (.var 39) .nil)) (.cons (.var 40) (.cons (.var 43) .nil)))) "key" (.var 41))) .nil)) (.cons (.expr (.cA (.var 19) "insert" (.cons (.var 40) (.cons (.var 39) .nil)))) .nil))
noncomputable def sy:List Nat:=[19,39,40,43,41]
noncomputable def dh:Ss:=(.cons (.iff (.cmp .Lt (.var 40) (.int 0)) (.cons .bad .nil) .nil) (.cons (.iff (.cmp .Is (.var 43) .vF) (.cons (.asg (.name 43) (.call (.glob 6) (.cons (.var 19) .nil))) .nil) .nil) (.cons (.iff (.cmp .Is (.var 41) .vF) (.cons (.rm (.cmp .Lt (.var 40) (.var 43)) (.cons (.asg (.name 44) (.bin .FloorDiv (.bin .Add (.var 40) (.var 43)) (.int 2))) (.cons (.iff (.cmp .Lt (.var 39) (.sub (.var 19) (.var 44))) (.cons (.asg (.name 43) (.var 44)) .nil) (.cons (.asg (.name 40) (.bin .Add (.var 44) (.int 1))) .nil)) .nil))) .nil) (.cons (.rm (.cmp .Lt (.var 40) (.var 43)) (.cons (.asg (.name 44) (.bin .FloorDiv (.bin .Add (.var 40) (.var 43)) (.int 2))) (.cons (.iff (.cmp .Lt (.var 39) (.call (.var 41) (.cons (.sub (.var 19) (.var 44)) .nil))) (.cons (.asg (.name 43) (.var 44)) .nil) (.cons (.asg (.name 40) (.bin .Add (.var 44) (.int 1))) .nil)) .nil))) .nil)) (.cons (.ret (.var 40)) .nil))))
noncomputable def iV:List Nat:=[19,39,40,43,41,44]
noncomputable def jE:Ss:=(.cons (.iff (.cmp .Lt (.var 40) (.int 0)) (.cons .bad .nil) .nil) (.cons (.iff (.cmp .Is (.var 43) .vF) (.cons (.asg (.name 43) (.call (.glob 6) (.cons (.var 19) .nil))) .nil) .nil) (.cons (.iff (.cmp .Is (.var 41) .vF) (.cons (.rm (.cmp .Lt (.var 40) (.var 43)) (.cons (.asg (.name 44) (.bin .FloorDiv (.bin .Add (.var 40) (.var 43)) (.int 2))) (.cons (.iff (.cmp .Lt (.sub (.var 19) (.var 44)) (.var 39)) (.cons (.asg (.name 40) (.bin .Add (.var 44) (.int 1))) .nil) (.cons (.asg (.name 43) (.var 44)) .nil)) .nil))) .nil) (.cons (.rm (.cmp .Lt (.var 40) (.var 43)) (.cons (.asg (.name 44) (.bin .FloorDiv (.bin .Add (.var 40) (.var 43)) (.int 2))) (.cons (.iff (.cmp .Lt (.call (.var 41) (.cons (.sub (.var 19) (.var 44)) .nil)) (.var 39)) (.cons (.asg (.name 40) (.bin .Add (.var 44) (.int 1))) .nil) (.cons (.asg (.name 43) (.var 44)) .nil)) .nil))) .nil)) (.cons (.ret (.var 40)) .nil))))
noncomputable def uo:List Nat:=[19,39,40,43,41,44]
noncomputable def di:List Nat:=[45,51,46,47,48,18,21,49,3]
noncomputable def fR:Ss:=(.cons (.asg (.g9 (.name 48) (.name 53)) (.attr (.var 45) "norm")) (.cons (.ret (.call (.glob 52) (.cons (.bin .Sub (.call (.glob 6) (.cons (.var 48) .nil)) (.int 1)) (.cons (.var 53) .nil)))) .nil))
noncomputable def kG:List Nat:=[45,48,53]
noncomputable def l5:Ss:=(.cons (.asg (.g9 (.name 48) (.name 53)) (.attr (.var 45) "norm")) (.cons (.asg (.name 55) (.int 0)) (.cons (.for 56 (.call (.glob 57) (.cons (.var 54) (.cons (.call (.glob 6) (.cons (.var 48) .nil)) .nil))) (.cons (.asg (.name 55) (.bin .Add (.var 55) (.bin .Mult (.bin .FloorDiv (.var 56) (.var 54)) (.sub (.var 48) (.var 56))))) .nil)) (.cons (.ret (.bin .Add (.var 53) (.bin .Mult (.var 54) (.bin .Add (.var 55) (.attr (.var 45) "nt"))))) .nil))))
noncomputable def sC:List Nat:=[45,54,48,53,55,56]
noncomputable def Dp:Ss:=(.cons (.iff (.cmp .GtE (.attr (.var 45) "n") (.attr (.var 59) "n")) (.cons (.ret (.bool false)) .nil) .nil) (.cons (.iff (.and (.cons (.val (.attr (.var 45) "is_simple")) (.cons (.val (.attr (.var 59) "is_simple")) .nil))) (.cons (.ret (.cmp .LtE (.attr (.var 45) "nt") (.attr (.var 59) "nt"))) .nil) .nil) (.cons (.asg (.name 21) (.bin .Add (.call (.glob 52) (.cons (.cA (.var 45) "longest_run_of_spaces" .nil) (.cons (.cA (.var 59) "longest_run_of_spaces" .nil) .nil))) (.int 1))) (.cons (.for 58 (.call (.glob 57) (.cons (.int 2) (.cons (.bin .Add (.var 21) (.int 1)) .nil))) (.cons (.iff (.cmp .GtE (.cA (.var 45) "indent_level" (.cons (.var 58) .nil)) (.cA (.var 59) "indent_level" (.cons (.var 58) .nil))) (.cons (.ret (.bool false)) .nil) .nil) .nil)) (.cons (.ret (.bool true)) .nil)))))
noncomputable def Ly:List Nat:=[45,59,21,58]
noncomputable def lE:Ss:=(.cons (.asg (.name 60) (.list true (.cons (.neg (.int 3)) (.cons (.int 4) (.cons (.int 2) (.cons (.int 4) (.cons (.int 0) (.cons (.int 5137) .nil)))))))) (.cons (.asg (.name 61) (.slice (.var 62) .no (.int 60) .no)) (.cons (.for 56 (.call (.glob 57) (.cons (.call (.glob 6) (.cons (.var 61) .nil)) .nil)) (.cons (.asg (.sub (.var 60) (.bin .Mod (.var 56) (.int 6))) (.bin .Add (.sub (.var 60) (.bin .Mod (.var 56) (.int 6))) (.zq (.cmp .GtE (.sub (.var 61) (.var 56)) (.int 0)) (.bin .Mod (.sub (.var 61) (.var 56)) (.bin .Pow (.int 10) (.int 6))) (.neg (.bin .Mod (.neg (.sub (.var 61) (.var 56))) (.bin .Pow (.int 10) (.int 6))))))) .nil)) (.cons (.ret (.var 60)) .nil))))
noncomputable def ye:List Nat:=[62,60,61,56]
noncomputable def ik:Ss:=(.cons (.asg (.Dk (.name 39) (.name 66) (.name 67)) (.var 69)) (.cons (.kE [19,18,65] (.tup (.cons (.bin .Add (.sub (.var 68) (.int 0)) (.int 2)) (.cons (.bin .Add (.sub (.var 68) (.int 1)) (.int 1)) (.cons (.sub (.var 68) (.int 2)) .nil))))) (.cons (.asg (.name 63) (.bin .Mult (.bin .Pow (.var 39) (.var 19)) (.bin .Sub (.bin .Mult (.bin .Pow (.var 66) (.var 18)) (.bin .Pow (.var 67) (.var 65))) (.bin .Mult (.bin .Pow (.var 66) (.var 65)) (.bin .Pow (.var 67) (.var 18)))))) (.cons (.asg (.name 64) (.bin .Mult (.bin .Pow (.var 39) (.var 18)) (.bin .Sub (.bin .Mult (.bin .Pow (.var 66) (.var 19)) (.bin .Pow (.var 67) (.var 65))) (.bin .Mult (.bin .Pow (.var 66) (.var 65)) (.bin .Pow (.var 67) (.var 19)))))) (.cons (.ret (.bin .Add (.bin .Sub (.var 63) (.var 64)) (.bin .Mult (.bin .Pow (.var 39) (.var 65)) (.bin .Sub (.bin .Mult (.bin .Pow (.var 66) (.var 19)) (.bin .Pow (.var 67) (.var 18))) (.bin .Mult (.bin .Pow (.var 66) (.var 18)) (.bin .Pow (.var 67) (.var 19))))))) .nil)))))
noncomputable def qA:List Nat:=[69,68,39,66,67,19,18,65,63,64]
noncomputable def rz:Ss:=(.cons (.ret (.call (.glob 50) (.cons (.bin .Add (.bin .Add (.cA (.str "") "join" (.cons (.eB false (.bin .Add (.bin .Mult (.str " ") (.bin .Add (.var 70) (.var 71))) (.str "\t")) 71 (.var 72) .nil [70] [71]) .nil)) (.bin .Mult (.str " ") (.var 73))) (.str "x\t ")) .nil))) .nil)
noncomputable def zH:List Nat:=[72,70,73]
noncomputable def sE:List Nat:=[76,70,73,88,86,74,75,89,84,85,79,80,83,82,81]
noncomputable def mK:Ss:=(.cons (.asg (.name 94) (.list false (.cons (.str "") (.cons (.str "\")\"") (.cons (.str "\\(") (.cons (.str "a") (.cons (.str "\"(\"") (.cons (.str "\\)") (.cons (.str "\\\\") (.cons (.str "\\\"") .nil)))))))))) (.cons (.asg (.name 90) (.bin .Mult (.str "(") (.var 91))) (.cons (.for 80 (.call (.glob 57) (.cons (.call (.glob 6) (.cons (.var 92) .nil)) .nil)) (.cons (.iff (.cmp .Eq (.sub (.var 92) (.var 80)) (.var 93)) (.cons (.asg (.name 90) (.bin .Add (.var 90) (.str "("))) .nil) (.cons (.iff (.cmp .Eq (.sub (.var 92) (.var 80)) (.bin .Add (.var 93) (.int 1))) (.cons (.asg (.name 90) (.bin .Add (.var 90) (.str ")"))) .nil) (.cons (.asg (.name 90) (.bin .Add (.var 90) (.sub (.var 94) (.bin .Mod (.bin .Add (.var 95) (.bin .Mult (.int 3) (.var 80))) (.int 8))))) .nil)) .nil)) .nil)) (.cons (.ret (.bin .Add (.var 90) (.bin .Mult (.str ")") (.bin .Sub (.bin .Add (.var 91) (.cA (.var 92) "count" (.cons (.var 93) .nil))) (.cA (.var 92) "count" (.cons (.bin .Add (.var 93) (.int 1)) .nil)))))) .nil))))
noncomputable def zI:List Nat:=[92,91,93,95,94,90,80]
noncomputable def kH:Ss:=(.cons (.asg (.name 96) (.eB false (.eB true (.sub (.var 72) (.var 80)) 72 (.var 77) (.cons (.cmp .Gt (.call (.glob 6) (.cons (.var 72) .nil)) (.var 80)) .nil) [80] [72]) 80 (.call (.glob 57) (.cons (.int 3) .nil)) .nil [77] [80])) (.cons (.for 71 (.bin .Add (.bin .Add (.bin .Mult (.list false (.cons (.int 3) .nil)) (.sub (.var 68) (.int 2))) (.bin .Mult (.list false (.cons (.int 2) .nil)) (.sub (.var 68) (.int 1)))) (.bin .Mult (.list false (.cons (.int 1) .nil)) (.sub (.var 68) (.int 0)))) (.cons (.for 97 (.var 96) (.cons (.asg (.name 98) (.call (.glob 42) (.cons (.var 97) (.cons (.var 71) .nil)))) (.cons (.iff (.cmp .Eq (.var 98) (.call (.glob 6) (.cons (.var 97) .nil))) (.cons (.expr (.cA (.var 97) "append" (.cons (.var 71) .nil))) (.cons .brk .nil)) .nil) (.cons (.asg (.g9 (.name 71) (.sub (.var 97) (.var 98))) (.tup (.cons (.sub (.var 97) (.var 98)) (.cons (.var 71) .nil)))) .nil)))) .nil)) (.cons (.ret (.var 96)) .nil)))
noncomputable def vK:List Nat:=[77,68,96,71,97,98]
noncomputable def pJ:Ss:=(.cons (.ret (.sub (.var 99) (.int 0))) .nil)
noncomputable def yf:List Nat:=[99]
noncomputable def yg:List Nat:=[62,60,63,127,130,69,129,68,76,70,73,88,113,112,74,102,105,77,92,120,125,118,93,91,122,111,109,107,104,108,100,132]
noncomputable def il:Ss:=(.cons (.iff (.cmp .Eq (.bin .Add (.var 135) (.int 1)) (.var 133)) (.cons (.ret (.sub (.var 30) (.var 135))) .nil) .nil) (.cons (.asg (.name 44) (.bin .RShift (.bin .Add (.var 135) (.var 133)) (.int 1))) (.cons (.asg (.name 134) (.bin .Mult (.bin .Sub (.var 44) (.var 135)) (.var 21))) (.cons (.ret (.bin .Add (.bin .LShift (.call (.var 29) (.cons (.var 44) (.cons (.var 133) .nil))) (.var 134)) (.call (.var 29) (.cons (.var 135) (.cons (.var 44) .nil))))) .nil))))
noncomputable def gz:List Nat:=[135,133,44,134]
noncomputable def ir:Ss:=(.cons (.iff (.cmp .Eq (.bin .Add (.var 135) (.int 1)) (.var 133)) (.cons (.asg (.sub (.var 28) (.var 135)) (.var 39)) (.cons .HP .nil)) .nil) (.cons (.asg (.name 44) (.bin .RShift (.bin .Add (.var 135) (.var 133)) (.int 1))) (.cons (.asg (.name 134) (.bin .Mult (.bin .Sub (.var 44) (.var 135)) (.var 21))) (.cons (.asg (.name 93) (.bin .RShift (.var 39) (.var 134))) (.cons (.asg (.name 136) (.bin .BitXor (.var 39) (.bin .LShift (.var 93) (.var 134)))) (.cons (.expr (.call (.var 29) (.cons (.var 136) (.cons (.var 135) (.cons (.var 44) .nil))))) (.cons (.expr (.call (.var 29) (.cons (.var 93) (.cons (.var 44) (.cons (.var 133) .nil))))) .nil)))))))
noncomputable def gA:List Nat:=[39,135,133,44,134,93,136]
noncomputable def kf:Ss:=(.cons (.asg (.name 21) (.cA (.var 18) "bit_length" .nil)) (.cons (.asg (.name 28) (.call (.glob 36) (.cons (.var 19) (.cons (.var 21) .nil)))) (.cons (.asg (.name 10) (.int 0)) (.cons (.asg (.name 32) (.list true .nil)) .nil))))
noncomputable def iF:Ss:=(.cons (.asg (.g9 (.name 35) (.name 10)) (.call (.glob 27) (.cons (.bin .Add (.bin .LShift (.var 10) (.var 21)) (.var 33)) (.cons (.var 18) (.cons (.var 21) .nil))))) (.cons (.expr (.cA (.var 32) "append" (.cons (.var 35) .nil))) .nil))
noncomputable def oM:Ss:=(.cons (.iff (.cmp .NotIn (.str "\"") (.var 2)) (.cons (.ret (.var 2)) .nil) .nil) (.cons (.asg (.name 5) (.int 0)) (.cons (.asg (.name 7) .vF) (.cons (.asg (.name 4) (.list true .nil)) .nil))))
noncomputable def uq:Ss:=(.cons (.iff (.cmp .Eq (.var 3) (.str "\"")) (.cons (.iff (.cmp .Is (.var 7) .vF) (.cons (.asg (.name 7) (.var 1)) .nil) (.cons (.iff (.cmp .NotEq (.var 5) (.var 7)) (.cons (.expr (.cA (.var 4) "append" (.cons (.slice (.var 2) (.var 5) (.var 7) .no) .nil))) .nil) .nil) (.cons (.asg (.name 5) (.bin .Add (.var 1) (.int 1))) (.cons (.asg (.name 7) .vF) .nil)))) .nil) .nil) .nil)
noncomputable def oN:Ss:=(.cons (.iff (.cmp .Lt (.var 5) (.call (.glob 6) (.cons (.var 2) .nil))) (.cons (.expr (.cA (.var 4) "append" (.cons (.slice (.var 2) (.var 5) .no .no) .nil))) .nil) .nil) (.cons (.ret (.cA (.str "") "join" (.cons (.var 4) .nil))) .nil))
noncomputable def oO:Ss:=(.cons (.asg (.name 2) (.call (.glob 9) (.cons (.var 2) .nil))) (.cons (.asg (.name 8) (.int 0)) .nil))
noncomputable def ur:Ss:=(.cons (.iff (.cmp .Eq (.var 3) (.str "(")) (.cons (.aug 8 .Add (.int 1)) .nil) (.cons (.iff (.cmp .Eq (.var 3) (.str ")")) (.cons (.aug 8 .Sub (.int 1)) (.cons (.iff (.cmp .Lt (.var 8) (.int 0)) (.cons (.ret (.bool false)) .nil) .nil) .nil)) .nil) .nil)) .nil)
noncomputable def oP:Ss:=(.cons (.ret (.cmp .Eq (.var 8) (.int 0))) .nil)
noncomputable def jr:T:=(.cmp .NotEq (.eB false (.sub (.var 103) (.int 1)) 103 (.var 100) .nil [] [103]) (.bin .Mult (.list false (.cons (.var 104) .nil)) (.int 3)))
noncomputable def js:T:=(.cmp .NotEq (.sub (.sub (.var 100) (.int 1)) (.int 0)) (.call (.glob 101) (.cons (.var 102) .nil)))
noncomputable def iu:Es:=(.cons (.sub (.sub (.var 100) (.int 0)) (.int 0)) (.cons (.call (.glob 110) (.cons (.list false (.cons (.var 63) (.cons (.var 130) (.cons (.var 63) .nil)))) (.cons (.list false (.cons (.int 0) (.cons (.int 0) (.cons (.int 0) .nil)))) .nil))) .nil))
noncomputable def kY:Ss:=(.cons (.iff (.cmp .Eq (.var 3) (.var 46)) (.cons (.asg (.name 21) (.bin .Add (.var 21) (.int 1))) (.cons (.asg (.name 18) (.bin .Add (.var 18) (.int 1))) .nil)) (.cons (.iff (.cmp .Eq (.var 3) (.var 47)) (.cons (.asg (.name 21) (.bin .Add (.var 21) (.int 1))) (.cons (.asg (.name 49) (.bin .Add (.var 49) (.int 1))) (.cons (.iff (.cmp .GtE (.var 18) (.call (.glob 6) (.cons (.var 48) .nil))) (.cons (.asg (.name 48) (.bin .Add (.var 48) (.bin .Mult (.list false (.cons (.int 0) .nil)) (.bin .Add (.bin .Sub (.var 18) (.call (.glob 6) (.cons (.var 48) .nil))) (.int 1))))) .nil) .nil) (.cons (.asg (.sub (.var 48) (.var 18)) (.bin .Add (.sub (.var 48) (.var 18)) (.int 1))) (.cons (.asg (.name 18) (.int 0)) .nil))))) (.cons .brk .nil)) .nil)) .nil)
noncomputable def mM:E:=(.tup (.cons (.call (.glob 141) (.cons (.var 48) .nil)) (.cons (.var 18) .nil)))
noncomputable def jF:E:=(.cmp .LtE (.call (.glob 6) (.cons (.var 48) .nil)) (.int 1))
section
section
variable{nm:Nat→Str}{gl:Nat→Option Value}
def Go(n:Nat)(env:Env)(own:List Nat)(rest:List Stmt)(Q:Fl→aw→Mu→Prop):Fl→aw→Mu→Prop:=fun r U O=>match r with
 |.next=>cn G n env own (execs rest env) U O Q
 |r=>Q r U O
theorem oh(env:Env):∀ (xs ys:List Stmt),execs (xs++ys) env=(do match ←execs xs env with | .next=>execs ys env|f=>pure f)
 |[],ys=>by
  rw[execs_nil]
  rfl
 |x::xs,ys=>by
  rw[List.cons_append,execs_cons,execs_cons,bind_assoc]
  congr 1
  funext f
  cases f with
  |next=>exact oh env xs ys
  |_=>rfl
theorem i6{M:Model}{A:Around}{E:Value→Shared→Prop}{s:Shared}{env:Env}{xs ys:List Stmt}{Q:Flow→Shared→Prop}
  (h:wpAny M A (execs xs env) (fun f s'=>match f with | .next=>wpAny M A (execs ys env) Q E s'|f=>Q f s') E s):wpAny M A (execs (xs++ys) env) Q E s:=by
 rw[oh];refine wpAny_bind (wpAny_mono h (fun f s' h'=>?_) fun zz zz x=>x);cases f<;>first|exact h'|exact wpAny_pure h'
theorem wI{n:Nat}{rest ys:List Stmt}{own:List Nat}{env:Env}{Q:Fl→aw→Mu→Prop}{U:aw}{O:Mu}(h:cn G n env own (execs ys env) U O (Go (G:=G) n env own rest Q)):cn G n env own (execs (ys++rest) env) U O Q:=by
 intro A hA B Z s I F;refine i6 (wpAny_mono (h A hA B Z s I F) ?_ fun zz zz x=>x);rintro f s1 ⟨r,a9,aA,B1,aE,hR,P1,F1,r1⟩;cases r1 with
 |next=>exact wpAny_mono (hR A hA B1 aE s1 P1.inv F1) (fun zz zz h=>PS.after P1 h) fun zz zz x=>x
 |brk=>exact⟨.brk,a9,aA,B1,aE,hR,P1,F1,.brk⟩
 |cont=>exact⟨.cont,a9,aA,B1,aE,hR,P1,F1,.cont⟩
 |ret r=>exact⟨.ret _,a9,aA,B1,aE,hR,P1,F1,.ret r⟩
theorem qB{n:Nat}(hn:∀x,G.nm x=nm x)(hg:∀x v,gl x=some v→G.gl x=some v){rest:List Stmt}{sc:Scope}{own:List Nat}{env:Env}{Q:Fl→aw→Mu→Prop}(hk:sc.kind=.function)(hs:env.scope=sc)
  (st:Ss){ys:List Stmt}{U:aw}{O:Mu}(h:cX nm st sc own ys=true)(w:aX G gl n st U O (Go (G:=G) n env own rest Q)):cn G n env own (execs (dS nm st ys++rest) env) U O Q:=
 wI (eP hn hg st hk h hs w)
end
theorem Bn{n:Nat}{a:Addr}{fd:FuncData}{oc:Value}{od:Option Addr}{osl:Array (Option Value)}{body:List Stmt}{vs:List V}{kw:List (Str×V)}{O:Mu}{Q:V→Mu→Prop}(own:List Nat)(ps:List (Nat×V))
  (EK:G.K.lookup a=some ⟨oc,od,.func fd,osl⟩)(jG:codeIn G.K fd.code fd.qualname=true)(ft:fd.body=.stmts body)(zJ:fd.closure=[])(hg:fd.globals=mainGlobals)(hb:fd.builtins=builtinsNs)
  (uu:fd.scope.isCoroutine=false)(l9:fd.scope.isGenerator=false)(hk:fd.scope.kind=.function)
  (lF:∀s xs ks B Z,G.K.In s.heap→aB B Z vs xs→aB B Z (kw.map (·.2)) ks→∃binds,BindsTo s fd ⟨xs,(kw.map (·.1)).zip ks⟩ binds∧gb (G:=G) B Z binds ps)
  (sG:∀p∈ps,p.1∈own∧(fd.scope.names.lookup (G.nm p.1)=some .local∨fd.scope.names.lookup (G.nm p.1)=some .cell))
  (h:∀env:Env,env.scope=fd.scope→env.code=fd.code→env.qual=fd.qualname++".<locals>."→cn G n env own (execs body env) (bc [] ps) O fun r zz ar=>∃v v',(r=.ret v∨(r=.next∧v=.none))∧Res O.length ar v v'∧Q v' (ar.take O.length)):
  aU G (n+1) (.ref a) vs kw O Q:=by
 intro A hA B Z s xs ks I rv rk;refine aW (lF s xs ks B Z I.jV rv rk) ?_;intro binds qC kI;refine wpAny_call (codeAny_call_function hA.room (I.jV a _ EK) rfl uu l9 ft (codeRec_of I.jV jG) (qC _ _ _ _ ?_));rw[zJ,hg,hb];refine dr ?_;have k1:=bN s.heap {cls:=.type "frame",data:=.dict #[]};have k2:=pushCells_keeps fd.scope.names (s.heap.push {cls:=.type "frame",data:=.dict #[]});have k:∀b o,s.heap.get? b=some o→(pushCells (s.heap.push {cls:=.type "frame",data:=.dict #[]}) fd.scope.names).get? b=some o:=fun b o e=>k2 b o (k1 b o e);have F:=bt.fresh (scope:=fd.scope) (cl:=[]) (fo:={cls:=.type "frame",data:=.dict #[]})
  (env:=newEnv fd.scope s.heap.objs.size mainGlobals (cellsFrom (s.heap.objs.size+1) fd.scope.names []) (fd.qualname++".<locals>.") (some a) fd.code none builtinsNs) I ⟨_,rfl⟩ ⟨(fun zz zz m=>nomatch m),.nil⟩ (fun zz zz=>trivial) rfl rfl rfl hk rfl rfl
 refine jq (s:={s with heap:=_}) kI (fun p hp=>sG p hp) (I.keeps k) F ?_
 intro h1 tk F1 P1;refine⟨P1.inv.noLimit,codeAny_func ?_⟩;refine wpAny_mono (h _ rfl rfl rfl _ (hA.deeper _) B Z _ P1.inv F1) ?_ fun zz zz x=>x.elim;rintro fl s' ⟨r,ao,ar,B',aH,⟨v,v',hv,hc,q⟩,P',F',r'⟩;have P:=P1.trans P';have len:Z.length=O.length:=I.len;have out:=aG.wF (s:=s) I.ey.1 k .heap P (fun a' m=>by
  rcases ez m with e|⟨n',eA⟩
  ·rw[e];exact cx _
  ·have m':(n',a')∈cellsFrom (s.heap.objs.size+1) fd.scope.names []:=mem_of_lookup eA
   have ok:=cK fd.scope.names (s.heap.push {cls:=.type "frame",data:=.dict #[]}) (s.heap.objs.size+1) [] [] (fun zz zz m=>nomatch m) (fun zz zz m=>nomatch m) .nil (by rw[Heap.size_push];exact Nat.le_refl _)
   rw[Heap.size_push]at ok;rcases ok.1 n' a' m' with z|z
   ·cases z
   ·exact fA (by omega))
 rw[len]at out;have fin:∀ {x:Value},VR B' aH v x→PV G B Z s Q x s':=fun{x} hx=>by
  have r2:=Res.vr (Z:=Z) P.inv (len▸hc) hx;rw[len]at r2;exact⟨v',_,_,Z,q,out,r2⟩
 rcases hv with rfl|⟨rfl,rfl⟩
 ·cases r' with|ret r=>exact fin r
 ·cases r' with|next=>exact fin .none
variable (G)
def U3(n:Nat)(env:Env)(t:Sem Value)(U:aw)(O:Mu)(R:List V→Mu→Prop):Prop:=
 ∀A,bY n A→∀B Z s,Inv G B Z O s.heap→bt G env B Z U s.heap→∀ (K:Value→Shared→Prop),
  (∀B1 aE aA s1 xs it h' fp P St,R xs aA→aG G [] B Z s B1 aE aA s1→s1.heap.get? it=none→(∀b o,s1.heap.get? b=some o→h'.get? b=some o)→(∀i h,St i h→∃o,h.get? it=some o)→
   (∀A',A'.handled=none→Walks G.prog G.w A' it fp [it] xs.length P St)→(∀ (i:Nat) y,i<xs.length→P i y→∃x,xs[i]?=some x∧VR B1 aE x y)→St 0 h'→(∀b∈fp,b=it∨B1 b≠none)→K (.ref it) {s1 with heap:=h'})→
  wpAny (model G.prog G.w) A t (fun u s'=>wpAny (model G.prog G.w) A (pyIter u) K bM s') bM s
variable {G}
theorem Lz{n:Nat}{env:Env}{own:List Nat}{U:aw}{O:Mu}{Q:Fl→aw→Mu→Prop}{target iter:Expr}{body:List Stmt}{pos:Pos}
  (h:U3 G n env (eval iter env) U O fun xs aA=>forL (fun x U O k=>gF G n env own (assign target env) x U O fun ao ar=>cn G n env own (execs body env) ao ar k) xs U aA Q)
  (hf:∀x,foldedSetIterable iter env x=pure x)(ht:∀it v,letOwnedTupleGo target it v=pure ()):
  cn G n env own (exec (.For target iter body [] pos) env) U O Q:=
 fun A hA B Z s I F=>xQ hA F (h A hA B Z s I F) hf ht
end
section
set_option maxHeartbeats 8000000
noncomputable abbrev mr:=PySem.Challenge.rw_tc0078_01
noncomputable def Im:Stmt→DefRec
 |.FunctionDef n a b _ _ _ s _ _ p=>⟨n,a,b,s,p⟩
 |_=>⟨"",default,[],default,default⟩
noncomputable def U4:Stmt→List Stmt
 |.ClassDef _ _ _ b .. =>b
 |_=>[]
noncomputable def top(i:Nat):Stmt:=mr.prog.main.body.getD i default
noncomputable def cA(i:Nat):Stmt:=(U4 (top 18)).getD i default
noncomputable def je(st:Stmt)(q m:Str)(t c:Nat)(d:Value:=.none)(k:Value:=.none):Obj:=
 ⟨.type "function",.none,.func {name:=(Im st).name,qualname:=q,params:=(Im st).params,body:=.stmts (Im st).body,scope:=(Im st).scope,globals:=3,closure:=[],defaults:=d,kwdefaults:=k,pyModule:=.str m t,code:=.ref c},#[]⟩
noncomputable def kZ(r:Nat)(n q:Str)(t:Nat)(l a b c f g x:Int)(u:Nat):Obj:=
 ⟨.type "code",.none,.fields #[.str n t,.str q (t+1),.str "/claim/cut.py" (t+2),.int l 0,.int a 0,.int b 0,.int c 0,.int f 0,.ref r,.bool true,.int g 0,.ref (r+1),.none,.ref (r+2),.ref (r+3),.ref (r+4),.int x 0,.int l 0,.str "/claim/cut.py" u],#[]⟩
noncomputable def Dq(r:Nat)(n q:Str)(t:Nat)(l a b c f g x:Int)(u:Nat):Obj:=
 ⟨.type "code",.none,.fields #[.str n t,.str q (t+1),.str "/claim/cut.py" (t+2),.int l 0,.int a 0,.int b 0,.int c 0,.int f 0,.ref r,.bool true,.int g 0,.ref (r+1),.none,.none,.none,.ref (r+2),.int x 0,.int l 0,.str "/claim/cut.py" u],#[]⟩
noncomputable def ent(P:Params)(x:Str)(t:Nat)(v:Value):DictEntry:=⟨PyData.keyHash P x,.str x t,v⟩
noncomputable def K0(P:Params):Frag:=
 [(2,⟨.none,.none,(.dict #[] 0),#[]⟩),
 (3,⟨(.type "dict"),.none,(.dict #[ent P "__name__" 165 (.str "law_tc0078_01" 455),ent P "__doc__" 166 .none,ent P "__package__" 167 .none,ent P "__loader__" 168 (.builtin "__main__.__loader__#opaque"),ent P "__spec__" 169 .none,ent P "__annotations__" 170 (.ref 6),ent P "__builtins__" 171 (.ref 4),ent P "__file__" 173 (.str "/claim/cut.py" 172),ent P "__cached__" 174 .none,ent P "_wall" 193 (.ref 21),ent P "_iter_escaped_chars" 205 (.ref 28),ent P "_strip_quoted_realnames" 217 (.ref 35),ent P "_check_parenthesis" 227 (.ref 42),ent P "_DIV_LIMIT" 231 (.int 4000 230),ent P "_div2n1n" 248 (.ref 49),ent P "_div3n2n" 262 (.ref 56),ent P "_int2digits" 273 (.ref 63),ent P "_digits2int" 284 (.ref 70),ent P "_divmod_pos" 299 (.ref 77),ent P "int_divmod" 309 (.ref 84),ent P "insort_right" 324 (.ref 93),ent P "bisect_right" 338 (.ref 102),ent P "bisect_left" 352 (.ref 111),ent P "Whitespace" 454 (.ref 173),ent P "_law_cells" 466 (.ref 184),ent P "_law_alternant" 482 (.ref 191),ent P "_law_lead" 488 (.ref 196),ent P "_law_fillings" 494 (.ref 201),ent P "_law_text" 507 (.ref 208),ent P "_law_pushed" 513 (.ref 213),ent P "_law_shape" 520 (.ref 220),ent P "law" 526 (.ref 225)] 32),#[]⟩),
 (27,kZ 22 "_iter_escaped_chars" "_iter_escaped_chars" 196 5 1 0 0 35 181 203 204),
 (28,je (top 2) "_iter_escaped_chars" "cpy313.email.utils" 194 27),
 (34,kZ 29 "_strip_quoted_realnames" "_strip_quoted_realnames" 206 18 1 0 0 3 181 215 216),
 (35,je (top 3) "_strip_quoted_realnames" "cpy313.email.utils" 194 34),
 (41,kZ 36 "_check_parenthesis" "_check_parenthesis" 218 36 1 0 0 3 181 225 226),
 (42,je (top 4) "_check_parenthesis" "cpy313.email.utils" 194 41),
 (48,kZ 43 "_div2n1n" "_div2n1n" 232 49 3 0 0 3 181 246 247),
 (49,je (top 7) "_div2n1n" "cpy313._pylong" 228 48),
 (55,kZ 50 "_div3n2n" "_div3n2n" 249 65 6 0 0 3 181 260 261),
 (56,je (top 8) "_div3n2n" "cpy313._pylong" 228 55),
 (62,kZ 57 "_int2digits" "_int2digits" 263 75 2 0 0 3 181 271 272),
 (63,je (top 9) "_int2digits" "cpy313._pylong" 228 62),
 (69,kZ 64 "_digits2int" "_digits2int" 274 91 2 0 0 3 181 282 283),
 (70,je (top 10) "_digits2int" "cpy313._pylong" 228 69),
 (76,kZ 71 "_divmod_pos" "_divmod_pos" 285 100 2 0 0 3 181 297 298),
 (77,je (top 11) "_divmod_pos" "cpy313._pylong" 228 76),
 (83,kZ 78 "int_divmod" "int_divmod" 300 111 2 0 0 3 181 307 308),
 (84,je (top 12) "int_divmod" "cpy313._pylong" 228 83),
 (85,⟨(.type "tuple"),.none,(.seq #[(.int 0 312),.none] 0),#[]⟩),
 (86,⟨(.type "dict"),.none,(.dict #[ent P "key" 313 .none] 1),#[]⟩),
 (92,kZ 87 "insort_right" "insort_right" 314 123 4 0 1 3 181 322 323),
 (93,je (top 14) "insort_right" "cpy313.bisect" 310 92 (.ref 85) (.ref 86)),
 (94,⟨(.type "tuple"),.none,(.seq #[(.int 0 325),.none] 0),#[]⟩),
 (95,⟨(.type "dict"),.none,(.dict #[ent P "key" 326 .none] 1),#[]⟩),
 (101,kZ 96 "bisect_right" "bisect_right" 327 129 4 0 1 3 181 336 337),
 (102,je (top 15) "bisect_right" "cpy313.bisect" 310 101 (.ref 94) (.ref 95)),
 (103,⟨(.type "tuple"),.none,(.seq #[(.int 0 339),.none] 0),#[]⟩),
 (104,⟨(.type "dict"),.none,(.dict #[ent P "key" 340 .none] 1),#[]⟩),
 (110,kZ 105 "bisect_left" "bisect_left" 341 149 4 0 1 3 181 350 351),
 (111,je (top 16) "bisect_left" "cpy313.bisect" 310 110 (.ref 103) (.ref 104)),
 (127,kZ 122 "__init__" "Whitespace.__init__" 372 173 2 0 0 3 181 384 385),
 (128,je (cA 1) "Whitespace.__init__" "cpy313.tabnanny" 353 127),
 (134,kZ 129 "longest_run_of_spaces" "Whitespace.longest_run_of_spaces" 387 196 1 0 0 3 181 393 394),
 (135,je (cA 2) "Whitespace.longest_run_of_spaces" "cpy313.tabnanny" 353 134),
 (141,kZ 136 "indent_level" "Whitespace.indent_level" 396 200 2 0 0 3 181 405 406),
 (142,je (cA 3) "Whitespace.indent_level" "cpy313.tabnanny" 353 141),
 (162,kZ 157 "less" "Whitespace.less" 424 213 2 0 0 3 181 431 432),
 (163,je (cA 6) "Whitespace.less" "cpy313.tabnanny" 353 162),
 (172,⟨(.type "dict"),.none,(.dict #[ent P "__module__" 362 (.str "cpy313.tabnanny" 353),ent P "__firstlineno__" 366 (.int 170 365),ent P "S" 370 (.str " " 368),ent P "T" 371 (.str "\t" 369),ent P "__init__" 386 (.ref 128),ent P "longest_run_of_spaces" 395 (.ref 135),ent P "indent_level" 407 (.ref 142),ent P "equal" 415 (.ref 149),ent P "not_equal_witness" 423 (.ref 156),ent P "less" 433 (.ref 163),ent P "not_less_witness" 441 (.ref 170),ent P "__static_attributes__" 447 (.ref 171),ent P "__dict__" 449 (.ref 174),ent P "__weakref__" 451 (.ref 175),ent P "__doc__" 452 .none] 4),#[]⟩),
 (173,⟨(.type "type"),.none,(.cls ⟨"Whitespace",[(.type "object")],[(.ref 173),(.type "object")],172,"Whitespace",.true,[],[],.false,.none,.false⟩),#[.none,.none,(.some (.str "Whitespace" 355)),(.some (.str "Whitespace" 363)),(.some (.builtin "object.__new__")),(.some (.bool .true))]⟩),
 (183,kZ 178 "_law_cells" "_law_cells" 457 227 1 0 0 3 181 464 465),
 (184,je (top 20) "_law_cells" "law_tc0078_01" 455 183),
 (190,kZ 185 "_law_alternant" "_law_alternant" 467 233 2 0 0 3 181 480 481),
 (191,je (top 21) "_law_alternant" "law_tc0078_01" 455 190),
 (195,Dq 192 "_law_lead" "_law_lead" 483 239 3 0 0 3 181 486 487),
 (196,je (top 22) "_law_lead" "law_tc0078_01" 455 195),
 (200,Dq 197 "_law_fillings" "_law_fillings" 489 241 4 0 0 3 181 492 493),
 (201,je (top 23) "_law_fillings" "law_tc0078_01" 455 200),
 (207,kZ 202 "_law_text" "_law_text" 495 258 4 0 0 3 181 505 506),
 (208,je (top 24) "_law_text" "law_tc0078_01" 455 207),
 (212,Dq 209 "_law_pushed" "_law_pushed" 508 269 2 0 0 3 181 511 512),
 (213,je (top 25) "_law_pushed" "law_tc0078_01" 455 212),
 (219,kZ 214 "_law_shape" "_law_shape" 514 279 1 0 0 3 181 518 519),
 (220,je (top 26) "_law_shape" "law_tc0078_01" 455 219),
 (224,Dq 221 "law" "law" 521 281 1 0 0 3 181 524 525),
 (225,je (top 27) "law" "law_tc0078_01" 455 224)]
noncomputable def U5:List Addr:=[2,3,27,28,34,35,41,42,48,49,55,56,62,63,69,70,76,77,83,84,85,86,92,93,94,95,101,102,103,104,110,111,127,128,134,135,141,142,162,163,172,173,183,184,190,191,195,196,200,201,207,208,212,213,219,220,224,225]
theorem k0(P:Params):U5=(K0 P).map (·.1):=by kd_p
noncomputable abbrev H:Hook:=kmHook K0 U5 k0 [65,58,222]
noncomputable def qv:Program:={mr.prog with main:={mr.prog.main with body:=mr.prog.main.body.drop 27}}
noncomputable def U6:List Str:=["_wall","_iter_escaped_chars","_strip_quoted_realnames","_check_parenthesis","_DIV_LIMIT","_div2n1n","_div3n2n","_int2digits","_digits2int","_divmod_pos","int_divmod","insort_right","bisect_right","bisect_left","Whitespace","_law_cells","_law_alternant","_law_lead","_law_fillings","_law_text","_law_pushed","_law_shape"]
noncomputable def uw:DefRec:=Im (top 27)
theorem QQ:defOf qv mr.row.name=some (uw,[]):=by kd_p
theorem LB:mr.row.prog.theDef mr.row.name=some (uw.params,uw.body,uw.scope):=by kd_p
theorem YU:kwWritten? uw.params.kwonlyargs uw.params.kw_defaults=some []:=by kd_p
theorem YV:(chainsOk qv&&opensWell mr.row.prog&&(frees mr.row.toRowW&&mr.row.within.isEmpty))=true:=by kd_p
theorem QR:mr.row.prog.bare:=⟨rfl,rfl,rfl,rfl,rfl,by decide +kernel⟩
theorem prom:mr.row.toRowW.promised:=⟨[.list [.int 3,.int 1]],by decide +kernel,by decide +kernel⟩
theorem QS:mr.wellSaid=true:=(congrFun PySem.W.Fast.te9446332074065402090 mr).trans (by kd_p)
theorem QT:LeftO mr.row.prog qv U6 (fun s=>xlAt qv [] s&&recOk (RowW.records mr.row.toRowW) s) (Hook.obs H) (Hook.val H) 2612:=
 LeftO.of_split "special-get-raises" (fun w=>by
  unfold topFrom;rw[PySem.W.Fast.te14082659384304107361,PySem.W.Fast.te4187177175401517315,PySem.W.Fast.te14364793385576792824]
  kd_p)
theorem hd(walk:WalkO qv U6 (XL qv []) (Hook.says H) mr.row.toRowW uw [] fun f vs=>PySem.call f vs):mr.Holds:=
 holds_law QS fun U7=>holds_open QT (Hook.of H) (Hook.keeps H) (fun s e=>xl_of s (Bool.and_eq_true_iff.mp e).1) XL.keeps QQ LB YU (fun s e=>recFacts_of (Bool.and_eq_true_iff.mp e).2) rfl U7 YV QR prom walk
end
noncomputable def ba(K:Frag)(a:Addr):FuncData:=match K.lookup a with
 |some ⟨_,_,.func fd,_⟩=>fd
 |_=>default
noncomputable def dy:FuncBody→List Stmt
 |.stmts b=>b
 |_=>[]
noncomputable abbrev KP(P:Params):Frag:=K0 P
noncomputable def zK:FuncBody→Bool
 |.stmts _=>true
 |_=>false
noncomputable def vL(K:Frag)(a:Addr):Bool:=match K.lookup a with
 |some ⟨_,_,.func fd,_⟩=>zK fd.body&&codeIn K fd.code fd.qualname&&fd.closure.isEmpty&&fd.globals==mainGlobals&&fd.builtins==builtinsNs && !fd.scope.isCoroutine && !fd.scope.isGenerator&&fd.scope.kind == .function
 |_=>false
def mN(B:ay)(h:Heap)(P l c:Nat)(q:Str):Prop:=h.get? P=some (tabObj #[])∨∃c',fX B (.ref c') q∧h.get? P=some (tabObj #[rawInt l,rawInt c,.ref c'])
theorem mN.mono{B B':ay}{h h':Heap}{P l c:Nat}{q:Str}(x:mN B h P l c q)(hB:∀k,fX B k q→fX B' k q)(hk:∀o,h.get? P=some o→h'.get? P=some o):mN B' h' P l c q:=
 x.imp (hk _) fun⟨c',a,b⟩=>⟨c',hB _ a,hk _ b⟩
theorem mN.there{B:ay}{h:Heap}{P l c:Nat}{q:Str}(x:mN B h P l c q):∃o,h.get? P=some o:=x.elim (fun e=>⟨_,e⟩) fun⟨zz,_,e⟩=>⟨_,e⟩
noncomputable def QU:Str:=Str.ofString "_int2digits.<locals>.inner"
noncomputable def QV:Str:=Str.ofString "_digits2int.<locals>.inner"
noncomputable def ux:Str:=Str.ofString "law.<locals>.<lambda>"
def oQ:ay→Heap→Prop:=fun B h=>mN B h 58 78 4 QU∧mN B h 65 93 4 QV∧mN B h 222 317 32 ux
theorem EL:Oq oQ where
 mono:=fun x hB hk=>⟨x.1.mono (fun zz k=>k.mono hB) (hk 58 (by simp[tabs])),x.2.1.mono (fun zz k=>k.mono hB) (hk 65 (by simp[tabs])),x.2.2.mono (fun zz k=>k.mono hB) (hk 222 (by simp[tabs]))⟩
 there:=fun x a ha=>by
  rcases List.mem_cons.mp ha with rfl|ha
  ·exact x.2.1.there
  rcases List.mem_cons.mp ha with rfl|ha
  ·exact x.1.there
  rw[List.mem_singleton.mp ha];exact x.2.2.there
 strip:=fun{B B' h} x hs=>by
  have:∀q k,fX B k q→fX B' k q:=fun q k ⟨c',o,vs,t,e,g,d,r⟩=>⟨c',o,vs,t,e,hs _ _ g (fun v z=>by rw[d]at z;cases z),d,r⟩
  exact⟨x.1.mono (this _) fun zz e=>e,x.2.1.mono (this _) fun zz e=>e,x.2.2.mono (this _) fun zz e=>e⟩
structure bx(G:dn):Prop where
 TI:G.TI=oQ
 QW:∀h:Heap,(∀a o,G.Bs a=some o→h.get? a=some o)→∃mg,h.Ns mainGlobals mg∧∀P∈tabs,mainGlobals≠P∧h.BuiltinsAt mg P
 nm:∀x,G.nm x=aI x
 gl:∀x v,bX x=some v→G.gl x=some v
 K:∃P,G.K=KP P
theorem qD{B:ay}{Z:List Addr}(hn:∀x,G.nm x=aI x):∀ {ps:List (Nat×V)} {xs:List Value},aB B Z (ps.map (·.2)) xs→gb (G:=G) B Z ((ps.map fun p=>aI p.1).zip xs) ps
 |[],xs,h=>by rw[h.fg];exact .nil
 |(x,v)::ps,xs,h=>by
  refine aB.aO h ?_;intro u us r rs;show gb B Z ((aI x,u)::(ps.map fun p=>aI p.1).zip us) ((x,v)::ps);rw[←hn];exact .cons r (qD hn rs)
def qE(O:Mu)(Q:V→Mu→Prop):Fl→aw→Mu→Prop:=fun r zz ar=>match r with
 |.ret v=>Cl v∧Q v (ar.take O.length)
 |.next=>Q .none (ar.take O.length)
 |_=>False
def wJ(O:Mu)(Q:V→Mu→Prop):Fl→aw→Mu→Prop:=fun r zz ar=>match r with
 |.ret v=>∃v',Res O.length ar v v'∧Q v' (ar.take O.length)
 |.next=>Q .none (ar.take O.length)
 |_=>False
theorem lG(hG:bx G){n:Nat}{a:Addr}{own:List Nat}{vs:List V}{kw:List (Str×V)}{O:Mu}{Q:V→Mu→Prop}(ps:List (Nat×V))
  (hb:∀P xs ks B Z,aB B Z vs xs→aB B Z (kw.map (·.2)) ks→∃jX,aB B Z (ps.map (·.2)) jX∧∀S,peek (KP P) S (bindArgs (ba (KP P) a) ⟨xs,(kw.map (·.1)).zip ks⟩)=some ((ps.map fun p=>aI p.1).zip jX))
  (h:∀P env,G.K=KP P→env.scope=(ba (KP P) a).scope→env.code=(ba (KP P) a).code→env.qual=(ba (KP P) a).qualname++".<locals>."→(ba (KP P) a).scope.kind=.function→
   cn G n env own (execs (dy (ba (KP P) a).body) env) (bc [] ps) O (wJ O Q))
  (hf:∀P,vL (KP P) a=true:=by exact fun P=>by kd_p)(hp:∀P,(ps.map (·.1)).all (jW aI (ba (KP P) a).scope own)=true:=by exact fun P=>by kd_p):aU G (n+1) (.ref a) vs kw O Q:=by
 obtain⟨P,hP⟩:=hG.K;have hf:=hf P;have hp:=hp P;have hb:=hb P;have h:=h P;unfold vL at hf;split at hf
 ·rename_i oc od fd osl e
  have lH:ba (KP P) a=fd:=by unfold ba;rw[e]
  rw[lH]at hp hb h;simp only[Bool.and_eq_true,Bool.not_eq_true']at hf;obtain⟨⟨⟨⟨⟨⟨⟨f1,f2⟩,f3⟩,f4⟩,f5⟩,f6⟩,f7⟩,f8⟩:=hf;have ft:fd.body=.stmts (dy fd.body):=by
   cases q:fd.body<;>first|rfl|(rw[q]at f1;cases f1)
  have hk:fd.scope.kind=.function:=eq_of_beq f8;intro A hA B Z s xs ks I rv rk;refine Bn (G:=G) (n:=n) (oc:=oc) (od:=od) (osl:=osl) (fd:=fd) (body:=dy fd.body) own ps (by rw[hP];exact e) (by rw[hP];exact f2) ft (List.isEmpty_iff.mp f3) (eq_of_beq f4) (eq_of_beq f5) f6 f7 hk ?_ (fun p hq=>?_) (fun env hs hc hq=>?_) A hA B Z s xs ks I rv rk
  ·intro s' jX YW B' aH X QX YX
   refine aW (hb jX YW B' aH QX YX) ?_;intro us r e';rw[hP]at X;exact⟨_,kp_binds X e',qD hG.nm r⟩
  ·have:=List.all_eq_true.mp hp p.1 (List.mem_map_of_mem hq)
   exact fB (G:=G) (env:=zt fd.scope) rfl hG.nm this
  ·refine cn.mono (h env hP hs hc hq hk) fun r ao ar q=>?_
   unfold wJ at q;cases r with
   |next=>exact⟨.none,.none,.inr ⟨rfl,rfl⟩,.cl .none,q⟩
   |brk=>exact q.elim
   |cont=>exact q.elim
   |ret v=>refine aW q ?_;clear q;intro v' hr q;exact⟨v,v',.inl rfl,hr,q⟩
 ·exact iO hf
theorem yh(hG:bx G){n:Nat}{a:Addr}{st:Ss}{own:List Nat}{vs:List V}{kw:List (Str×V)}{O:Mu}{Q:V→Mu→Prop}(ps:List (Nat×V))
  (hb:∀P xs ks B Z,aB B Z vs xs→aB B Z (kw.map (·.2)) ks→∃jX,aB B Z (ps.map (·.2)) jX∧∀S,peek (KP P) S (bindArgs (ba (KP P) a) ⟨xs,(kw.map (·.1)).zip ks⟩)=some ((ps.map fun p=>aI p.1).zip jX))
  (h:aX G bX n st (bc [] ps) O (wJ O Q))
  (hf:∀P,vL (KP P) a=true:=by exact fun P=>by kd_p)(hl:∀P,cX aI st (ba (KP P) a).scope own (dy (ba (KP P) a).body)=true:=by exact fun P=>by kd_p)(hm:∀P,dS aI st (dy (ba (KP P) a).body)=dy (ba (KP P) a).body:=by exact fun P=>by kd_p)(hp:∀P,(ps.map (·.1)).all (jW aI (ba (KP P) a).scope own)=true:=by exact fun P=>by kd_p):aU G (n+1) (.ref a) vs kw O Q:=
 lG hG ps hb (fun P env hP hs hc hq hk=>hm P▸eP hG.nm hG.gl st hk (hl P) hs h) hf hp
theorem fN(hG:bx G){n:Nat}{a:Addr}{st:Ss}{own:List Nat}{vs:List V}{kw:List (Str×V)}{O:Mu}{Q:V→Mu→Prop}(ps:List (Nat×V))
  (hb:∀P xs ks B Z,aB B Z vs xs→aB B Z (kw.map (·.2)) ks→∃jX,aB B Z (ps.map (·.2)) jX∧∀S,peek (KP P) S (bindArgs (ba (KP P) a) ⟨xs,(kw.map (·.1)).zip ks⟩)=some ((ps.map fun p=>aI p.1).zip jX))
  (h:aX G bX n st (bc [] ps) O (qE O Q))
  (hf:∀P,vL (KP P) a=true:=by exact fun P=>by kd_p)(hl:∀P,cX aI st (ba (KP P) a).scope own (dy (ba (KP P) a).body)=true:=by exact fun P=>by kd_p)(hm:∀P,dS aI st (dy (ba (KP P) a).body)=dy (ba (KP P) a).body:=by exact fun P=>by kd_p)(hp:∀P,(ps.map (·.1)).all (jW aI (ba (KP P) a).scope own)=true:=by exact fun P=>by kd_p):aU G (n+1) (.ref a) vs kw O Q:=
 lG hG ps hb (fun P env hP hs hc hq hk=>hm P▸cn.mono (eP hG.nm hG.gl st hk (hl P) hs h) fun r ao ar q=>by
  cases r with
  |next=>exact q
  |brk=>exact q.elim
  |cont=>exact q.elim
  |ret v=>exact⟨v,.cl q.1,q.2⟩) hf hp
open Classical in
noncomputable def eM(B:ay)(as:List Addr)(h:Heap):ay:=fun a=>match B a with
 |some o=>some o
 |none=>if a∈as then h.get? a else none
theorem jH(B:ay)(as:List Addr)(h:Heap):ay.le B (eM B as h):=fun a o e=>by unfold eM;rw[e]
theorem jI{B:ay}{as:List Addr}{h:Heap}{a:Addr}(hB:B a=none)(m:a∈as):eM B as h a=h.get? a:=by unfold eM;rw[hB];simp only[];rw[if_pos m]
theorem eI{B:ay}{as:List Addr}{h:Heap}{a:Addr}(hB:B a=none)(m:a∉as):eM B as h a=none:=by unfold eM;rw[hB];simp only[];rw[if_neg m]
theorem Inv.old{B:ay}{Z:List Addr}{O:Mu}{h:Heap}(I:Inv G B Z O h){a:Addr}(ha:h.objs.size≤a):B a=none:=by
 cases q:B a with
 |none=>rfl
 |some o=>exact absurd (Heap.lt_size (I.holds a o q)) (Nat.not_lt.mpr ha)
theorem aG.news{B:ay}{Z:List Addr}{O:Mu}{s:Shared}{H:Heap}{tk:Nat}{P:Addr}{as:List Addr}(I:Inv G B Z O s.heap)(QY:P∈tabs)(hx:∀b o,b≠P→s.heap.get? b=some o→H.get? b=some o)
  (has:∀a∈as,s.heap.objs.size≤a)(hT:G.TI (eM B as H) H):aG G [] B Z s (eM B as H) Z O {s with heap:=H,toks:=tk}:=by
 have le:=jH B as H;have nP:∀ {b o},B b=some o→b≠P:=fun e q=>by rw[q,(I.cg P QY).1]at e;exact bk e
 have aP:∀ {b},b∈Z→b≠P:=fun m q=>(I.cg P QY).2 (q▸m);have fresh:∀ {b},b∈as→s.heap.get? b=none:=fun m=>fA (has _ m);have old:∀ {b o},s.heap.get? b=some o→b∉as:=fun e m=>by rw[fresh m]at e;exact bk e
 refine⟨le,List.prefix_refl _,⟨I.base.trans le,fun a o e=>?_,I.len,fun i a xs h1 h2=>?_,fun a m=>?_,I.nodup,fun a m=>⟨?_,(I.cg a m).2⟩,hT,I.ey⟩,fun b o hb e=>?_,(fun zz m=>nomatch m),.heap,fun a ha=>?_,fun zz h=>.inl h⟩
 ·cases q:B a with
  |some o'=>rw[le a o' q]at e;cases Option.some.inj e;exact hx a _ (nP q) (I.holds a _ q)
  |none=>
   by_cases m:a∈as
   ·rw[jI q m]at e;exact e
   ·rw[eI q m]at e;exact bk e
 ·refine ew (I.ml i a xs h1 h2) ?_;intro e vs n g r
  exact⟨eI e (old g),vs,n,hx a _ (aP (List.mem_of_getElem? h1)) g,r.mono le (List.prefix_refl _)⟩
 ·obtain⟨o,e⟩:=I.dp a m;exact⟨o,hx a o (aP m) e⟩
 ·obtain⟨o,e⟩:=I.there (List.mem_append_right Z m)
  exact eI (I.cg a m).1 (old e)
 ·exact hx b o (fun q=>hb (by simp[q,QY])) e
 ·cases q:B a with
  |some o=>exact .inl (by simp)
  |none=>
   by_cases m:a∈as
   ·exact .inr (.inr (fresh m))
   ·exact absurd (eI q m) ha
structure jf(P l c:Nat)(q:Str):Prop where
 mem:P∈tabs
 at':∀ {B h},oQ B h→mN B h P l c q
 put:∀ {B B' h h'},oQ B h→ay.le B B'→(∀a∈tabs,a≠P→∀o,h.get? a=some o→h'.get? a=some o)→mN B' h' P l c q→oQ B' h'
theorem QZ:jf 58 78 4 QU:=⟨by simp[tabs],fun x=>x.1,fun x hB hk y=>
 ⟨y,x.2.1.mono (fun zz k=>k.mono hB) (hk 65 (by simp[tabs]) (by decide)),x.2.2.mono (fun zz k=>k.mono hB) (hk 222 (by simp[tabs]) (by decide))⟩⟩
theorem Q0:jf 65 93 4 QV:=⟨by simp[tabs],fun x=>x.2.1,fun x hB hk y=>
 ⟨x.1.mono (fun zz k=>k.mono hB) (hk 58 (by simp[tabs]) (by decide)),y,x.2.2.mono (fun zz k=>k.mono hB) (hk 222 (by simp[tabs]) (by decide))⟩⟩
theorem LC:jf 222 317 32 ux:=⟨by simp[tabs],fun x=>x.2.2,fun x hB hk y=>
 ⟨x.1.mono (fun zz k=>k.mono hB) (hk 58 (by simp[tabs]) (by decide)),x.2.1.mono (fun zz k=>k.mono hB) (hk 65 (by simp[tabs]) (by decide)),y⟩⟩
theorem pK(hG:bx G){B:ay}{Z:List Addr}{O:Mu}{s:Shared}{h':Heap}{fd:FuncData}{ct d pm:Value}{tk:Nat}{P l c:Nat}{q:Str}{c':Addr}(E:jf P l c q)(hq:fd.qualname=q)(I:Inv G B Z O s.heap)
  (hx:Heap.ExtBut P s.heap h')(oR:s.heap.objs.size≤c')(bA:c'<h'.objs.size)(rA:h'.CodeRec (.ref c') q)(hP:h'.get? P=some (tabObj #[rawInt l,rawInt c,.ref c'])):
  ∃B',aG G [] B Z s B' Z O {s with heap:=h'.push {cls:=.type "function",data:=.func {fd with code:=.ref c',closureTuple:=ct,doc:=d,pyModule:=pm}},toks:=tk}∧VR B' Z (.fn fd) (.ref h'.objs.size):=by
 let fo:Obj:={cls:=.type "function",data:=.func {fd with code:=.ref c',closureTuple:=ct,doc:=d,pyModule:=pm}}
 have hk:∀b o,b≠P→s.heap.get? b=some o→(h'.push fo).get? b=some o:=fun b o hb e=>Heap.get?_push_of_some _ (hx b o hb e);have has:∀a∈[c',h'.objs.size],s.heap.objs.size≤a:=by
  intro a m;simp at m;rcases m with rfl|rfl
  ·exact oR
  ·exact Nat.le_trans oR (Nat.le_of_lt bA)
 have B0:B c'=none:=I.old oR;have B1:B h'.objs.size=none:=I.old (Nat.le_trans oR (Nat.le_of_lt bA));have e1:eM B [c',h'.objs.size] (h'.push fo) h'.objs.size=some fo:=(jI B1 (by simp)).trans (Heap.get?_push_size _ rfl)
 have ec:fX (eM B [c',h'.objs.size] (h'.push fo)) (.ref c') q:=by
  refine qf rA ?_;clear rA;intro c2 o vs t e2 g hd hv;cases e2;exact⟨c',o,vs,t,rfl,(jI B0 (by simp)).trans (Heap.get?_push_of_some _ g),hd,hv⟩
 refine⟨eM B [c',h'.objs.size] (h'.push fo),aG.news (P:=P) (as:=[c',h'.objs.size]) I E.mem hk has ?_,.fn (fd:=fd) (c:=.ref c') (ct:=ct) (d:=d) (pm:=pm) e1 (hq▸ec)⟩;rw[hG.TI];have hI:=I.tab;rw[hG.TI]at hI;exact E.put hI (jH _ _ _) (fun a m hn o e=>hk a o hn e) (.inr ⟨c',ec,Heap.get?_push_of_some _ hP⟩)
theorem rB(hG:bx G){B:ay}{Z:List Addr}{O:Mu}{s:Shared}{h':Heap}{fd:FuncData}{cv ct d pm:Value}{tk:Nat}{q:Str}(hq:fd.qualname=q)(I:Inv G B Z O s.heap)
  (hx:∀b o,s.heap.get? b=some o→h'.get? b=some o)(oR:s.heap.objs.size≤h'.objs.size)(rA:fX B cv q):
  ∃B',aG G [] B Z s B' Z O {s with heap:=h'.push {cls:=.type "function",data:=.func {fd with code:=cv,closureTuple:=ct,doc:=d,pyModule:=pm}},toks:=tk}∧VR B' Z (.fn fd) (.ref h'.objs.size):=by
 let fo:Obj:={cls:=.type "function",data:=.func {fd with code:=cv,closureTuple:=ct,doc:=d,pyModule:=pm}}
 have hk:∀b o,b≠58→s.heap.get? b=some o→(h'.push fo).get? b=some o:=fun b o zz e=>Heap.get?_push_of_some _ (hx b o e);have has:∀a∈[h'.objs.size],s.heap.objs.size≤a:=by
  intro a m;simp at m;exact ag 3 0 (aa (ae au ab) (aa (ax af ab) (ae au af))) (by kd_p) oR m
 have B1:B h'.objs.size=none:=I.old oR;have e1:eM B [h'.objs.size] (h'.push fo) h'.objs.size=some fo:=(jI B1 (by simp)).trans (Heap.get?_push_size _ rfl)
 refine⟨eM B [h'.objs.size] (h'.push fo),aG.news (P:=58) (as:=[h'.objs.size]) I (by simp[tabs]) hk has ?_,.fn (fd:=fd) (c:=cv) (ct:=ct) (d:=d) (pm:=pm) e1 (hq▸rA.mono (jH _ _ _))⟩
 exact G.hT.mono I.tab (jH _ _ _) fun a m o e=>Heap.get?_push_of_some _ (hx a o e)
theorem rE(pos:Pos)(cv:Value):codeAmong pos (#[rawInt pos.line,rawInt pos.col,cv]:Array Value).toList=some cv:=by simp[codeAmong,rawInt]
theorem wK(a b:Nat)(c:Addr):TriplesOk (#[rawInt a,rawInt b,.ref c]:Array Value).toList:=by simp[TriplesOk,rawInt]
theorem Q1(hG:bx G){A:Around}{B:ay}{Z:List Addr}{O:Mu}{s:Shared}{env:Env}{name:Str}{params:Arguments}{body:List Stmt}{scope:Scope}{pos:Pos}{fl:Nat}{P:Nat}{q:Str}{c:Addr}{cO:List (Str×Addr)}{Q:V→Mu→Prop}
  (E:jf P pos.line pos.col q)(hg:env.globals=mainGlobals)(gm:env.code=.ref c)(jG:codeHdIn G.K c P=true)(cj:closureFor scope env=pure cO)(I:Inv G B Z O s.heap)
  (h:Q (.fn (fnX name q params body scope cO .none .none .none .none none .none .none)) O):
  wpAny (model G.prog G.w) A (makeFunction name q params (.stmts body) scope env [] [] [] pos fl) (PV G B Z s Q) bM s:=by
 refine aW (hG.QW s.heap fun a o e=>I.holds a o (I.base a o e)) ?_;intro mg jb Eh;obtain⟨fb,hb⟩:=Eh P E.mem;have C:=codeHd_of_K (I.jV) jG;have hI:=I.tab;rw[hG.TI]at hI;rcases E.at' hI with e|⟨c',ec,e⟩
 ·refine makeFunction_K cj hg jb gm C e (by trivial) rfl fb hb fun c' Bo doc h' tk hx oR bA rA hP=>?_
  refine aW (pK hG (fd:=fnX name q params body scope cO .none .none .none .none none .none .none) (ct:=Bo) (d:=doc) (pm:=(mg "__name__").getD .none) (tk:=tk) E rfl I hx oR bA rA (by simpa using hP)) ?_;intro B' P' r
  exact⟨_,_,_,_,h,P',r⟩
 ·refine makeFunction_hit cj hg jb gm C e (wK ..) (rE ..) hb fun Bo doc h' tk hx oR=>?_
  refine aW (rB hG (fd:=fnX name q params body scope cO .none .none .none .none none .none .none) (ct:=Bo) (d:=doc) (pm:=(mg "__name__").getD .none) (tk:=tk) rfl I hx oR ec) ?_;intro B' P' r;exact⟨_,_,_,_,h,P',r⟩
theorem LD(hG:bx G){A:Around}{B:ay}{Z:List Addr}{O:Mu}{s:Shared}{env:Env}{name:Str}{params:Arguments}{body:Expr}{scope:Scope}{pos:Pos}{fl:Nat}{P:Nat}{q:Str}{c:Addr}{cO:List (Str×Addr)}{Q:V→Mu→Prop}
  (E:jf P pos.line pos.col q)(hg:env.globals=mainGlobals)(gm:env.code=.ref c)(jG:codeHdIn G.K c P=true)(cj:closureFor scope env=pure cO)(I:Inv G B Z O s.heap)
  (h:Q (.fn (kla_fn name q params body scope cO .none .none .none)) O):
  wpAny (model G.prog G.w) A (makeFunction name q params (.expr body) scope env [] [] [] pos fl) (PV G B Z s Q) bM s:=by
 refine aW (hG.QW s.heap fun a o e=>I.holds a o (I.base a o e)) ?_;intro mg jb Eh;obtain⟨fb,hb⟩:=Eh P E.mem;have C:=codeHd_of_K (I.jV) jG;have hI:=I.tab;rw[hG.TI]at hI;rcases E.at' hI with e|⟨c',ec,e⟩
 ·refine kla_makeFunction cj hg jb gm C e (by trivial) rfl fb hb fun c' Bo h' tk hx oR bA rA hP=>?_
  refine aW (pK hG (fd:=kla_fn name q params body scope cO .none .none .none) (ct:=Bo) (d:=.none) (pm:=(mg "__name__").getD .none) (tk:=tk) E rfl I hx oR bA rA (by simpa using hP)) ?_;intro B' P' r
  exact⟨_,_,_,_,h,P',r⟩
 ·refine kla_makeFunctionHit cj hg jb gm C e (wK ..) (rE ..) hb fun Bo h' tk hx oR=>?_
  refine aW (rB hG (fd:=kla_fn name q params body scope cO .none .none .none) (ct:=Bo) (d:=.none) (pm:=(mg "__name__").getD .none) (tk:=tk) rfl I hx oR ec) ?_;intro B' P' r;exact⟨_,_,_,_,h,P',r⟩
theorem Q2(hG:bx G){n:Nat}{env:Env}{own:List Nat}{U:aw}{O:Mu}{Q:Fl→aw→Mu→Prop}{name:Str}{params:Arguments}{body:List Stmt}{scope:Scope}{pos:Pos}{P:Nat}{q:Str}{c:Addr}{x:Nat}
  (E:jf P pos.line pos.col q)(hx:G.nm x=name)(hk:nV G env own x)(YY:params.defaults=[])(U8:params.kw_defaults=[])(ha:annTrees params none env=[])(gm:env.code=.ref c)(jG:codeHdIn G.K c P=true)(hq:qualnameIn env name name=q)
  (lr:∀p∈scope.names,p.2=.free→env.kindOf p.1=some .cell)
  (h:Q .next (set U x (.fn (fnX name q params body scope (cL env.cells scope.names []) .none .none .none .none none .none .none))) O):
  cn G n env own (exec (.FunctionDef name params body [] none [] scope none name pos) env) U O Q:=by
 intro A hA B Z s I F;refine nestDef_K YY U8 ha ?_;rw[hq];refine wpAny_mono (Q1 hG (Q:=fun v ar=>v=.fn (fnX name q params body scope (cL env.cells scope.names []) .none .none .none .none none .none .none)∧ar=O) E F.gl gm jG (jt fun p hp hf=>?_) I ⟨rfl,rfl⟩) ?_ fun zz zz x=>x
 ·obtain⟨c,hc⟩:=F.all _ (lr p hp hf)
  rw[hc];rfl
 ·rintro u s1 ⟨v,aA,U9,aE,⟨rfl,rfl⟩,P1,r1⟩
  rw[←hx]at r1 h ⊢;exact gv hk.1 hk.2 P1.inv (F.same P1) r1 fun h' tk F' P'=>⟨.next,_,aA,U9,aE,h,(P1.wide F).trans P',F',.next⟩
section
variable (G)
def iX(a:Addr)(fd:FuncData):Prop:=∃c ct d pm,G.Bs a=some {cls:=.type "function",data:=.func {fd with code:=c,closureTuple:=ct,doc:=d,pyModule:=pm}}∧fX G.Bs c fd.qualname
def nJ(c:Addr)(v:V):Prop:=∃o u,G.Bs c=some o∧o.data=.cell (some u)∧c∉G.A₀∧c∉tabs∧∀B Z,ay.le G.Bs B→G.A₀ <+: Z→VR B Z v u
variable {G}
theorem fX.OH{B:ay}{c:Value}{q:Str}(x:fX B c q){h:Heap}(k:∀a o,B a=some o→h.get? a=some o):h.CodeRec c q:=
 let⟨c',o,vs,t,e,g,r⟩:=x;⟨c',o,vs,t,e,k _ _ g,r⟩
theorem bt.Io{env:Env}{B:ay}{Z:List Addr}{U:aw}{h:Heap}(F:bt G env B Z U h){y:Nat}{v:V}{c:Addr}{u:Value}(hk:env.kindOf (G.nm y)=some .free)(hc:env.cells.lookup (G.nm y)=some c)(hx:h.IsCell c (some u))(r:VR B Z v u):bt G env B Z (set U y v) h:=by
 refine aW F.ns ?_;intro m hn hm;refine⟨F.kind,F.gl,F.bi,⟨m,hn,fun z w hz zL=>?_⟩,fun z w hz=>?_,F.cV,F.dI,F.inj,F.all⟩
 ·rw[get_set]at hz
  by_cases q:y=z
  ·subst q;rw[hk]at zL;cases Option.some.inj zL
  ·rw[if_neg q]at hz;exact hm z w hz zL
 ·rw[get_set]at hz
  by_cases q:y=z
  ·subst q;rw[if_pos rfl]at hz;cases Option.some.inj hz;exact .inr ⟨.inr hk,c,u,hc,hx,r⟩
  ·rw[if_neg q]at hz;exact F.cl z w hz
theorem bt.wL{env:Env}{B:ay}{Z:List Addr}{h:Heap}:∀ {fs:List (Nat×V)} {U:aw},bt G env B Z U h→(∀p∈fs,env.kindOf (G.nm p.1)=some .free∧∃c u,env.cells.lookup (G.nm p.1)=some c∧h.IsCell c (some u)∧VR B Z p.2 u)→bt G env B Z (bc U fs) h
 |[],_,F,_=>F
 |(y,v)::fs,U,F,hf=>by
  refine KL (hf (y,v) (.head _)) ?_;intro hk c u hc hx r;show bt G env B Z (bc (set U y v) fs) h;exact bt.wL (F.Io hk hc hx r) fun q m=>hf q (.tail _ m)
theorem eQ:∀ (names:List (Str×NameKind)) (k:Nat) (acc:List (Str×Addr)),(∀p∈names,p.2≠.cell)→cellsFrom k names acc=acc
 |[],_,_,_=>rfl
 |(n',kd)::r,k,acc,h=>by
  unfold cellsFrom;have:(kd==NameKind.cell)=false:=by simpa using h (n',kd) (.head _)
  simp only[this,Bool.false_eq_true,if_false];exact eQ r k acc fun p hp=>h p (.tail _ hp)
theorem Bq{n:Nat}{a:Addr}{fd:FuncData}{body:List Stmt}{vs:List V}{kw:List (Str×V)}{O:Mu}{Q:V→Mu→Prop}(own:List Nat)(fs ps:List (Nat×V))
  (EK:iX G a fd)(ft:fd.body=.stmts body)(hg:fd.globals=mainGlobals)(hb:fd.builtins=builtinsNs)
  (uu:fd.scope.isCoroutine=false)(l9:fd.scope.isGenerator=false)(hk:fd.scope.kind=.function)(LF:∀p∈fd.scope.names,p.2≠.cell)
  (cj:∀p∈fd.closure,fd.scope.names.lookup p.1=some .free∧∃v,nJ G p.2 v)(YZ:fd.closure.Pairwise fun x y=>x.2≠y.2)
  (Q3:∀p∈fs,fd.scope.names.lookup (G.nm p.1)=some .free∧∃c,fd.closure.lookup (G.nm p.1)=some c∧nJ G c p.2)
  (Dr:∀x∈own,fd.closure.lookup (G.nm x)=none)
  (lF:∀s xs ks B Z c ct d pm,aB B Z vs xs→aB B Z (kw.map (·.2)) ks→∃binds,BindsTo s {fd with code:=c,closureTuple:=ct,doc:=d,pyModule:=pm} ⟨xs,(kw.map (·.1)).zip ks⟩ binds∧gb (G:=G) B Z binds ps)
  (sG:∀p∈ps,p.1∈own∧(fd.scope.names.lookup (G.nm p.1)=some .local∨fd.scope.names.lookup (G.nm p.1)=some .cell))
  (h:∀env:Env,env.scope=fd.scope→cn G n env own (execs body env) (bc (bc [] fs) ps) O fun r zz ar=>∃v,(r=.ret v∨(r=.next∧v=.none))∧Cl v∧Q v (ar.take O.length)):
  aU G (n+1) (.ref a) vs kw O Q:=by
 intro A hA B Z s xs ks I rv rk;refine C9 EK ?_;clear EK;intro c ct d pm Q4 jG;have hl:∀a o,G.Bs a=some o→s.heap.get? a=some o:=fun a o e=>I.holds a o (I.base a o e);refine aW (lF s xs ks B Z c ct d pm rv rk) ?_;intro binds qC kI;refine wpAny_call (codeAny_call_function hA.room (hl _ _ Q4) rfl uu l9 ft (jG.OH hl) (qC _ _ _ _ ?_));show wpAny _ _ (newFunctionEnv fd.scope fd.globals fd.closure binds (fd.qualname++".<locals>.") (some a) c none fd.builtins) _ _ _;rw[hg,hb];refine dr ?_;have k1:=bN s.heap {cls:=.type "frame",data:=.dict #[]};have k2:=pushCells_keeps fd.scope.names (s.heap.push {cls:=.type "frame",data:=.dict #[]});have k:∀b o,s.heap.get? b=some o→(pushCells (s.heap.push {cls:=.type "frame",data:=.dict #[]}) fd.scope.names).get? b=some o:=fun b o e=>k2 b o (k1 b o e);have Q5:∀ {c v},nJ G c v→c∉Z:=fun⟨o,u,e,zz,h0,_⟩ m=>by
  rcases I.ey.2 _ m with z|z
  ·exact h0 z
  ·rw[e]at z;exact ff z
 have CO:xR B Z fd.scope.names s.heap fd.closure:=⟨fun n c m=>by
  refine PD (cj _ m) ?_;intro gL v hv;have Y0:=hv;refine mw hv ?_;clear hv;intro o u e ed h0 ht zz;exact⟨.inl gL,Q5 Y0,ht,_,o,hl _ _ e,ed⟩,YZ⟩
 have F0:=bt.fresh (scope:=fd.scope) (cl:=fd.closure) (fo:={cls:=.type "frame",data:=.dict #[]})
  (env:=newEnv fd.scope s.heap.objs.size mainGlobals (cellsFrom (s.heap.objs.size+1) fd.scope.names fd.closure) (fd.qualname++".<locals>.") (some a) c none builtinsNs) I ⟨_,rfl⟩ CO (fun zz zz=>trivial) rfl rfl rfl hk rfl rfl
 have F:=F0.wL (fs:=fs) fun p hp=>by
  refine zd (Q3 p hp) ?_;intro h1 c' h2 o u e ed zz zz hv;refine⟨h1,c',u,?_,⟨o,k _ _ (hl _ _ e),ed⟩,hv B Z I.base I.ey.1⟩;show(cellsFrom (s.heap.objs.size+1) fd.scope.names fd.closure).lookup _=_;rw[eQ _ _ _ LF];exact h2
 refine jq (s:={s with heap:=_}) kI (fun p hp=>sG p hp) (I.keeps k) F ?_
 intro bf tk F1 P1;refine⟨P1.inv.noLimit,codeAny_func ?_⟩;refine wpAny_mono (h _ rfl _ (hA.deeper _) B Z _ P1.inv F1) ?_ fun zz zz x=>x.elim;rintro fl s' ⟨r,ao,ar,B',aH,⟨v,hv,hc,q⟩,P',F',r'⟩;have P:=P1.trans P';have len:Z.length=O.length:=I.len;have out:=aG.outside (s:=s) I.ey.1 k .heap P (fun a' m=>by
  rcases List.mem_cons.mp m with e|e
  ·rw[e];exact cx _
  ·refine aW (List.mem_filterMap.mp e) ?_;intro x hx e
   have e':(cellsFrom (s.heap.objs.size+1) fd.scope.names fd.closure).lookup (G.nm x)=some a':=e;rw[eQ _ _ _ LF,Dr x hx]at e';exact bk e')
 rw[len]at out;rcases hv with rfl|⟨rfl,rfl⟩
 ·cases r' with|ret r=>exact⟨v,_,B',Z,q,out,r.clean hc Z⟩
 ·cases r' with|next=>exact⟨.none,_,B',Z,q,out,.none⟩
end
noncomputable def dn.up(G:dn)(Bs:ay)(A:List Addr)(h:ay.le G.Bs Bs):dn:=
 {G with Bs:=Bs,A₀:=A,hK:=fun a o e=>h a o (G.hK a o e),nolimit:=fun H hH=>G.nolimit H fun a o e=>hH a o (h a o e),load:=fun hv hg hb hH q=>G.load hv hg hb (fun a o e=>hH a o (h a o e)) q}
theorem bx.up(hG:bx G){Bs:ay}{A:List Addr}(h:ay.le G.Bs Bs):bx (G.up Bs A h):=
 ⟨hG.TI,fun H hH=>hG.QW H fun a o e=>hH a o (h a o e),hG.nm,hG.gl,hG.K⟩
open Classical in
noncomputable def strip(B:ay)(cs:List Addr):ay:=fun a=>if a∈cs then none else B a
theorem strip_eq{B:ay}{cs:List Addr}{a:Addr}{o:Obj}(hc:∀c∈cs,∃o u,B c=some o∧o.data=.cell u)(e:B a=some o)(hd:∀v,o.data≠.cell v):strip B cs a=some o:=by
 unfold strip;rw[if_neg]
 ·exact e
 ·intro m
  refine j0 (hc a m) ?_;intro o' u e' d;rw[e]at e';cases Option.some.inj e';exact hd _ d
theorem VR.strip{B:ay}{Z:List Addr}{cs:List Addr}(hc:∀c∈cs,∃o u,B c=some o∧o.data=.cell u){v:V}{x:Value}(h:VR B Z v x):VR (bg.strip B cs) Z v x:=by
 induction h with
 |none=>exact .none
 |bool=>exact .bool
 |int=>exact .int
 |str=>exact .str
 |list e l _ ih=>exact .list (strip_eq hc e (fun zz q=>by cases q)) l ih
 |tuple e l _ ih=>exact .tuple (strip_eq hc e (fun zz q=>by cases q)) l ih
 |ml e=>exact .ml e
 |gE e=>exact .gE (strip_eq hc e (fun zz q=>by cases q))
 |raw=>exact .raw
 |fn e c=>
  refine qf c ?_;clear c;intro c' o vs t e2 g d r;exact .fn (strip_eq hc e (fun zz q=>by cases q)) ⟨c',o,vs,t,e2,strip_eq hc g (fun zz q=>by rw[d]at q;cases q),d,r⟩
 |obj e e' f l _ ih=>exact .obj (strip_eq hc e (fun zz q=>by cases q)) (strip_eq hc e' (fun zz q=>by cases q)) f l ih
theorem aB.strip{B:ay}{Z:List Addr}{cs:List Addr}(hc:∀c∈cs,∃o u,B c=some o∧o.data=.cell u){v:List V}{x:List Value}(h:aB B Z v x):aB (bg.strip B cs) Z v x:=
 ⟨h.1,fun i a b p q=>(h.2 i a b p q).strip hc⟩
theorem aG.down{B Bp B1:ay}{Z aE:List Addr}{aA:Mu}{s s1:Shared}{Bs:ay}{A:List Addr}{hle:ay.le G.Bs Bs}{cs:List Addr}{O:Mu}(I0:Inv G B Z O s.heap)(hB:ay.le B Bp)(vM:∀c∈cs,B c=none)(Y1:∀a,a∉cs→Bp a=B a)
  (hc:∀c∈cs,∃o u,Bp c=some o∧o.data=.cell u)(P:aG (G.up Bs A hle) [] Bp Z s B1 aE aA s1):aG G [] B Z s (bg.strip B1 cs) aE aA s1:=by
 have Va:∀c∈cs,∃o u,B1 c=some o∧o.data=.cell u:=fun c m=>let⟨o,u,e,d⟩:=hc c m;⟨o,u,P.le _ _ e,d⟩
 have I:=P.inv;have le:ay.le B (bg.strip B1 cs):=fun a o e=>by
  unfold bg.strip;rw[if_neg (fun m=>by rw[vM a m]at e;exact bk e)]
  exact P.le _ _ (hB _ _ e)
 have off:∀ {a},B1 a=none→bg.strip B1 cs a=none:=fun e=>by unfold bg.strip;split<;>first|rfl|exact e
 refine⟨le,P.pre,⟨I0.base.trans le,fun a o e=>?_,I.len,fun i a xs h1 h2=>?_,I.dp,I.nodup,fun a m=>⟨off (I.cg a m).1,(I.cg a m).2⟩,?_,?_⟩,P.keep,P.bL,⟨P.rest.os,P.rest.bare,P.rest.gens⟩,fun a ha=>?_,P.da⟩
 ·unfold bg.strip at e
  split at e
  ·exact bk e
  ·exact I.holds a o e
 ·refine ew (I.ml i a xs h1 h2) ?_;intro e vs n g r
  exact⟨off e,vs,n,g,r.strip Va⟩
 ·exact G.hT.strip I.tab fun a o e hd=>strip_eq Va e hd
 ·refine⟨I0.ey.1.trans P.pre,fun a m=>?_⟩
  rcases P.da a m with z|z
  ·exact I0.ey.2 a z
  ·refine .inr (I0.base.off ?_)
   cases q:B a with
   |none=>rfl
   |some o=>rw[I0.holds a o q]at z;exact ff z
 ·unfold bg.strip at ha
  split at ha
  ·exact absurd rfl ha
  ·rename_i hm
   rcases P.dF a ha with z|z
   ·exact .inl (by rw[←Y1 a hm];exact z)
   ·exact .inr z
theorem EM(hG:bx G){n:Nat}{A:Around}(hA:bY n A){env:Env}{U:aw}{B:ay}{Z:List Addr}{O:Mu}{s:Shared}{xi:Nat}{fd:FuncData}{fx:Value}{vs:List V}{kw:List (Str×V)}{xs ks:List Value}{Q:V→Mu→Prop}
  (I:Inv G B Z O s.heap)(F:bt G env B Z U s.heap)(Ds:get U xi=some (.fn fd))(Y2:env.kindOf (G.nm xi)=some .cell)
  (cj:∀p∈fd.closure,env.kindOf p.1=some .cell∧env.cells.lookup p.1=some p.2∧∃y v,p.1=G.nm y∧get U y=some v)
  (rf:VR B Z (.fn fd) fx)(rv:aB B Z vs xs)(rk:aB B Z (kw.map (·.2)) ks)
  (h:∀G' f0,bx G'→iX G' f0 fd→(∀p∈fd.closure,∀y v,p.1=G.nm y→get U y=some v→nJ G' p.2 (if y=xi then .raw (.ref f0) else v))→∀f,iX G' f fd→aU G' n (.ref f) vs kw O Q):
  wpAny (model G.prog G.w) A (call fx xs ((kw.map (·.1)).zip ks)) (PV G B Z s Q) bM s:=by
 have eX:∀p∈fd.closure,∃o u,s.heap.get? p.2=some o∧o.data=.cell u:=fun p hp=>by
  refine qe (cj p hp) ?_;intro zz hl zz;refine cw (F.dI p.1 p.2 (aY hl)) ?_;intro zz zz zz zz u o e d;exact⟨o,u,e,d⟩
 have vM:∀c∈fd.closure.map (·.2),B c=none∧c∉Z∧c∉tabs∧∃o u,s.heap.get? c=some o∧o.data=.cell u:=fun c m=>by
  refine aW (List.mem_map.mp m) ?_;intro p hp z1;subst z1;refine qe (cj p hp) ?_;intro hk hl zz;refine cw (F.dI p.1 p.2 (aY hl)) ?_;intro a1 a2 a3 zz u o e d;exact⟨a1.resolve_left (by rw[hk];nofun),a2,a3,o,u,e,d⟩
 let Bp:=eM B (fd.closure.map (·.2)) s.heap
 have le:ay.le B Bp:=jH _ _ _;have Q7:∀c∈fd.closure.map (·.2),Bp c=s.heap.get? c:=fun c m=>jI (vM c m).1 m
 have I':Inv (G.up Bp Z (I.base.trans le)) Bp Z O s.heap:=by
  refine⟨.refl _,fun a o e=>?_,I.len,fun i a ys h1 h2=>?_,I.dp,I.nodup,fun a m=>⟨eI (I.cg a m).1 fun m'=>(vM a m').2.2.1 m,(I.cg a m).2⟩,G.hT.mono I.tab le fun zz zz zz x=>x,List.prefix_refl _,fun a m=>.inl m⟩
  ·cases q:B a with
   |some o'=>rw[le a o' q]at e;cases Option.some.inj e;exact I.holds a _ q
   |none=>
    by_cases m:a∈fd.closure.map (·.2)
    ·rw[Q7 a m]at e;exact e
    ·rw[show Bp a=none from eI q m]at e;exact bk e
  ·refine ew (I.ml i a ys h1 h2) ?_;intro e us m g r
   exact⟨eI e fun m'=>(vM a m').2.1 (List.mem_of_getElem? h1),us,m,g,r.mono le (List.prefix_refl _)⟩
 have fnAt:∀ {u:Value},VR B Z (.fn fd) u→∃f,u=.ref f∧iX (G.up Bp Z (I.base.trans le)) f fd:=fun r=>by
  cases r with
  |fn e c=>exact⟨_,rfl,_,_,_,_,le _ _ e,c.mono le⟩
 obtain⟨ci,ui,Y3,Br,ri⟩:∃c u,env.cells.lookup (G.nm xi)=some c∧s.heap.IsCell c (some u)∧VR B Z (.fn fd) u:=by
  rcases F.cl xi _ Ds with z|⟨_,c,u,h1,h2,h3⟩
  ·rw[Y2]at z;cases Option.some.inj z
  ·exact⟨c,u,h1,h2,h3⟩
 refine aW (fnAt ri) ?_;intro f0 z1;subst z1;intro c0;refine aW (fnAt rf) ?_;intro f z1;subst z1;intro c1;have key:=h (G.up Bp Z (I.base.trans le)) f0 (hG.up _) c0 (fun p hp y v hy hv=>?_) f c1 A hA Bp Z s xs ks I' (rv.mono le (List.prefix_refl _)) (rk.mono le (List.prefix_refl _))
 ·refine wpAny_mono key ?_ fun zz zz x=>x
  rintro x s1 ⟨v,aA,B1,aE,q,P,r⟩;have hc:∀c∈fd.closure.map (·.2),∃o u,Bp c=some o∧o.data=.cell u:=fun c m=>by
   refine G0 (vM c m) ?_;intro zz zz zz o u e d;exact⟨o,u,(Q7 c m).trans e,d⟩
  exact⟨v,aA,_,aE,q,aG.down I le (fun c m=>(vM c m).1) (fun a m=>by
   show eM B _ _ a=_;cases q:B a with
   |some o=>exact le a o q
   |none=>exact eI q m) hc P,r.strip fun c m=>let⟨o,u,e,d⟩:=hc c m;⟨o,u,P.le _ _ e,d⟩⟩
 ·refine qe (cj p hp) ?_;intro hk hl zz
  have m:p.2∈fd.closure.map (·.2):=List.mem_map_of_mem hp
  rw[hy]at hk hl;refine wg (vM p.2 m) ?_;intro zz h0 ht zz;rcases F.cl y v hv with z|⟨_,c,u,h1,⟨o,e,d⟩,h3⟩
  ·rw[hk]at z;cases Option.some.inj z
  ·rw[hl]at h1;cases Option.some.inj h1
   refine⟨o,u,(Q7 _ m).trans e,d,h0,ht,fun B2 aV hB dM=>?_⟩
   by_cases q:y=xi
   ·subst q
    rw[Ds]at hv;cases Option.some.inj hv;rw[Y3]at hl;cases Option.some.inj hl;refine aW Br ?_;clear Br;intro o' e' d';rw[e]at e';cases Option.some.inj e';rw[d]at d';cases d';rw[if_pos rfl];exact .raw
   ·rw[if_neg q]
    exact h3.mono (le.trans hB) dM
theorem fV.Vb{q:Addr}{h:Heap}{o:Obj}{fd:FuncData}(e:h.get? q=some o)(hd:o.data=.func fd):fV G (.ref q) h:=by
 obtain⟨oc,od,dt,sl⟩:=o;cases hd;exact keeps_F h ⟨oc,od,_,sl,e⟩
theorem bD.Vc{n:Nat}{f:Addr}{fd:FuncData}{vs:List V}{kw:List (Str×V)}{O:Mu}{Q:V→Mu→Prop}(hf:iX G f fd)(h:aU G n (.ref f) vs kw O Q):bD G n (.raw (.ref f)) vs kw O Q:=by
 intro A hA B Z s fx xs ks I rf rv rk;refine VR.j2 rf ?_;refine C9 hf ?_;clear hf;intro c ct d pm e zz;exact⟨.Vb (I.holds _ _ (I.base _ _ e)) rfl,h A hA B Z s xs ks I rv rk⟩
section
variable{n:Nat}{env:Env}{U:aw}{O:Mu}{Q:V→Mu→Prop}
theorem zM{f:Expr}{args:List Expr}{pos:Pos}(he:eval (.Call f args [] pos) env=(do callWith pos (←eval f env) [] (backTo pos (starEach args env)) (backToKw pos (keywordEach [] env))))
  (hp:eJ args env)
  (h:bz G n env (eval f env) U O fun fv aA=>e7 G n env (spliced (backTo pos (starEach args env))) U aA fun vs aZ=>
   ∀A,bY n A→∀B Z s fx xs,Inv G B Z aZ s.heap→bt G env B Z U s.heap→VR B Z fv fx→aB B Z vs xs→fV G fx s.heap∧wpAny (model G.prog G.w) A (call fx xs []) (PV G B Z s Q) bM s):
  bz G n env (eval (.Call f args [] pos) env) U O Q:=by
 intro A hA B Z s I F;rw[he];refine wpAny_bind (wpAny_mono (h A hA B Z s I F) ?_ fun zz zz x=>x);rintro fx s1 ⟨fv,aA,B1,aE,h1,P1,r1⟩;have F1:=F.same P1;refine callWith_of (P:=fV G fx) (by rw[plain_any hp,nu _ _ _ rfl];rfl) (fun zz x=>x) (iE (kws:=[]) hp rfl ?_)
 refine wpAny_mono (h1 A hA B1 aE s1 P1.inv F1) ?_ fun zz zz x=>x;rintro xs s2 ⟨vs,aZ,B2,aV,h2,P2,r2⟩;have F2:=F1.same P2;obtain⟨a,b⟩:=h2 A hA B2 aV s2 fx xs P2.inv F2 (r1.mono P2.le P2.pre) r2;refine kwAll_nil ⟨a,?_⟩;rw[List.nil_append];exact wpAny_mono b (fun z s6 h6=>PV.after P1 (PV.after P2 h6)) fun zz zz x=>x
end
theorem fV.Vd{B:ay}{Z:List Addr}{O:Mu}{s:Shared}{fd:FuncData}{fx:Value}(I:Inv G B Z O s.heap)(r:VR B Z (.fn fd) fx):fV G fx s.heap:=by
 cases r with
 |fn e c=>exact .Vb (I.holds _ _ e) rfl
noncomputable def iG:Stmt→List Arg×List Stmt×Scope
 |.FunctionDef _ a b _ _ _ s _ _ _=>(a.args,b,s)
 |_=>([],[],default)
noncomputable def Ip:List Nat→List Arg→List Arg
 |[],_=>[]
 |x::r,as=>⟨aI x,none,(as.headD default).pos⟩::Ip r as.tail
noncomputable abbrev pL(ps:List Nat)(y:Stmt):Arguments:=⟨[],Ip ps (iG y).1,none,[],[],none,[]⟩
noncomputable abbrev Bt(x:Nat)(ps:List Nat)(y:Stmt):Stmt:=.FunctionDef (aI x) (pL ps y) (iG y).2.1 [] none [] (iG y).2.2 none (aI x) y.pos
section
noncomputable def Iq(sc:Scope)(mu own:List Nat):Bool:=
 sc.kind == .function && !sc.isCoroutine && !sc.isGenerator&&sc.names.all (fun p=>p.2 != .cell)&&decide ((sc.names.map (·.1)).Nodup) &&
  sc.names.all (fun p=>p.2 != .free||(mu.map aI).contains p.1)&&mu.all (fun y=>sc.names.lookup (aI y)==some .free)&&own.all fun x=>sc.names.lookup (aI x)==some .local
structure EN(sc:Scope)(mu own:List Nat):Prop where
 kind:sc.kind=.function
 co:sc.isCoroutine=false
 gen:sc.isGenerator=false
 nc:∀p∈sc.names,p.2≠.cell
 nodup:(sc.names.map (·.1)).Nodup
 all:∀p∈sc.names,p.2=.free→∃y∈mu,aI y=p.1
 fr:∀y∈mu,sc.names.lookup (aI y)=some .free
 own:∀x∈own,sc.names.lookup (aI x)=some .local
theorem Ir{sc:Scope}{mu own:List Nat}(h:Iq sc mu own=true):EN sc mu own:=by
 unfold Iq at h;simp only[Bool.and_eq_true,Bool.not_eq_true',decide_eq_true_eq]at h;obtain⟨⟨⟨⟨⟨⟨⟨h1,h2⟩,h3⟩,h4⟩,h5⟩,h6⟩,h7⟩,h8⟩:=h;refine⟨eq_of_beq h1,h2,h3,fun p m=>?_,h5,fun p m hf=>?_,fun y m=>?_,fun x m=>?_⟩
 ·simpa using List.all_eq_true.mp h4 p m
 ·have:=List.all_eq_true.mp h6 p m
  rw[hf]at this;have h:(mu.map aI).contains p.1=true:=by simpa using this
  refine aW (List.mem_map.mp (by simpa using h)) ?_;intro y hy e
  exact⟨y,hy,e⟩
 ·exact eq_of_beq (List.all_eq_true.mp h7 y m)
 ·exact eq_of_beq (List.all_eq_true.mp h8 x m)
variable (G)
structure Dt(cO:List (Str×Addr))(fs:List (Nat×V)):Prop where
 each:∀p∈fs,∃c,cO.lookup (G.nm p.1)=some c∧nJ G c p.2
 all:∀p∈cO,∃q∈fs,p.1=G.nm q.1
 cell:∀p∈cO,∃v,nJ G p.2 v
 pw:cO.Pairwise fun x y=>x.2≠y.2
variable {G}
noncomputable abbrev qF(lI q:Str)(ps:Arguments)(bd:List Stmt)(sc:Scope)(cO:List (Str×Addr)):FuncData:=fnX lI q ps bd sc cO .none .none .none .none none .none .none
theorem wM(hG:bx G){n:Nat}{lI q:Str}{Bu:Arguments}{bd:List Stmt}{sc:Scope}{cO:List (Str×Addr)}{st:Ss}{own:List Nat}{fs ps:List (Nat×V)}{vs:List V}{f:Addr}{O:Mu}{Q:V→Mu→Prop}
  (hS:EN sc (fs.map (·.1)) own)(hC:Dt G cO fs)(oS:cX aI st sc own bd=true)(Bv:dS aI st bd=bd)(hf:iX G f (qF lI q Bu bd sc cO))(Dr:∀p∈ps,p.1∈own)
  (lF:∀s xs c ct d pm B Z,aB B Z vs xs→∃binds,BindsTo s {qF lI q Bu bd sc cO with code:=c,closureTuple:=ct,doc:=d,pyModule:=pm} ⟨xs,[]⟩ binds∧gb (G:=G) B Z binds ps)
  (h:aX G bX n st (bc (bc [] fs) ps) O (qE O Q)):aU G (n+1) (.ref f) vs [] O Q:=by
 refine Bq (body:=bd) own fs ps hf rfl rfl rfl hS.co hS.gen hS.kind hS.nc (fun p hp=>?_) hC.pw (fun p hp=>?_) (fun x hx=>?_) (fun s xs ks B Z c ct d pm rv rk=>?_) (fun p hp=>⟨Dr p hp,.inl ?_⟩) (fun env hs=>?_)
 ·refine aW (hC.all p hp) ?_;intro q' hq e
  have:=hS.fr q'.1 (List.mem_map_of_mem hq);rw[←hG.nm,←e]at this;exact⟨this,hC.cell p hp⟩
 ·refine aW (hC.each p hp) ?_;intro c h1 h2
  have:=hS.fr p.1 (List.mem_map_of_mem hp);rw[←hG.nm]at this;exact⟨this,c,h1,h2⟩
 ·cases q:cO.lookup (G.nm x) with
  |none=>rfl
  |some c=>
   refine aW (hC.all _ (aY q)) ?_;intro q' hq e;have h1:=hS.own x hx;have h2:=hS.fr q'.1 (List.mem_map_of_mem hq);have e':aI x=aI q'.1:=by rw[←hG.nm,←hG.nm];exact e
   rw[e',h2]at h1;cases Option.some.inj h1
 ·refine aB.bE rk ?_
  exact lF s xs c ct d pm B Z rv
 ·have:=hS.own p.1 (Dr p hp)
  rw[←hG.nm]at this;exact this
 ·refine Bv▸cn.mono (eP hG.nm hG.gl st hS.kind oS hs h) fun r ao ar q=>?_
  unfold qE at q;cases r with
  |next=>exact⟨.none,.inr ⟨rfl,rfl⟩,.none,q⟩
  |brk=>exact q.elim
  |cont=>exact q.elim
  |ret v=>exact⟨v,.inl rfl,q.1,q.2⟩
theorem zN(hG:bx G){n:Nat}{A:Around}(hA:bY n A){env:Env}{U:aw}{B:ay}{Z:List Addr}{O:Mu}{s:Shared}{xi:Nat}{lI q:Str}{Bu:Arguments}{bd:List Stmt}{sc:Scope}{own:List Nat}{fs:List (Nat×V)}{fx:Value}{vs:List V}{xs:List Value}{Q:V→Mu→Prop}
  (hS:EN sc (fs.map (·.1)) own)(I:Inv G B Z O s.heap)(F:bt G env B Z U s.heap)(Ds:get U xi=some (.fn (qF lI q Bu bd sc (cL env.cells sc.names []))))(Br:xi∈fs.map (·.1))
  (hk:∀p∈fs,env.kindOf (aI p.1)=some .cell)(hv:∀p∈fs,get U p.1=some p.2)
  (rf:VR B Z (.fn (qF lI q Bu bd sc (cL env.cells sc.names []))) fx)(rv:aB B Z vs xs)
  (h:∀G' f0 cO,bx G'→Dt G' cO (fs.map fun p=>(p.1,if p.1=xi then .raw (.ref f0) else p.2))→iX G' f0 (qF lI q Bu bd sc cO)→∀f,iX G' f (qF lI q Bu bd sc cO)→aU G' n (.ref f) vs [] O Q):
  wpAny (model G.prog G.w) A (call fx xs []) (PV G B Z s Q) bM s:=by
 have gL:∀p∈fs,env.kindOf (G.nm p.1)=some .cell:=fun p m=>by rw[hG.nm];exact hk p m
 have lr:∀p∈sc.names,p.2=.free→(env.cells.lookup p.1).isSome=true:=fun p hp hf=>by
  refine aW (hS.all p hp hf) ?_;intro y hy e;refine aW (List.mem_map.mp hy) ?_;intro r hr z1;subst z1;obtain⟨c,hc⟩:=F.all _ (gL r hr);rw[←e,←hG.nm,hc];rfl
 have Hm:=ni env.cells sc.names [] lr;have mem:∀p∈cL env.cells sc.names [],env.cells.lookup p.1=some p.2∧∃r∈fs,p.1=G.nm r.1:=fun p hp=>by
  rcases Hm p.1 p.2 hp with z|⟨h1,h2⟩
  ·cases z
  ·refine aW (hS.all _ h1 rfl) ?_;intro y hy e
   refine aW (List.mem_map.mp hy) ?_;intro r hr z1;subst z1;exact⟨h2,r,hr,by rw[hG.nm];exact e.symm⟩
 have qj:((cL env.cells sc.names []).map (·.1)).Nodup:=by
  rw[gf];simp only[List.map_nil,List.append_nil];exact List.pairwise_reverse.mpr (List.Pairwise.imp (fun h=>Ne.symm h) (List.Nodup.sublist (List.Sublist.map _ List.filter_sublist) hS.nodup))
 have K9:(cL env.cells sc.names []).Pairwise fun x y=>x.2≠y.2:=by
  have hp:=List.pairwise_map.mp qj;refine List.Pairwise.imp_of_mem ?_ hp;intro a b ma mb qk e;have ea:=(mem a ma).1;have eb:=(mem b mb).1;rw[e]at ea;exact qk (F.inj _ _ _ ea eb)
 have look:∀p∈fs,∃c,(cL env.cells sc.names []).lookup (G.nm p.1)=some c∧(G.nm p.1,c)∈cL env.cells sc.names []:=fun p hp=>by
  have:(G.nm p.1)∈(cL env.cells sc.names []).map (·.1):=by
   rw[gf];simp only[List.map_nil,List.append_nil,List.mem_reverse];refine List.mem_map.mpr ⟨(G.nm p.1,.free),List.mem_filter.mpr ⟨mem_of_lookupK ?_,rfl⟩,rfl⟩;rw[hG.nm];exact hS.fr p.1 (List.mem_map_of_mem hp)
  refine aW (List.mem_map.mp this) ?_;intro r hr e;refine⟨r.2,lookup_of_mem_nodup qj ?_,?_⟩<;>(rw[←e];exact hr)
 refine aW (List.mem_map.mp Br) ?_;intro ri Y4 Y5;refine EM (kw:=[]) (ks:=[]) (xi:=xi) hG hA I F Ds (Y5▸gL ri Y4) (fun p hp=>?_) rf rv .nil fun G' f0 vN c0 eX f cf=>h G' f0 _ vN ⟨fun p hp=>?_,fun p hp=>?_,fun p hp=>?_,K9⟩ c0 f cf
 ·refine GX (mem p hp) ?_;intro h1 r hr e
  exact⟨e▸gL r hr,h1,r.1,r.2,e,hv r hr⟩
 ·refine aW (List.mem_map.mp hp) ?_;intro r hr z1;subst z1
  refine aW (look r hr) ?_;intro c h1 h2;refine⟨c,?_,eX _ h2 r.1 r.2 rfl (hv r hr)⟩;show _=_;rw[vN.nm,←hG.nm];exact h1
 ·refine GX (mem p hp) ?_;intro zz r hr e
  refine⟨_,List.mem_map_of_mem hr,?_⟩;show p.1=G'.nm r.1;rw[vN.nm,←hG.nm];exact e
 ·refine GX (mem p hp) ?_;intro zz r hr e
  exact⟨_,eX _ hp r.1 r.2 e (hv r hr)⟩
end
theorem It{n:Nat}{env:Env}{U:aw}{O:Mu}{R:List V→Mu→Prop}{f e:Expr}{pos:Pos}(he:eval (.Call f [e] [] pos) env=(do callWith pos (←eval f env) [] (backTo pos (starEach [e] env)) (backToKw pos (keywordEach [] env))))
  (hp:eJ [e] env)
  (h:bz G n env (eval f env) U O fun fv aA=>fv=.raw (.type "reversed")∧e7 G n env (spliced (backTo pos (starEach [e] env))) U aA fun vs aZ=>∃xs,vs=[.list xs]∧R xs.reverse aZ):
  U3 G n env (eval (.Call f [e] [] pos) env) U O R:=by
 intro A hA B Z s I F K hK;rw[he];refine wpAny_bind (wpAny_mono (h A hA B Z s I F) ?_ fun _ _ x=>x);rintro fx s1 ⟨fv,aA,B1,aE,⟨rfl,h1⟩,P1,r1⟩;have F1:=F.same P1;refine VR.j2 r1 ?_;refine callWith_of (P:=fun _=>True) (by rw[plain_any hp,nu _ _ _ rfl];rfl) (fun _ _=>⟨.machine,.inr (.inl rfl),Looks.of_pure rfl⟩) (iE (kws:=[]) hp rfl ?_)
 refine wpAny_mono (h1 A hA B1 aE s1 P1.inv F1) ?_ fun _ _ x=>x;rintro xs s2 ⟨vs,aZ,B2,aV,⟨ys,rfl,hR⟩,P2,r2⟩;refine kwAll_nil ⟨trivial,?_⟩;refine aB.aO r2 ?_;intro x _ rx r;refine aB.bE r ?_;have I2:=P2.inv;cases rx with
 |list el l h9=>
  rename_i a us k;have hl:s2.heap.IsList a us.toArray:=⟨_,I2.holds _ _ el,rfl,k,rfl⟩;have bA:a<s2.heap.objs.size:=Heap.lt_size (I2.holds _ _ el);show wpAny _ _ (call (.type "reversed") [.ref a] _) _ _ _;refine call_reversed_list hl ?_;have hit:(s2.heap.push (revObj a ((us.toArray.size:Int)-1))).IsRevIter s2.heap.objs.size a ((us.toArray.size:Int)-1-((0:Nat):Int)):=⟨_,Heap.get?_push_size _ rfl,rfl,by simp[revObj]⟩
  refine wpAny_pyIter_revIter hit ?_;have Y6:us.toArray.size=ys.reverse.length:=by simp[l]
  refine hK B2 aV aZ s2 ys.reverse s2.heap.objs.size _ [s2.heap.objs.size,a] (fun i v=>us.toArray[us.toArray.size-1-i]?=some v)
   (fun i h=>i≤us.toArray.size∧h.IsRevIter s2.heap.objs.size a ((us.toArray.size:Int)-1-(i:Int))∧h.IsList a us.toArray) hR (P1.trans P2) (cx _) (bN _ _) (fun _ _ st=>let⟨o,e,_⟩:=st.2.1;⟨o,e⟩) (fun A' jU=>?_) (fun i y hi p=>?_) ⟨Nat.zero_le _,hit,hl.push _⟩ (fun b hb=>?_)
  ·rw[←Y6]
   exact Walks.listRev (prog:=G.prog) (w:=G.w) jU s2.heap.objs.size a (Nat.ne_of_lt bA) us.toArray
  ·rw[List.length_reverse]at hi
   rw[List.getElem?_reverse hi];have p':us[us.length-1-i]?=some y:=by simpa using p
   rw[l];have OI:us.length-1-i<ys.length:=by exact ag 3 0 (aa (ax ab au) (aa (ak af ab) (ak (bb (bb au aC) af) ab))) (by kd_p) l hi
   exact⟨ys[us.length-1-i],List.getElem?_eq_getElem OI,h9 _ _ y (List.getElem?_eq_getElem OI) p'⟩
  ·rcases List.mem_cons.mp hb with rfl|hb
   ·exact .inl rfl
   ·rw[List.mem_singleton.mp hb];exact .inr (by rw[el];simp)
section
variable{M:Model}{A:Around}{R:GenEnd}{Y:Protocol}{n:Nat}{s0:Shared}{c:Code}{fs:List Frame}{s:Shared}{env:Env}
 {K:Flow→Sem Fin}{H:Value→Sem Fin}{gd:Bool→Bool}{lv:List Value→List Value}
theorem qG{st:Stmt}(h:wpAny M (A.over c fs) (exec st env) (fun f s'=>Seg M A R Y n s0 c (K f) fs s') bM s):Seg M A R Y n s0 c ((exec st env).wrap K H gd lv) fs s:=
 seg_wrap (wpAny_mono h (fun zz zz x=>x) fun zz zz x=>x.elim)
theorem yi{test:Expr}{body orelse:List Stmt}{pos:Pos}
  (h:wpAny M (A.over c fs) (isTrue test env (eval test env)) (fun b s'=>match b with
   |true=>Seg M A R Y n s0 c ((execs body env).wrap K H gd lv) fs s'
   |false=>Seg M A R Y n s0 c ((execs orelse env).wrap K H gd lv) fs s') bM s):
  Seg M A R Y n s0 c ((exec (.If test body orelse pos) env).wrap K H gd lv) fs s:=by
 have e:exec (.If test body orelse pos) env=(do standAt pos;if ←isTrue test env (eval test env) then execs body env else execs orelse env):=rfl
 rw[e];refine seg_at ?_;show Seg M A R Y n s0 c ((isTrue test env (eval test env) >>= fun b=>if b=true then execs body env else execs orelse env).wrap K H gd lv) fs s
 rw[Sem.bind_eq_wrap',Sem.wrap_wrap];refine seg_wrap (wpAny_mono h (fun b s' hb=>?_) fun zz zz x=>x.elim);cases b with
 |true=>exact hb
 |false=>exact hb
noncomputable abbrev jg(env:Env)(K:Flow→Sem Fin)(H:Value→Sem Fin)(gd:Bool→Bool)(lv:List Value→List Value)(c:Code)(p:Pos):Frame:=
 .ret (fun r=>((match r with | .ok f=>(.pure f:Sem Flow) | .error e=>.raise e).onRaise fun(x:Value)=>do
    if(←field x 1)==Value.none then unsupported "frame.own-activation:exception-without-traceback"
    setFlight x env.frame).wrap K H gd lv) none (gd false) (lv []) c p []
theorem Iu{target iter:Expr}{body orelse:List Stmt}{pos:Pos}
  (h:wpAny M (A.over c fs) (eval iter env) (fun x s1=>wpAny M (A.over c fs) (pyIter x) (fun it s2=>∀p,Seg M A R Y n s0 (.forLoop target it body orelse env) (M.den (.forLoop target it body orelse env)) (jg env K H gd lv c p::fs) s2) bM s1) bM s)
  (hf:∀x,foldedSetIterable iter env x=pure x):
  Seg M A R Y n s0 c ((exec (.For target iter body orelse pos) env).wrap K H gd lv) fs s:=by
 have e:exec (.For target iter body orelse pos) env=(do
  standAt pos
  let x ←foldedSetIterable iter env (←eval iter env)
  standAt iter.pos
  runOwn (.forLoop target (←holding [x] (pyIter x)) body orelse env) env):=rfl
 rw[e];refine seg_at ?_;show Seg M A R Y n s0 c ((eval iter env >>= fun v=>foldedSetIterable iter env v >>= fun x=>standAt iter.pos >>= fun zz=>(holding [x] (pyIter x)) >>= fun it=>runOwn (.forLoop target it body orelse env) env).wrap K H gd lv) fs s;rw[Sem.bind_eq_wrap',Sem.wrap_wrap];refine seg_wrap (wpAny_mono h (fun x s1 h1=>?_) fun zz zz x=>x.elim);simp only[hf];show Seg M A R Y n s0 c ((standAt iter.pos >>= fun zz=>(holding [x] (pyIter x)) >>= fun it=>runOwn (.forLoop target it body orelse env) env).wrap K H _ _) fs s1;refine seg_at ?_;show Seg M A R Y n s0 c (((holding [x] (pyIter x)) >>= fun it=>runOwn (.forLoop target it body orelse env) env).wrap K H _ _) fs s1;rw[Sem.bind_eq_wrap',Sem.wrap_wrap];refine seg_wrap (wpAny_holding (wpAny_mono h1 (fun it s2 h2=>?_) fun zz zz x=>x.elim));exact seg_call h2
end
section
variable{prog:Program}{w:World}{A:Around}{R:GenEnd}{Y:Protocol}{n:Nat}{s0:Shared}{fs:List Frame}{s:Shared}{env:Env}
noncomputable abbrev Bw(target:Expr)(it:Value)(body orelse:List Stmt)(env:Env):Flow→Sem Fin:=fun f=>match f with
 |.next | .cont=>.pure (.again (.forLoop target it body orelse env))
 |.brk=>.pure (.done .next)
 |.ret v=>.pure (.done (.ret v))
noncomputable abbrev Bx(env:Env):Value→Sem Fin:=fun e=>(do noteFrame e env;theTreesLotGoes e:Sem Unit).wrap (fun zz=>.raise e) .raise id id
theorem pM{target:Expr}{it:Value}{body orelse:List Stmt}
  (h:wpAny (model prog w) (A.over (.forLoop target it body orelse env) fs) (pyNext it) (fun r s1=>match r with
   |none=>Seg (model prog w) A R Y n s0 (.block orelse env) ((model prog w).den (.block orelse env)) fs s1
   |some v=>wpAny (model prog w) (A.over (.forLoop target it body orelse env) fs) (letOwnedTupleGo target it v) (fun zz s2=>
     wpAny (model prog w) (A.over (.forLoop target it body orelse env) fs) (assign target env v) (fun zz s3=>
      Seg (model prog w) A R Y n s0 (.forLoop target it body orelse env) ((execs body env).wrap (Bw target it body orelse env) (Bx env) id id) fs s3) bM s2) bM s1) bM s):
  Seg (model prog w) A R Y n s0 (.forLoop target it body orelse env) ((model prog w).den (.forLoop target it body orelse env)) fs s:=by
 show Seg _ A R Y n s0 _ ((forTurn target it body orelse env).onRaise (fun x=>do noteFrame x env;theTreesLotGoes x)) fs s
 unfold forTurn;rw[Sem.onRaise_eq_wrap];refine seg_at ?_;show Seg _ A R Y n s0 _ (((pyNext it).onRaise (fun zz=>standAt {target.pos with line:=0}) >>= _).wrap _ _ _ _) fs s
 rw[Sem.bind_eq_wrap',Sem.wrap_wrap];refine seg_wrap (wpAny_onRaise (wpAny_mono h (fun r s1 h1=>?_) fun zz zz x=>x.elim));cases r with
 |none=>exact seg_again rfl h1
 |some v=>
  show Seg _ A R Y n s0 _ ((letOwnedTupleGo target it v >>= _).wrap _ _ _ _) fs s1;rw[Sem.bind_eq_wrap',Sem.wrap_wrap];refine seg_wrap (wpAny_mono h1 (fun zz s2 h2=>?_) fun zz zz x=>x.elim);show Seg _ A R Y n s0 _ ((assign target env v >>= _).wrap _ _ _ _) fs s2;rw[Sem.bind_eq_wrap',Sem.wrap_wrap];refine seg_wrap (wpAny_mono h2 (fun zz s3 h3=>?_) fun zz zz x=>x.elim);show Seg _ A R Y n s0 _ ((execs body env >>= _).wrap _ _ _ _) fs s3;rw[Sem.bind_eq_wrap',Sem.wrap_wrap];rw[Sem.wrap_congr (execs body env) _ _ (K':=Bw target it body orelse env) (H':=Bx env) (fun f=>by cases f<;>rfl)
    (fun e=>by first|exact Sem.bind_eq_wrap _ _|(show(do noteFrame e env;theTreesLotGoes e:Sem Unit).bind (fun zz=>.raise e)=_;rw[Sem.bind_eq_wrap]))]
  exact h3
theorem vO{K:Flow→Sem Fin}{H:Value→Sem Fin}{gd:Bool→Bool}{lv:List Value→List Value}{c:Code}{p:Pos}
  (h:Seg (model prog w) A R Y n s0 c (K .next) fs s):Seg (model prog w) A R Y n s0 (.block [] env) ((model prog w).den (.block [] env)) (jg env K H gd lv c p::fs) s:=by
 show Seg _ A R Y n s0 _ (leafOf (.ok .next)) _ s
 exact seg_leaf (.ok .next) h
end
section
noncomputable def dn.gen(G:dn)(T:Addr→Option Obj):dn:=
 {G with A₀:=[],TI:=fun zz h=>∀a∈tabs,∃o,T a=some o∧h.get? a=some o,hT:=⟨fun x zz hk a m=>let⟨o,e,g⟩:=x a m;⟨o,e,hk a m o g⟩,fun x a m=>let⟨o,_,g⟩:=x a m;⟨o,g⟩,fun x zz=>x⟩}
variable (G)
structure oT(h:Heap):Prop where
 bs:∀a o,G.Bs a=some o→h.get? a=some o
 tb:∀a∈tabs,∃o,h.get? a=some o
structure fS(T:Addr→Option Obj)(W:List Addr)(B:ay)(s0 s:Shared):Prop where
 inv:Inv (G.gen T) B [] [] s.heap
 keep:∀b o,b∉W→s0.heap.get? b=some o→s.heap.get? b=some o
 rest:Rest s0 s
 off:∀a∈W,B a=none∧a∉tabs∧∃o,s.heap.get? a=some o
 fresh:∀a,B a≠none→G.Bs a≠none∨s0.heap.get? a=none
variable {G}
theorem oU(dW:∀a∈tabs,G.Bs a=none){h:Heap}(b:oT G h):Inv (G.gen h.get?) G.Bs [] [] h:=
 ⟨.refl _,b.bs,rfl,(fun i a xs h1=>by cases h1),(fun zz m=>nomatch m),.nil,fun a m=>⟨dW a m,(fun m=>nomatch m)⟩,fun a m=>let⟨o,e⟩:=b.tb a m;⟨o,e,e⟩,List.prefix_refl _,(fun zz m=>nomatch m)⟩
theorem fS.post{T:Addr→Option Obj}{W W':List Addr}{B B':ay}{s0 s s':Shared}(I:fS G T W B s0 s)(P:aG (G.gen T) W' B [] s B' [] [] s')(hW:∀a∈W',a∈W):fS G T W B' s0 s':=by
 have kp:∀b o,b∉W'→s.heap.get? b=some o→s'.heap.get? b=some o:=fun b o hb e=>by
  by_cases ht:b∈tabs
  ·refine aW (I.inv.tab b ht) ?_;intro o1 t1 g1
   refine aW (P.inv.tab b ht) ?_;intro o2 t2 g2;rw[t1]at t2;cases Option.some.inj t2;rw[e]at g1;cases Option.some.inj g1;exact g2
  ·exact P.keep b o (by simp[hb,ht]) e
 refine⟨P.inv,fun b o hb e=>kp b o (fun m=>hb (hW b m)) (I.keep b o hb e),I.rest.trans P.rest,fun a m=>?_,fun a ha=>?_⟩
 ·refine zb (I.off a m) ?_;intro h1 h2 o e
  refine⟨P.eZ e h1 (fun m=>nomatch m),h2,?_⟩
  by_cases hm:a∈W'
  ·exact P.bL a hm
  ·exact⟨o,kp a o hm e⟩
 ·rcases P.dF a ha with z|z|z
  ·exact I.fresh a z
  ·cases z
  ·refine .inr ?_
   cases q:s0.heap.get? a with
   |none=>rfl
   |some o=>
    by_cases hm:a∈W
    ·refine zb (I.off a hm) ?_;intro zz zz o' e;rw[z]at e;exact bk e
    ·rw[I.keep a o hm q]at z;exact ff z
theorem fS.raw{T:Addr→Option Obj}{W:List Addr}{B:ay}{s0 s:Shared}{h':Heap}{tk:Nat}(I:fS G T W B s0 s)(k:∀b o,b∉W→s.heap.get? b=some o→h'.get? b=some o)(here:∀a∈W,∃o,h'.get? a=some o):fS G T W B s0 {s with heap:=h',toks:=tk}:=by
 have J:=I.inv;refine⟨⟨J.base,fun a o e=>k a o (fun m=>by rw[(I.off a m).1]at e;exact bk e) (J.holds a o e),rfl,(fun i a xs h1=>by cases h1),(fun zz m=>nomatch m),.nil,J.cg,fun a m=>?_,J.ey⟩,fun b o hb e=>k b o hb (I.keep b o hb e),I.rest.trans .heap,fun a m=>⟨(I.off a m).1,(I.off a m).2.1,here a m⟩,I.fresh⟩
 refine aW (J.tab a m) ?_;intro o e g;exact⟨o,e,k a o (fun q=>(I.off a q).2.1 m) g⟩
theorem fS.start(dW:∀a∈tabs,G.Bs a=none){W:List Addr}{s:Shared}(b:oT G s.heap)(hW:∀a∈W,G.Bs a=none∧a∉tabs∧∃o,s.heap.get? a=some o):fS G s.heap.get? W G.Bs s s:=
 ⟨oU dW b,fun zz zz zz e=>e,.refl s,hW,fun zz h=>.inl h⟩
inductive rF:V→Prop where
 |none:rF .none
 |bool {b:Bool}:rF (.bool b)
 |int {i:Int}:rF (.int i)
 |str {x:Str}:rF (.str x)
theorem rF.vr{B B':ay}{Z aH:List Addr}{v:V}{u:Value}(h:rF v)(r:VR B Z v u):VR B' aH v u:=by
 cases h<;>cases r<;>constructor
def oV(U:aw):Prop:=∀y v,get U y=some v→rF v
theorem oV.set{U:aw}{x:Nat}{v:V}(h:oV U)(hv:rF v):oV (set U x v):=fun y u e=>by
 rw[get_set]at e
 by_cases q:x=y
 ·rw[if_pos q]at e;cases Option.some.inj e;exact hv
 ·rw[if_neg q]at e;exact h y u e
theorem bt.reset{T T':Addr→Option Obj}{env:Env}{B B':ay}{Z aH:List Addr}{U:aw}{h h':Heap}(F:bt (G.gen T) env B Z U h)(hs:oV U)(hc:env.cells=[])(hL:∀o,h.get? env.locals=some o→h'.get? env.locals=some o)(hB:B' env.locals=none)(dM:env.locals∉aH):bt (G.gen T') env B' aH U h':=by
 refine aW F.ns ?_;intro m z1;obtain⟨o,es,ep,e,r⟩:=z1;intro hm;refine⟨F.kind,F.gl,F.bi,⟨m,⟨o,es,ep,hL o e,r⟩,fun x v hx hk=>?_⟩,fun x v hx=>?_,⟨hB,dM,F.cV.2.2⟩,fun n c xJ=>?_,F.inj,F.all⟩
 ·refine aW (hm x v hx hk) ?_;intro u h1 h2
  exact⟨u,h1,(hs x v hx).vr h2⟩
 ·rcases F.cl x v hx with z|⟨_,c,u,nW,_⟩
  ·exact .inl z
  ·rw[hc]at nW;cases nW
 ·rw[hc]at xJ;cases xJ
theorem Draws.Ve{prog:Program}{w:World}{A:Around}(hh:A.handled=none)(it:Addr)(x:Str)(t:Tok):
  Draws prog w A it [it] x.cps.size (fun i v=>∃c u,x.cps[i]?=some c∧v=.str ⟨#[c]⟩ u) (fun i h=>h.IsStrIter it (strIterType x) x t i):=by
 unfold strIterType
 by_cases h:x.cps.all (· < 128)=true
 ·rw[if_pos h];exact Draws.strAscii hh it x t
 ·rw[if_neg h];exact Draws.strWide hh it x t
structure gp where
 s1:Stmt
 s2:Stmt
 tg:Expr
 it:Expr
 t1:Expr
 e1:Expr
 sF:Stmt
 t2:Expr
 sT:Stmt
 e2:Expr
 t3:Expr
 e3:Expr
 ps:List Pos
noncomputable abbrev gp.inner(g:gp)(p:Nat→Pos):List Stmt:=[.If g.t1 [.Expr (.Yield (some g.e1) (p 0)) (p 1),g.sF] [.If g.t2 [g.sT] [.Expr (.Yield (some g.e2) (p 2)) (p 3)] (p 4)] (p 5)]
noncomputable abbrev gp.tail(g:gp)(p:Nat→Pos):List Stmt:=[.If g.t3 [.Expr (.Yield (some g.e3) (p 7)) (p 8)] [] (p 9)]
noncomputable abbrev gp.body(g:gp)(p:Nat→Pos):List Stmt:=g.s1::g.s2::.For g.tg g.it (g.inner p) [] (p 6)::g.tail p
noncomputable def posOf(l:List Pos)(i:Nat):Pos:=l.getD i ⟨0,0,0,0⟩
noncomputable abbrev p0:Pos:=⟨0,0,0,0⟩
noncomputable def Y7:Expr:=.Tuple [] 0 p0
noncomputable def uy:Stmt:=.Pass p0
noncomputable def Vf(s:Stmt):Expr×Expr×List Stmt×Pos:=(sk 0 s,sk 1 s,sb 0 s,s.pos)
noncomputable def Q8(s:Stmt):Expr×List Stmt×List Stmt×Pos:=(sk 0 s,sb 0 s,sb 1 s,s.pos)
noncomputable def Q9(s:Stmt):Expr×Pos:=(sk 0 s,s.pos)
noncomputable def EO:Expr→Expr×Pos
 |.Yield (some a) p=>(a,p)
 |_=>(Y7,p0)
noncomputable def Ra(l:List Stmt):gp:=
 let f:=Vf (l.getD 2 uy)
 let a:=Q8 (f.2.2.1.getD 0 uy)
 let b:=Q8 (a.2.2.1.getD 0 uy)
 let c:=Q8 (l.getD 3 uy)
 let x:=Q9 (a.2.1.getD 0 uy)
 let y:=Q9 (b.2.2.1.getD 0 uy)
 let z:=Q9 (c.2.1.getD 0 uy)
 ⟨l.getD 0 uy,l.getD 1 uy,f.1,f.2.1,a.1,(EO x.1).1,a.2.1.getD 1 uy,b.1,b.2.1.getD 0 uy,(EO y.1).1,c.1,(EO z.1).1,[(EO x.1).2,x.2,(EO y.1).2,y.2,b.2.2.2,a.2.2.2,f.2.2.2,(EO z.1).2,z.2,c.2.2.2]⟩
end
open Builtin Builtin.Str
section
variable{prog:Program}{w:World}{A:Around}{E:Value→Shared→Prop}{s:Shared}
theorem yj{it:Addr}{x:Str}{t:Tok}{i:Nat}{Q:Value→Shared→Prop}(hh:A.handled=none)(hit:s.heap.IsStrIter it "str_ascii_iterator" x t i)(hx:x.cps[i]?=none)
  (hE:∀h' e,Heap.ExtBut it s.heap h'→(∃o,h'.get? it=some o)→(∃o,h'.get? e=some o∧o.cls=.type "StopIteration")→E (.ref e) {s with heap:=h'}):
  wpAny (model prog w) A (Builtin.SmallTypes.nextOf (.ref it)) Q E s:=by
 have hT:=hit.typeIs;refine gJ hit ?_;clear hit;intro o ho hc hd;have step:wpAny (model prog w) A.in1 (Builtin.«str_ascii_iterator.__next__» ⟨[.ref it],[]⟩) (fun zz zz=>False) E s:=by
  show wpAny _ _ (field (.ref it) 0 >>= _) _ _ s;refine wpAny_bind (wpAny_field ho hd (x:=.str x t) rfl ?_);show wpAny _ _ (field (.ref it) 1 >>= _) _ _ s;refine wpAny_bind (wpAny_field ho hd (x:=.int i 0) rfl ?_);simp only[Int.toNat_natCast,hx];refine wpAny_bind (wpAny_rule (wpAny_bind (wpAny_setField ho hd (by simp) (wpAny_bind (wpAny_letGo ?_)))))
  have here:∀ (f:Array Value→Array Value),∃z,(s.heap.update it (Obj.mapFields f)).get? it=some z:=fun f=>
   ⟨_,Heap.get?_update_self _ ho (Obj.isFreed_of_fields (Obj.data_mapFields hd _))⟩
  show wpAny _ _ (newExc (.type "StopIteration") [] >>= _) _ _ _;refine wpAny_bind ?_;simp only[newExc,newTuple];refine wpAny_bind (wpAny_newObj_type ?_ (by size_fits))
  refine wpAny_bind (m:=firstArgMember _ _) (wpAny_of_eq (a:=Value.none) (by first|rfl|(simp only[firstArgMember];rfl)) (wpAny_newObj_type ?_ (by size_fits)))
  simp only[raiseNew];refine wpAny_bind (wpAny_handled ?_);rw[show A.in1.handled=none from hh];refine wpAny_bind (wpAny_pure (wpAny_throw ?_));obtain⟨z,hz⟩:=here _;exact hE _ _ (((Heap.SameBut.update ..).extBut.push _).push _) ⟨z,Heap.get?_push_of_some _ (Heap.get?_push_of_some _ hz)⟩ ⟨_,Heap.get?_push_size _ rfl,rfl⟩
 unfold Builtin.SmallTypes.nextOf;refine wpAny_bind (wpAny_callSpecial?_slot (name:=Str.ofString "__next__") hT F.slot_str_ascii_iterator_next
  (wpAny_call_entry F.slot_str_ascii_iterator_next hT F.entry_str_ascii_iterator_next ?_ (F.args_str_ascii_iterator_next_1 _)))
 exact wpAny_mono step (fun zz zz x=>x.elim) fun zz zz x=>x
theorem vP{e it:Addr}{x:Str}{t:Tok}{i:Nat}{k:Int}{old:Value}{Q:Option Value→Shared→Prop}(hh:A.handled=none)(he:IsEnum s.heap e it k old)(hit:s.heap.IsStrIter it "str_ascii_iterator" x t i)(hx:x.cps[i]?=none)
  (hQ:∀h',Heap.ExtBut it s.heap h'→(∃o,h'.get? it=some o)→Q none {s with heap:=h'}):wpAny (model prog w) A (pyNext (.ref e)) Q E s:=by
 have hT:s.TypeIs (.ref e) "enumerate":=⟨_,he,rfl⟩;unfold pyNext;refine wpAny_bind (wpAny_attempt (wpAny_callSpecial?_slot (name:=Str.ofString "__next__") hT F.slot_enumerate_next
  (wpAny_call_entry F.slot_enumerate_next hT F.entry_enumerate_next ?_ (F.args_enumerate_next_1 _))))
 show wpAny _ _ (field (.ref e) 2 >>= _) _ _ _;refine wpAny_bind (wpAny_field he rfl (x:=.ref it) rfl ?_);refine wpAny_bind (yj hh hit hx fun h' y Iv h2 hy=>?_);refine aW hy ?_;clear hy;intro o ho hc;exact wpAny_bind (wpAny_isInstance (T:="StopIteration") (b:=true) ⟨o,ho,hc⟩ isSubtype_stop (wpAny_pure (hQ _ Iv h2)))
end
theorem lJ(P:Params)(nm:Str):plainGet (KP P) 173 nm=true:=by
 have:plainGet (KP P) 173 (Str.ofString "n")=true:=by kd_p
 exact this
theorem pN(P:Params):hasDictIn (KP P) 173=true:=by kd_p
noncomputable def zO(K:Frag)(nm:Str):Bool:=match findIn K (.ref 173) nm with
 |some a=>noGet K a
 |none=>false
theorem By(P:Params):fNames.all (zO (KP P))=true:=by kd_p
noncomputable def Du(K:Frag)(p:Str×Addr):Bool:=(match findIn K (.ref 173) p.1 with|some (some (.ref f))=>f==p.2|_=>false)&&isFn K (.ref p.2)
noncomputable def lK:List (Str×Addr):=[(Str.ofString "longest_run_of_spaces",135),(Str.ofString "indent_level",142),(Str.ofString "less",163)]
theorem EP(P:Params):lK.all (Du (KP P))=true:=by kd_p
theorem pO{h:Heap}{x dx:Addr}{es:List DictEntry}{n:Nat}(hx:h.get? x=some (instObj 173 dx))(hd:h.get? dx=some (dictOf es n)):InstAt h x (instObj 173 dx) 173 (some (dictOf es n)):=⟨hx,rfl,rfl,hd⟩
theorem uA(hG:bx G){A:Around}{E:Value→Shared→Prop}{s:Shared}{x dx:Addr}{es:List DictEntry}{n:Nat}{nm:Str}{u:Value}{expr:Bool}{Q:Value→Shared→Prop}(X:G.K.In s.heap)(hx:s.heap.get? x=some (instObj 173 dx))(hd:s.heap.get? dx=some (dictOf es n))(hm:nm∈fNames)(hl:getL nm es=some (some u))(hu:handedIn u=true)
  (h:Q u {s with toks:=s.toks+1}):wpAny (model G.prog G.w) A (getAttr (.ref x) nm expr) Q E s:=by
 obtain⟨P,hP⟩:=hG.K;rw[hP]at X;have hf:=List.all_eq_true.mp (By P) nm hm;unfold zO at hf;split at hf
 ·rename_i a ha
  exact get_value X (pO hx hd) (plainGet_of (lJ P nm)).1 (findObj_own (pN P) ha hf (by rw[lookIn_dict];exact hl)) hu h
 ·exact iO hf
theorem fF(hG:bx G){n:Nat}{fs:List V}{O:Mu}{Q:V→Mu→Prop}{nm:Str}{v:V}(i:Nat)(hi:fNames[i]?=some nm)(hv:fs[i]?=some v)(q:Q v O):s9 G n nm (.obj fs) O Q:=by
 intro A hA B Z s x I r;cases r with
 |obj e e' f l h9=>
  rename_i xa dx es k vs;refine gJ (f.own i nm hi) ?_;intro u h1 h2 h3;exact uA hG I.jV (I.holds _ _ e) (I.holds _ _ e') (List.mem_of_getElem? hi) h2 h3 (PV.here I (h9 i v u hv h1) q)
theorem la(hG:bx G){fs:List V}{O:Mu}{p:Str×Addr}(hp:p∈lK):jA G p.1 (.obj fs) O (.ref p.2):=by
 obtain⟨P,hP⟩:=hG.K;have hm:=List.all_eq_true.mp (EP P) p hp;unfold Du at hm;simp only[Bool.and_eq_true]at hm;obtain⟨h1,h2⟩:=hm;split at h1
 ·rename_i f hf
  have e2:f=p.2:=eq_of_beq h1;subst e2;refine⟨fun h hb=>?_,fun A B Z s x pl Q E I r q=>?_⟩
  ·refine keeps_K (K:=KP P) ?_ h (fun a o e=>hb a o (G.hK a o (by rw[hP];exact e)))
   simp only[lK,List.mem_cons,List.not_mem_nil,or_false]at hp;rcases hp with rfl|rfl|rfl<;>kd_p
  ·cases r with
   |obj e e' f l h9=>
    rename_i xa dx es k vs;have X:(KP P).In s.heap:=hP▸I.jV;have Y8:p.1∈sZ:=by
     simp only[lK,List.mem_cons,List.not_mem_nil,or_false]at hp;rcases hp with rfl|rfl|rfl<;>simp[sZ]
    exact method_fn X (pO (I.holds _ _ e) (I.holds _ _ e')) (plainGet_of (lJ P p.1)).1 (plainGet_of (lJ P p.1)).2 hf (beq_iff_eq.mp h2) (by show(lookIn p.1 (dictOf es k)).map _=_;rw[lookIn_dict,f.no p.1 Y8];rfl) q
 ·exact iO h1
def md(es:List DictEntry):Prop:=∀e∈es,∃n t,e.key=.str n t
theorem oW(n:Str)(t:Tok)(m:Str):(Value.str n t).isStr m=(n==m):=by first|rfl|simp[Value.isStr]
theorem md.put{es:List DictEntry}(h:md es)(name:Str)(hs:Int)(t:Tok)(v:Value):md (putL name hs (.str name t) v es):=by
 induction es with
 |nil=>intro e m;rw[putL,List.mem_singleton]at m;rw[m];exact⟨_,_,rfl⟩
 |cons e r ih=>
  intro x m;unfold putL at m;split at m
  ·rcases List.mem_cons.mp m with rfl|m
   ·refine PE (h e (.head _)) ?_;intro n t' e';exact⟨n,t',e'⟩
   ·exact h x (.tail _ m)
  ·rcases List.mem_cons.mp m with rfl|m
   ·exact h x (.head _)
   ·exact ih (fun y hy=>h y (.tail _ hy)) x m
theorem noRef{es:List DictEntry}(h:md es):es.any (·.refKey)=false:=by
 rw[List.any_eq_false];intro e m;refine PE (h e m) ?_;intro n t e';simp[DictEntry.refKey,e']
theorem lL(nm:Str)(e:DictEntry)(r:List DictEntry)(h:md (e::r)):getL nm (e::r)=if e.key.isStr nm=true then some (some e.val) else getL nm r:=by
 unfold getL;rw[List.find?_cons,noRef h,noRef (fun y hy=>h y (.tail _ hy))];cases hk:e.key.isStr nm<;>simp
theorem ER{es:List DictEntry}(h:md es)(name nm:Str)(hs:Int)(t:Tok)(v:Value):getL nm (putL name hs (.str name t) v es)=if nm=name then some (some v) else getL nm es:=by
 induction es with
 |nil=>
  rw[putL,lL nm _ _ (by intro e m;rw[List.mem_singleton.mp m];exact⟨_,_,rfl⟩)]
  simp only[oW]
  by_cases q:nm=name
  ·rw[if_pos q,q];simp
  ·rw[if_neg q,if_neg (by simpa using fun e=>q e.symm)]
 |cons e r ih=>
  have hp:=h.put name hs t v;refine PE (h e (.head _)) ?_;intro n t' ek;have hr:md r:=fun y hy=>h y (.tail _ hy);rw[lL nm e r h];unfold putL at hp ⊢
  by_cases q:e.key.isStr name=true
  ·rw[if_pos q]at hp ⊢
   rw[lL nm _ _ hp];simp only[];have en:n=name:=by rw[ek,oW]at q;exact eq_of_beq q
   rw[ek,oW,en]
   by_cases z:nm=name
   ·rw[if_pos z,z];simp
   ·rw[if_neg z,if_neg (by simpa using fun e=>z e.symm),if_neg (by simpa using fun e=>z e.symm)]
  ·rw[if_neg q]at hp ⊢
   rw[lL nm _ _ hp,ih hr]
   by_cases z:nm=name
   ·subst z
    rw[if_neg q,if_pos rfl,if_pos rfl]
   ·rw[if_neg z,if_neg z]
theorem qH(name:Str)(hs:Int)(k v:Value):∀es:List DictEntry,(putL name hs k v es).length≤es.length+1
 |[]=>by simp[putL]
 |e::r=>by
  unfold putL;split
  ·simp
  ·have:=qH name hs k v r;simp;omega
noncomputable def zP(K:Frag)(nm:Str):Bool:=match takerIn K 173 nm with|some none=>true|_=>false
theorem Bz(P:Params):fNames.all (zP (KP P))=true:=by kd_p
theorem Iw(P:Params):findIn (KP P) (.ref 173) "__setattr__"=some (some (.builtin "object.__setattr__")):=by kd_p
theorem ES(P:Params):plainOver (KP P) 173=true:=by kd_p
theorem BA{w:World}{prog:Program}{P:Params}{A:Around}{s:Shared}{x dx:Addr}{es:List DictEntry}{n:Nat}{nm:Str}{tk:Tok}{u:Value}{R:Result→Shared→Prop}(X:(KP P).In s.heap)(hx:s.heap.get? x=some (instObj 173 dx))(hd:s.heap.get? dx=some (dictOf es n))(hm:nm∈fNames)(hk:md es)(hz:es.length≤100)
  (h:∀h' tk sH n',Heap.SameBut dx s.heap h'→h'.get? dx=some (dictOf sH n')→md sH→sH.length≤es.length+1→(∀k,getL k sH=if k=nm then some (some u) else getL k es)→R (.ok (.ret .none)) {s with heap:=h',toks:=tk}):
  codeAny (model prog w) A (.call (.builtin "object.__setattr__") ⟨[.ref x,.str nm tk,u],[]⟩) R s:=by
 have ht:=List.all_eq_true.mp (Bz P) nm hm;have Y9:takerIn (KP P) 173 nm=some none:=by
  unfold zP at ht;split at ht
  ·assumption
  ·exact iO ht
 refine osa_open X (pO hx hd) (ES P) Y9 fun b=>?_;refine aW (any_some (pN P)) ?_;intro cd hc fL;refine wpAny_bind (wpAny_pure (wpAny_bind (wpAny_bind (wpAny_loadPart hx (wpAny_bind ((looks_clsIn X hc).here ?_))))));rw[fL];refine wpAny_pure (a:=some dx) (wpAny_bind (wpAny_pure (wpAny_bind ?_)));unfold nsSet;refine wpAny_bind (wpAny_bind (wpAny_askSetting (wpAny_pure (wpAny_bind (wpAny_mkText (wpAny_bind (wpAny_loadPart hd ?_)))))));have c:(!es.toArray.any (·.key.isStr nm)&&es.toArray.any (·.refKey))=false:=by
  have:es.toArray.any (·.refKey)=false:=by rw[←Array.any_toList];exact noRef hk
  rw[this,Bool.and_false]
 dsimp only;rw[aRefKeyMayBeTheName_at,c];refine wpAny_updatePart hd ?_;have D':(s.heap.update dx (Obj.putName nm (PyData.keyHash w.params nm) (.str nm s.toks) u)).get? dx=some (dictOf (putL nm (PyData.keyHash w.params nm) (.str nm s.toks) u es) (putN nm es n)):=by
  rw[←putName_dict];exact Heap.get?_update_self _ hd (by rw[putName_dict];rfl)
 refine wpAny_bind (wpAny_lookBehind D' (pastItsLine_dict (by rw[List.size_toArray,sizeLine_eq];have:=qH nm (PyData.keyHash w.params nm) (.str nm s.toks) u es;exact ag 2 0 (aa (ae ab cy) (aa (ae af (aj ab aC)) (ae af (aj bq aC)))) (by kd_p) hz this)) ?_)
 exact wpAny_pure (h _ _ _ _ (Heap.SameBut.update ..) D' (hk.put _ _ _ _) (qH _ _ _ _ _) fun k=>ER hk _ k _ _ _)
theorem BB(hG:bx G){A:Around}{E:Value→Shared→Prop}{s:Shared}{x dx:Addr}{es:List DictEntry}{n:Nat}{nm:Str}{u:Value}{Q:Unit→Shared→Prop}(X:G.K.In s.heap)(hx:s.heap.get? x=some (instObj 173 dx))(hd:s.heap.get? dx=some (dictOf es n))(hm:nm∈fNames)(hk:md es)(hz:es.length≤100)
  (h:∀h' tk sH n',Heap.SameBut dx s.heap h'→h'.get? dx=some (dictOf sH n')→md sH→sH.length≤es.length+1→(∀k,getL k sH=if k=nm then some (some u) else getL k es)→Q () {s with heap:=h',toks:=tk}):
  wpAny (model G.prog G.w) A (setAttr (.ref x) nm u) Q E s:=by
 obtain⟨P,hP⟩:=hG.K;rw[hP]at X;exact set_plain X (pO hx hd) (Iw P) (BA (s:={s with toks:=s.toks+1}) X hx hd hm hk hz h)
section
structure kJ(B:ay)(Z:List Addr)(h:Heap)(dx:Addr)(L:List (Str×V)):Prop where
 ex:∃es n,h.get? dx=some (dictOf es n)∧md es∧es.length≤L.length∧(∀p∈L,∃u,getL p.1 es=some (some u)∧VR B Z p.2 u∧handedIn u=true)∧∀nm,nm∉L.map (·.1)→getL nm es=some none
theorem kJ.kept{B B':ay}{Z aH:List Addr}{h h':Heap}{dx:Addr}{L:List (Str×V)}(x:kJ B Z h dx L)(hk:∀o,h.get? dx=some o→h'.get? dx=some o)(hB:ay.le B B')(dM:Z <+: aH):kJ B' aH h' dx L:=by
 refine mw x.ex ?_;intro es n e hs hl h1 h2;exact⟨es,n,hk _ e,hs,hl,fun p m=>let⟨u,a,b,c⟩:=h1 p m;⟨u,a,b.mono hB dM,c⟩,h2⟩
theorem aG.more{W:List Addr}{B B':ay}{Z aH:List Addr}{ar:Mu}{s s':Shared}{a:Addr}{o:Obj}(P:aG G W B Z s B' aH ar s')(e:s.heap.get? a=some o)(hW:a∉W)(dM:a∉Z)(ht:a∉tabs):aG G (a::W) B Z s B' aH ar s':=
 ⟨P.le,P.pre,P.inv,P.keep.mono (fun b m=>by simp at m ⊢;rcases m with m|m|m<;>simp[m]),fun b m=>by
  rcases List.mem_cons.mp m with rfl|m
  ·exact⟨o,P.kept e hW dM ht⟩
  ·exact P.bL b m,P.rest,P.dF,P.da⟩
variable (G)
structure uB(env:Env)(own:List Nat)(B:ay)(Z:List Addr)(x dx:Addr):Prop where
 at_:B x=some (instObj 173 dx)
 b:B dx=none
 a:dx∉Z
 t:dx∉tabs
 f:dx∉fa G env own
 l:env.locals≠dx
 c:∀n c,(n,c)∈env.cells→c≠dx
def yk(n:Nat)(env:Env)(own:List Nat)(x dx:Addr)(t:Sem Flow)(U:aw)(O:Mu)(L:List (Str×V))(Q:Fl→aw→Mu→List (Str×V)→Prop):Prop:=
 ∀A,bY n A→∀B Z s,Inv G B Z O s.heap→bt G env B Z U s.heap→uB G env own B Z x dx→kJ B Z s.heap dx L→
  wpAny (model G.prog G.w) A t (fun fl s'=>∃r ao ar L' B' aH,Q r ao ar L'∧aG G (dx::fa G env own) B Z s B' aH ar s'∧bt G env B' aH ao s'.heap∧kJ B' aH s'.heap dx L'∧Ea B' aH r fl) bM s
variable {G}
theorem uB.step{env:Env}{own:List Nat}{B B':ay}{Z aH:List Addr}{x dx:Addr}{W:List Addr}{ar:Mu}{s s':Shared}{L:List (Str×V)}(d:uB G env own B Z x dx)(P:aG G W B Z s B' aH ar s')(i:kJ B Z s.heap dx L):uB G env own B' aH x dx:=by
 refine j0 i.ex ?_;intro es n e zz;exact⟨P.le _ _ d.at_,P.eZ e d.b d.a,P.fJ e d.a,d.t,d.f,d.l,d.c⟩
section
variable{n:Nat}{env:Env}{own:List Nat}{x dx:Addr}{U:aw}{O:Mu}{L:List (Str×V)}{Q:Fl→aw→Mu→List (Str×V)→Prop}
theorem Dv{t:Sem Flow}(h:cn G n env own t U O fun r ao ar=>Q r ao ar L):yk G n env own x dx t U O L Q:=by
 intro A hA B Z s I F d i;refine wpAny_mono (h A hA B Z s I F) ?_ fun zz zz x=>x;rintro fl s' ⟨r,ao,ar,B',aH,q,P,F',rf⟩;refine j0 i.ex ?_;intro es k e zz;exact⟨r,ao,ar,L,B',aH,q,P.more e d.f d.a d.t,F',i.kept (fun o eo=>P.kept eo d.f d.a d.t) P.le P.pre,rf⟩
theorem Rb(q:Q .next U O L):yk G n env own x dx (execs [] env) U O L Q:=Dv (xP q)
theorem jh{st:Stmt}{rest:List Stmt}(h:yk G n env own x dx (exec st env) U O L fun r a9 aA L1=>match r with | .next=>yk G n env own x dx (execs rest env) a9 aA L1 Q|r=>Q r a9 aA L1):yk G n env own x dx (execs (st::rest) env) U O L Q:=by
 intro A hA B Z s I F d i;refine wpAny_execs_cons (wpAny_mono (h A hA B Z s I F d i) ?_ fun zz zz x=>x);rintro fl s1 ⟨r,a9,aA,L1,B1,aE,bf,P1,F1,i1,r1⟩;cases r1 with
 |next=>
  refine wpAny_mono (bf A hA B1 aE s1 P1.inv F1 (d.step P1 i) i1) ?_ fun zz zz x=>x;rintro fl s2 ⟨r,b9,aZ,L2,B2,aV,bu,P2,pP⟩;exact⟨r,b9,aZ,L2,B2,aV,bu,P1.trans P2,pP⟩
 |brk=>exact⟨.brk,a9,aA,L1,B1,aE,bf,P1,F1,i1,.brk⟩
 |cont=>exact⟨.cont,a9,aA,L1,B1,aE,bf,P1,F1,i1,.cont⟩
 |ret r=>exact⟨.ret _,a9,aA,L1,B1,aE,bf,P1,F1,i1,.ret r⟩
inductive Hd:V→Prop where
 |bool {b:Bool}:Hd (.bool b)
 |int {i:Int}:Hd (.int i)
 |str {x:Str}:Hd (.str x)
 |tuple {xs:List V}:Hd (.tuple xs)
theorem Hd.Za{v:V}(h:Hd v){B:ay}{Z:List Addr}{u:Value}(r:VR B Z v u):handedIn u=true:=by
 cases h<;>cases r<;>rfl
theorem uC(hG:bx G){y:Nat}{nm:Str}{e:Expr}{p1 p2 p3:Pos}(hy:get U y=some (.raw (.ref x)))(hm:nm∈fNames)(hn:nm∉L.map (·.1))(hL:L.length≤50)
  (h:bz G n env (eval e env) U O fun v aA=>Hd v∧Q .next U aA ((nm,v)::L))(hs:swapsWith e (some (.Attribute (.Name (G.nm y) p1) nm p2)) p3.line env=pure false):
  yk G n env own x dx (exec (.Assign [.Attribute (.Name (G.nm y) p1) nm p2] e p3) env) U O L Q:=by
 intro A hA B Z s I F d i;refine plainObj_wpAny_Assign_Attribute (wpAny_mono (h A hA B Z s I F) ?_ fun zz zz x=>x) hs;rintro u s1 ⟨v,aA,B1,aE,⟨hd,q⟩,P1,r1⟩;have F1:=F.same P1;have d1:=d.step P1 i;have i1:kJ B1 aE s1.heap dx L:=i.kept (fun o eo=>P1.kept eo (fun m=>nomatch m) d.a d.t) P1.le P1.pre;refine wpAny_mono (xM (Q:=fun v ar=>v=.raw (.ref x)∧ar=aA) hy ⟨rfl,rfl⟩ A hA B1 aE s1 P1.inv F1) ?_ fun zz zz x=>x;rintro z s2 ⟨zz,aZ,B2,aV,⟨rfl,rfl⟩,P2,pP⟩;refine VR.j2 pP ?_;have F2:=F1.same P2;have d2:=d1.step P2 i1;have i2:kJ B2 aV s2.heap dx L:=i1.kept (fun o eo=>P2.kept eo (fun m=>nomatch m) d1.a d.t) P2.le P2.pre;have D8:=P1.trans P2;have r2:=r1.mono P2.le P2.pre;refine mw i2.ex ?_;intro es k e2 hk hl h1 h2;refine BB hG P2.inv.jV (P2.inv.holds _ _ d2.at_) e2 hm hk (by exact ag 2 0 (aa (ae ab (nk 50)) (aa (ae af ab) (ae af cy))) (by kd_p) hL hl) fun h' tk sH n' sb e3 gL Iy hg=>?_
 have kp:∀b o,b≠dx→s2.heap.get? b=some o→h'.get? b=some o:=fun b o hb eo=>(sb.2 b hb).trans eo;refine j0 i.ex ?_;intro es0 k0 e0 zz;have P3:aG G (dx::fa G env own) B2 aV s2 B2 aV aZ {s2 with heap:=h',toks:=tk}:=⟨.refl _,List.prefix_refl _,P2.inv.same sb d2.b d2.a d2.t,fun b o hb eo=>kp b o (fun q=>hb (by simp[q])) eo,fun b m=>by
  rcases List.mem_cons.mp m with rfl|m
  ·exact⟨_,e3⟩
  ·obtain⟨o,eo⟩:=F2.bL b m;exact⟨o,kp b o (fun q=>d.f (q▸m)) eo⟩,.heap,fun zz h=>.inl h,fun zz h=>.inl h⟩
 refine⟨.next,U,aZ,_,B2,aV,q,((D8.wide F).more e0 d.f d.a d.t).trans P3,F2.fM d.l d.c kp,⟨sH,n',e3,gL,?_,fun p m=>?_,fun k iR=>?_⟩,.next⟩
 ·simp only[List.length_cons];exact ag 3 0 (aa (ae ab af) (aa (ae au (aj ab aC)) (ae au (aj af aC)))) (by kd_p) hl Iy
 ·rcases List.mem_cons.mp m with rfl|m
  ·exact⟨u,by rw[hg,if_pos rfl],r2,hd.Za r2⟩
  ·refine gJ (h1 p m) ?_;intro w a b c
   exact⟨w,by rw[hg,if_neg (fun q:p.1=nm=>hn (by rw[←q];exact List.mem_map_of_mem m))];exact a,b,c⟩
 ·rw[List.map_cons,List.mem_cons,not_or]at iR
  rw[hg,if_neg iR.1];exact h2 k iR.2
theorem Rc(hG:bx G){y:Nat}{nm:Str}{t:Str}{Rd:Expr}{body:List Stmt}{p1 p2 p3:Pos}(hy:get U y=some (.raw (.ref x)))(hm:nm∈fNames)(hL:(nm,V.str t)∈L)
  (t6:attributeBase (.Name (G.nm y) p1) nm env (eval (.Name (G.nm y) p1) env)=eval (.Name (G.nm y) p1) env)(ht:∀it v,letOwnedTupleGo Rd it v=pure ())
  (h:forL (fun x U O k=>gF G n env own (assign Rd env) x U O fun ao ar=>cn G n env own (execs body env) ao ar k) (t.cps.toList.map fun c=>.str ⟨#[c]⟩) U O fun r ao ar=>Q r ao ar L):
  yk G n env own x dx (exec (.For Rd (.Attribute (.Name (G.nm y) p1) nm p2) body [] p3) env) U O L Q:=by
 intro A hA B Z s I F d i;refine wpAny_mono (xQ (own:=own) (Q:=fun r ao ar=>Q r ao ar L) hA F (fun K hK=>?_) (fun zz=>rfl) ht) ?_ fun zz zz x=>x
 ·rw[arm_eval_Attribute,t6]
  refine wpAny_bind (wpAny_mono (xM (Q:=fun v ar=>v=.raw (.ref x)∧ar=O) hy ⟨rfl,rfl⟩ A hA B Z s I F) ?_ fun zz zz x=>x);rintro z s2 ⟨zz,aZ,B2,aV,⟨rfl,rfl⟩,P2,pP⟩;refine VR.j2 pP ?_;have d2:=d.step P2 i;have i2:kJ B2 aV s2.heap dx L:=i.kept (fun o eo=>P2.kept eo (fun m=>nomatch m) d.a d.t) P2.le P2.pre;refine mw i2.ex ?_;intro es k e2 hk hl h1 h2;refine gJ (h1 _ hL) ?_;intro u hg ru hu;refine wpAny_bind (wpAny_standAt (wpAny_bind (wpAny_holding (uA hG P2.inv.jV (P2.inv.holds _ _ d2.at_) e2 hm hg hu ?_))));refine wpAny_bind (wpAny_letTemporaryGo (wpAny_pure ?_));have I3:Inv G B2 aV aZ {s2 with toks:=s2.toks+1}.heap:=P2.inv
  refine Iter.str (G:=G) (O:=aZ) A B2 aV {s2 with toks:=s2.toks+1} u _ _ I3 ru fun it h' fp P St a b c' e f g j=>?_
  exact hK B2 aV aZ {s2 with toks:=s2.toks+1} _ it h' fp P St h (P2.trans P2.inv.tI) a b c' e f g j
 ·rintro fl s' ⟨r,ao,ar,B',aH,q,P,F',rf⟩
  refine j0 i.ex ?_;intro es k e zz;exact⟨r,ao,ar,L,B',aH,q,P.more e d.f d.a d.t,F',i.kept (fun o eo=>P.kept eo d.f d.a d.t) P.le P.pre,rf⟩
end
end
section
local macro_rules | `(tactic| kd_in) => do
  let i (s : String) : Lean.Ident := Lean.mkIdent (Lean.Name.mkSimple s)
  let a ← ("wy H7 nB EA U0 Ex Bc Bd bU".splitOn " ").toArray.mapM fun s => `(Lean.Parser.Tactic.tacticSeq| ((with_reducible refine' $(i s) ?vh ?_); (case vh => first | rfl | assumption)))
  let b ← ("HU ua wz HV Lp zu HW HX HY Eu HZ Ew uc Ey H0 kT gk ue zy Vg H3 Yb Bg zA S6 Rf cR kU gx H5 EB wB".splitOn " ").toArray.mapM fun s => `(Lean.Parser.Tactic.tacticSeq| with_reducible refine $(i s) ?_)
  let c ← ("YH H6".splitOn " ").toArray.mapM fun s => `(Lean.Parser.Tactic.tacticSeq| ((with_reducible refine' $(i s) ?vh ?_); (case vh => rfl)))
  let d ← ("S7 EC H8 gN uf EF S8 H9 eG ic Bh A7 QF HK V_lt Up QG Uq Ur Us Ut HL QH Zb En QI QJ iB Ll HN QK Eo Ep Be bK".splitOn " ").toArray.mapM fun s => `(Lean.Parser.Tactic.tacticSeq| with_reducible refine $(i s) ?_)
  let e := a ++ b ++ c ++ d
  `(tactic| first $[| $e]* | ((with_reducible refine' bU ?vh ?_); (case vh => (repeat (with_reducible refine gn ?_)); first | assumption | exact gs | rfl)) | ((with_reducible refine' UD ?vh ?vi ?vj ?_); (case vh => rfl); (case vi => rfl); (case vj => rfl)))
def Sz(k:Nat)(a:Int):Prop:=a.natAbs<2 ^ k
theorem Sz.mono{j k:Nat}{a:Int}(h:Sz j a)(hk:j≤k):Sz k a:=Nat.lt_of_lt_of_le h (Nat.pow_le_pow_right (by decide) hk)
theorem Sz.mul{j k:Nat}{a b:Int}(h:Sz j a)(h':Sz k b):Sz (j+k) (a*b):=by
 unfold Sz at *;rw[Int.natAbs_mul,Nat.pow_add];exact Nat.mul_lt_mul_of_lt_of_le h (Nat.le_of_lt h') (Nat.two_pow_pos k)
theorem Sz.add{k:Nat}{a b:Int}(h:Sz k a)(h':Sz k b):Sz (k+1) (a+b):=by
 unfold Sz at *;have:=Int.natAbs_add_le a b;rw[Nat.pow_succ];exact ag 4 0 (aa (ak af ab) (aa (ak au ab) (aa (ae aM (aj af au)) (ak aM (sj ab 2))))) (by kd_p) h h' this
theorem Sz.neg{k:Nat}{a:Int}(h:Sz k a):Sz k (-a):=by
 unfold Sz at *;rw[Int.natAbs_neg];exact h
theorem Sz.sub{k:Nat}{a b:Int}(h:Sz k a)(h':Sz k b):Sz (k+1) (a-b):=by
 rw[Int.sub_eq_add_neg];exact h.add h'.neg
theorem Sz.pow{k:Nat}{a:Int}(h:Sz k a):∀n:Nat,Sz (k*n+1) (a ^ n)
 |0=>by unfold Sz;simp
 |n+1=>by
  rw[Int.pow_succ];exact((h.pow n).mul h).mono (by rw[Nat.mul_succ];exact ag 2 0 (ae (aj (aj af aC) ab) (aj (aj af ab) aC)) (by kd_p))
theorem Sz.yl{k m:Nat}{a:Int}(h:Sz k a)(n:Nat)(hn:n≤m):Sz (k*m+1) (a ^ n):=(h.pow n).mono (by have:=Nat.mul_le_mul_left k hn;exact Gx this)
theorem Sz.bits{k:Nat}{a:Int}(h:Sz k a):Builtin.Int.intBits a≤k:=by
 unfold Builtin.Int.intBits;split
 ·exact Nat.zero_le _
 ·rename_i z
  have z':a.natAbs≠0:=by simpa using z
  have:=(Nat.log2_lt z').mpr h;exact Gy this
theorem ym:100000000≤bitsLine:=by decide
theorem Sz.Iz{j k:Nat}{a b:Int}(h:Sz j a)(h':Sz k b)(hs:j+k≤100000000):IntMulOk a b:=by
 unfold IntMulOk Builtin.Int.intTooBig;have h1:=h.bits;have h2:=h'.bits;have h3:=ym;have:¬ ((Builtin.Int.intBits a:Int)+(Builtin.Int.intBits b:Int)>(bitsLine:Int)):=by exact ag 5 0 (aa (ae (aj af ab) (nk 100000000)) (aa (ae de af) (aa (ae aM ab) (aa (ae (nk 100000000) au) (dJ (aK (az au) (bh (az de) (az aM)))))))) (by kd_p) hs h1 h2 h3
 simp[this]
theorem kK{k:Nat}{a:Int}{m:Nat}(h1 : -(m:Int)<a)(h2:a<m)(hm:m≤2 ^ k):Sz k a:=by
 unfold Sz;exact ag 2 1 (aa (aK (cI (az ab)) aq) (aa (aK aq (az ab)) (aa (ae ab af) (ak (ja aq) af)))) (by kd_p) h1 h2 hm
theorem get_nil(x:Nat):get [] x=none:=rfl
theorem nK(y:Nat)(v:V)(r:aw)(x:Nat):get ((y,v)::r) x=if y=x then some v else get r x:=by
 show(bif Nat.beq y x then some v else get r x)=_
 by_cases h:y=x
 ·subst h;simp
 ·simp[h,ng h]
theorem lM(a:Int):Cl (.int a)↔True:=⟨fun zz=>trivial,fun zz=>.int⟩
noncomputable def c7(x y z a b c:Int):Int:=
 x ^ (a+2).toNat*(y ^ (b+1).toNat*z ^ c.toNat-y ^ c.toNat*z ^ (b+1).toNat)-x ^ (b+1).toNat*(y ^ (a+2).toNat*z ^ c.toNat-y ^ c.toNat*z ^ (a+2).toNat)
  + x ^ c.toNat*(y ^ (a+2).toNat*z ^ (b+1).toNat-y ^ (b+1).toNat*z ^ (a+2).toNat)
theorem gZ.sz{j k:Nat}{a b:Int}(h:Sz j a)(h':Sz k b)(hs:j+k≤100000000):gZ a b:=⟨h.Iz h' hs⟩
theorem pC.sz{k:Nat}{a b:Int}(h:Sz k a)(h0:0≤b)(m:Nat)(hb:b≤m)(hs:k*m≤100000000):pC a b:=by
 refine⟨h0,?_⟩;have h1:=h.bits;have:(Builtin.Int.intBits a:Int)*b≤(k:Int)*(m:Int):=Int.mul_le_mul (by exact ag 2 0 (aa (ae af ab) (ai (az af) (az ab))) (by kd_p) h1) hb h0 (by exact Int.natCast_nonneg _)
 have h2:((k*m:Nat):Int)=(k:Int)*m:=Int.natCast_mul ..;have h3:(2:Int) ^ 27=134217728:=by decide
 omega
theorem cp.of{m:Nat}(h:m≤1000000):cp m:=⟨Nat.lt_of_le_of_lt h (by decide)⟩
theorem gM.of{m:Nat}(h:m≤1000000):gM m:=⟨Nat.le_trans h (by decide)⟩
theorem gM.lit{m:Nat}(h:Nat.ble m 1000000=true):gM m:=.of (Nat.le_of_ble_eq_true h)
theorem cp.lit{m:Nat}(h:Nat.ble m 1000000=true):cp m:=.of (Nat.le_of_ble_eq_true h)
theorem vQ{n:Nat}{O:Mu}{x y z a b c:Int}{Q:V→Mu→Prop}(hx:Sz 10 x)(hy:Sz 10 y)(hz:Sz 10 z)(ha:0≤a∧a≤20)(hb:0≤b∧b≤20)(hc:0≤c∧c≤20)(q:Cl (.int (c7 x y z a b c))∧Q (.int (c7 x y z a b c)) (O.take O.length)):
  aX G bX n ik (bc [] [(wH,.list [.int x,.int y,.int z]),(kX,.list [.int a,.int b,.int c])]) O (qE O Q):=by
 have ea:(a+2).toNat≤22:=by exact ag 0 1 (aa (aT (ai aJ aq) (ai aq dC)) (ae (dB (bh aq jT)) (nk 22))) (by kd_p) ha
 have eb:(b+1).toNat≤22:=by exact ag 0 1 (aa (aT (ai aJ aq) (ai aq dC)) (ae (dB (bh aq bV)) (nk 22))) (by kd_p) hb
 have ec:c.toNat≤22:=by exact ag 0 1 (aa (aT (ai aJ aq) (ai aq dC)) (ae (dB aq) (nk 22))) (by kd_p) hc
 have pw:∀ {p:Int} {e:Nat},Sz 10 p→e≤22→Sz 221 (p ^ e):=fun h he=>h.yl _ he;have l3:cp [V.int a,V.int b,V.int c].length:=.lit rfl;unfold ik;repeat first
  |kd_in
  |refine V_at (v:=.int a) rfl (by show(-3:Int)≤_;decide) l3 ?_
  |refine V_at (v:=.int b) rfl (by show(-3:Int)≤_;decide) l3 ?_
  |refine V_at (v:=.int c) rfl (by show(-3:Int)≤_;decide) l3 ?_
  |refine⟨gM.lit rfl,?_⟩
  |refine qr (pC.sz (by assumption) (by(first|exact ag 0 1 (aa (aT (ai aJ aq) (ai aq dC)) (ai aJ (bh aq jT))) (by kd_p) ha|exact ag 0 1 (aa (aT (ai aJ aq) (ai aq dC)) (ai aJ (bh aq bV))) (by kd_p) hb|exact ag 0 1 (aa (aT (ai aJ aq) (ai aq dC)) (ai aJ aq)) (by kd_p) hc)) 22 (by(first|exact ag 0 1 (aa (aT (ai aJ aq) (ai aq dC)) (ai (bh aq jT) (az (nk 22)))) (by kd_p) ha|exact ag 0 1 (aa (aT (ai aJ aq) (ai aq dC)) (ai (bh aq bV) (az (nk 22)))) (by kd_p) hb|exact ag 0 1 (aa (aT (ai aJ aq) (ai aq dC)) (ai aq (az (nk 22)))) (by kd_p) hc)) (by decide)) ?_
  |refine gh (gZ.sz (pw (by assumption) (by assumption)) (pw (by assumption) (by assumption)) (by decide)) ?_
  |refine gh (gZ.sz (pw (by assumption) (by assumption)) (Sz.sub (Sz.mul (pw (by assumption) (by assumption)) (pw (by assumption) (by assumption))) (Sz.mul (pw (by assumption) (by assumption)) (pw (by assumption) (by assumption)))) (by decide)) ?_
theorem dX(hG:bx G){n:Nat}{x y z a b c:Int}{O:Mu}{Q:V→Mu→Prop}(hx:Sz 10 x)(hy:Sz 10 y)(hz:Sz 10 z)(ha:0≤a∧a≤20)(hb:0≤b∧b≤20)(hc:0≤c∧c≤20)(q:Q (.int (c7 x y z a b c)) O):
  aU G (n+1) (.ref 191) [.list [.int x,.int y,.int z],.list [.int a,.int b,.int c]] [] O Q:=by
 refine fN hG (st:=ik) (own:=qA) [(wH,.list [.int x,.int y,.int z]),(kX,.list [.int a,.int b,.int c])] (fun P ys ks B Z r rk=>?_) (vQ hx hy hz ha hb hc (by rw[List.take_length];exact⟨.int,q⟩))
 refine aB.aO r ?_;intro y zz r1 r;refine aB.aO r ?_;intro z zz r2 r;refine aB.bE r ?_;refine aB.bE rk ?_;exact⟨[y,z],.cons r1 (.cons r2 .nil),fun S=>by kd_p⟩
noncomputable def cP(p:Nat→Bool):Nat→Nat→Nat→Nat
 |0,lo,_=>lo
 |f+1,lo,hi=>if lo<hi then(if p ((lo+hi)/2) then cP p f lo ((lo+hi)/2) else cP p f ((lo+hi)/2+1) hi) else lo
theorem oX(p:Nat→Bool)(f lo hi:Nat):cP p (f+1) lo hi=if lo<hi then(if p ((lo+hi)/2) then cP p f lo ((lo+hi)/2) else cP p f ((lo+hi)/2+1) hi) else lo:=rfl
theorem ET(a b:Nat):((a:Int)+(b:Int)).fdiv 2=(((a+b)/2:Nat):Int):=by
 rw[Int.fdiv_eq_ediv_of_nonneg _ (by decide)]
 exact Yd
theorem Rg:OA 2:=⟨by decide,by decide +kernel⟩
noncomputable abbrev LG:S:=.asg (.name 44) (.bin .FloorDiv (.bin .Add (.var 40) (.var 43)) (.int 2))
noncomputable abbrev goLeft:Ss:=.cons (.asg (.name 43) (.var 44)) .nil
noncomputable abbrev goRight:Ss:=.cons (.asg (.name 40) (.bin .Add (.var 44) (.int 1))) .nil
theorem zQ{n mid:Nat}{U:aw}{O:Mu}{K:Fl→aw→Mu→Prop}(h:get U 44=some (.int (mid:Nat)))(k:K .next (set U 43 (.int (mid:Nat))) O):aX G bX n goLeft U O K:=by
 unfold goLeft;k_upd
theorem wN{n mid:Nat}{U:aw}{O:Mu}{K:Fl→aw→Mu→Prop}(h:get U 44=some (.int (mid:Nat)))(k:K .next (set U 40 (.int (mid+1:Nat))) O):aX G bX n goRight U O K:=by
 unfold goRight;k_upd
def IA(O:Mu)(len:Nat)(p:Nat→Bool)(av xv kv:V)(k:Nat)(ao:aw)(ar:Mu):Prop:=ar=O∧∃lo hi f:Nat,k=hi-lo∧hi-lo≤f∧lo≤hi∧hi≤len∧get ao 19=some av∧get ao 39=some xv∧get ao 41=some kv∧get ao 40=some (.int lo)∧get ao 43=some (.int hi)∧cP p f lo hi=cP p len 0 len
theorem yn{n:Nat}{c:T}{sL sR:Ss}{len:Nat}{p:Nat→Bool}{dir:Bool}(hd:(dir=true∧sL=goLeft∧sR=goRight)∨(dir=false∧sL=goRight∧sR=goLeft)){av xv kv:V}{O:Mu}
  (H:∀i,i<len→∀ (U:aw) (Q:Bool→Mu→Prop),get U 19=some av→get U 39=some xv→get U 41=some kv→get U 44=some (.int i)→Q (p i==dir) O→t8 G bX n c U O Q)
  {U:aw}{Q:Fl→aw→Mu→Prop}(ha:get U 19=some av)(hx:get U 39=some xv)(hk:get U 41=some kv)(hU:get U 40=some (.int 0))(A2:get U 43=some (.int len))
  (q:∀ao,get ao 40=some (.int (cP p len 0 len))→get ao 19=some av→get ao 39=some xv→get ao 41=some kv→Q .next ao O):
  wpS G bX n (.rm (.cmp .Lt (.var 40) (.var 43)) (.cons LG (.cons (.iff c sL sR) .nil))) U O Q:=by
 refine ED (IA O len p av xv kv) len
  ⟨rfl,0,len,len,by exact ag 1 0 (ax ab (bb ab b6)) (by kd_p),by exact ag 1 0 (ae (bb ab b6) ab) (by kd_p),by exact Nat.zero_le _,by exact Nat.le_refl _,ha,hx,hk,hU,A2,rfl⟩ ?_
 rintro k ao ar ⟨rfl,lo,hi,f,rfl,hf,hle,hlen,BD,Lk,gL,OJ,Vh,hR⟩;k_upd
 by_cases bA:lo<hi
 ·have e1:decide ((lo:Int)<(hi:Int))=true:=by simpa using bA
  rw[e1];show aX G bX n _ ao ar _;k_upd;refine dR Rg ?_;k_upd;rw[ET];have hm:(lo+hi)/2<len:=by exact Ye hlen bA
  have h1:lo≤(lo+hi)/2:=by exact Tn bA
  have h2:(lo+hi)/2<hi:=by exact PC bA
  obtain⟨f,rfl⟩:∃f',f=f'+1:=⟨f-1,by exact ag 3 0 (aa (ae (bb af ab) au) (aa (ak ab af) (ax au (aj (bb au aC) aC)))) (by kd_p) hf bA⟩
  rw[oX,if_pos bA]at hR;generalize (lo+hi)/2=mid at *;have Rh:=gn (x:=44) (v:=.int (mid:Nat)) BD;have Ri:=gn (x:=44) (v:=.int (mid:Nat)) Lk;have Rj:=gn (x:=44) (v:=.int (mid:Nat)) gL;have Zc:=gn (x:=44) (v:=.int (mid:Nat)) OJ;have Zd:=gn (x:=44) (v:=.int (mid:Nat)) Vh;have IB:get (set ao 44 (.int (mid:Nat))) 44=some (.int (mid:Nat)):=gs;generalize set ao 44 (.int (mid:Nat))=a9 at *;refine H mid hm _ _ Rh Ri Rj IB ?_;have ec:((mid:Int)+1)=((mid+1:Nat):Int):=by exact ag 1 0 (aS (bh (az ab) bV) (az (aj ab aC))) (by kd_p)
  have hL:p mid=true→∃m,m<hi-lo∧IA ar len p av xv kv m (set a9 43 (.int (mid:Nat))) ar:=fun hp=>by
   rw[hp]at hR;exact⟨mid-lo,by exact ag 3 0 (aa (ak af ab) (aa (ae af au) (aa (ak au ab) (ak (bb au af) (bb ab af))))) (by kd_p) bA h1 h2,rfl,lo,mid,f,rfl,by exact ag 4 0 (aa (ak au ab) (aa (ae (bb ab au) (aj af aC)) (aa (ae au aM) (aa (ak aM ab) (ae (bb aM au) af))))) (by kd_p) bA hf h1 h2,h1,by exact ag 2 0 (aa (ak af ab) (ae af ab)) (by kd_p) hm,gn Rh,gn Ri,gn Rj,gn Zc,gs,hR⟩
  have vN:p mid=false→∃m,m<hi-lo∧IA ar len p av xv kv m (set a9 40 (.int (mid+1:Nat))) ar:=fun hp=>by
   rw[hp]at hR;exact⟨hi-(mid+1),by exact ag 3 0 (aa (ak ab au) (aa (ae ab af) (aa (ak af au) (ak (bb au (aj af aC)) (bb au ab))))) (by kd_p) bA h1 h2,rfl,mid+1,hi,f,rfl,by exact ag 4 0 (aa (ak ab aM) (aa (ae (bb aM ab) (aj af aC)) (aa (ae ab au) (aa (ak au aM) (ae (bb aM (aj au aC)) af))))) (by kd_p) bA hf h1 h2,h2,hlen,gn Rh,gn Ri,gn Rj,gs,gn Zd,hR⟩
  rcases hd with⟨rfl,rfl,rfl⟩|⟨rfl,rfl,rfl⟩<;>cases hp:p mid
  ·exact wN IB (eG (vN hp))
  ·exact zQ IB (eG (hL hp))
  ·exact wN IB (eG (vN hp))
  ·exact zQ IB (eG (hL hp))
 ·have e1:decide ((lo:Int)<(hi:Int))=false:=by simpa using bA
  rw[e1];have e2:cP p f lo hi=lo:=by
   cases f with
   |zero=>rfl
   |succ f=>rw[oX,if_neg bA]
  refine q ao ?_ BD Lk gL;rw[OJ,←hR,e2]
theorem bx.keep(hG:bx G){a:Addr}(h:∀P,keepIn (KP P) (.ref a)=true):keepIn G.K (.ref a)=true:=by
 obtain⟨P,hP⟩:=hG.K;rw[hP];exact h P
theorem CK(hG:bx G){n:Nat}{a:Addr}{vs:List V}{kw:List (Str×V)}{O:Mu}{Q:V→Mu→Prop}(h:aU G n (.ref a) vs kw O Q)(hk:∀P,keepIn (KP P) (.ref a)=true:=by exact fun P=>by kd_p):bD G n (.raw (.ref a)) vs kw O Q:=bD.K (hG.keep hk) h
theorem kL(hG:bx G){n:Nat}{xs:List V}{v:V}{O:Mu}{Q:V→Mu→Prop}(hx:xs[0]?=some v)(bG:xs.length≤100000)(hc:Cl v)(q:Q v O):aU G (n+1) (.ref 220) [.tuple xs] [] O Q:=by
 refine fN hG (st:=pJ) (own:=yf) [(QP,.tuple xs)] (fun P ys ks B Z r rk=>?_) ?_
 ·refine aB.aO r ?_;intro y zz r1 r
  refine aB.bE r ?_;refine aB.bE rk ?_;exact⟨[y],.cons r1 .nil,fun S=>by kd_p⟩
 ·unfold pJ
  k_upd;refine jz hx (by decide) (.of (by exact AV bG)) ⟨hc,?_⟩
  rw[List.take_length];exact q
def mO(O:Mu)(av:V)(xs:List V):Prop:=av=.list xs∨∃j,av=.ml j∧(O[j]?:Option (Option (List V)))=some (some xs)
theorem mO.sub{n:Nat}{O:Mu}{av:V}{xs:List V}(h:mO O av xs){i:Nat}{v:V}{Q:V→Mu→Prop}(hv:xs[i]?=some v)(bG:xs.length≤100000)(q:Q v O):gg G n av (.int i) O Q:=by
 have e:cF (i:Int) xs.length=i:=by unfold cF;rw[if_neg (by exact xH)];rfl
 rcases h with rfl|⟨j,rfl,hj⟩
 ·exact V_at (by rw[e];exact hv) (by exact To bG e) (.of (by exact AV bG)) q
 ·exact xZ hj (by rw[e];exact hv) (by exact To bG e) (.of (by exact AV bG)) q
theorem mO.len{n:Nat}{O:Mu}{av:V}{xs:List V}(h:mO O av xs){Q:V→Mu→Prop}(bG:xs.length≤100000)(q:Q (.int xs.length) O):bD G n (.raw (.builtin "len")) [av] [] O Q:=by
 rcases h with rfl|⟨j,rfl,hj⟩
 ·exact cN (cp.of (by exact AV bG)).ok q
 ·exact fj hj (cp.of (by exact AV bG)).ok q
theorem qI{n:Nat}{O:Mu}{Q:V→Mu→Prop}{av:V}{ns:List Int}{x:Int}(hs:mO O av (ns.map .int))(bG:ns.length≤100000)(q:Q (.int (cP (fun i=>decide (x<ns.getD i 0)) ns.length 0 ns.length)) O):
  aX G bX n dh (bc [] [(gH,av),(mj,.int x),(pH,.int 0),(pI,.none),(lB,.none)]) O (qE O Q):=by
 unfold dh;k_upd;show aX G bX n _ _ O _;k_upd;refine hs.len (by simpa using bG) ?_
 k_upd;rw[List.length_map];refine yn (len:=ns.length) (p:=fun i=>decide (x<ns.getD i 0)) (dir:=true) (.inl ⟨rfl,rfl,rfl⟩) (av:=av) (xv:=.int x) (kv:=.none) (fun i hi U Q h1 h2 h3 h4 q=>?_) rfl rfl rfl rfl rfl fun ao h1 h2 h3 h4=>?_
 ·have e:(ns.map V.int)[i]?=some (.int ns[i]):=by simp[hi]
  have e2:ns.getD i 0=ns[i]:=by simp[List.getD,hi]
  k_upd;refine hs.sub e (by simpa using bG) ?_
  k_upd;rw[e2,beq_true]at q;exact q
 ·k_upd
  exact⟨.int,by rw[List.take_length];exact q⟩
theorem qJ(hG:bx G){n:Nat}{O:Mu}{Q:V→Mu→Prop}{av:V}{ns:List Int}{x:Int}(hs:mO O av (ns.map .int))(bG:ns.length≤100000)(q:Q (.int (cP (fun i=>decide (x<ns.getD i 0)) ns.length 0 ns.length)) O):
  aU G (n+1) (.ref 102) [av,.int x] [] O Q:=by
 refine fN hG (st:=dh) (own:=iV) [(gH,av),(mj,.int x),(pH,.int 0),(pI,.none),(lB,.none)] (fun P ys ks B Z r rk=>?_) (qI hs bG q);refine aB.aO r ?_;intro y zz r1 r;refine aB.aO r ?_;intro z zz r2 r;refine aB.bE r ?_;refine aB.bE rk ?_;exact⟨[y,z,.int 0 325,.none,.none],.cons r1 (.cons r2 (.cons .int (.cons .none (.cons .none .nil)))),fun S=>by kd_p⟩
def Keyed(xs:List V)(sh:Nat→List Int):Prop:=∀ (i:Nat) (v:V),xs[i]?=some v→∃ys:List V,v=V.tuple ys∧ys[0]?=some (V.list ((sh i).map .int))∧ys.length≤100000
theorem jJ(xs:List Int):Cl (.list (xs.map .int)):=.list fun x hx=>by refine aW (List.mem_map.mp hx) ?_;intro i zz z1;subst z1;exact .int
theorem iH(hG:bx G){n:Nat}{O:Mu}{Q:V→Mu→Prop}{av:V}{xs:List V}{sh:Nat→List Int}{x:List Int}(hs:mO O av xs)(hk:Keyed xs sh)(bG:xs.length≤100000)(q:Q (.int (cP (fun i=>fk x (sh i)) xs.length 0 xs.length)) O):
  aX G bX (n+1) dh (bc [] [(gH,av),(mj,.list (x.map .int)),(pH,.int 0),(pI,.none),(lB,.raw (.ref 220))]) O (qE O Q):=by
 unfold dh;k_upd;show aX G bX (n+1) _ _ O _;k_upd;refine hs.len bG ?_;k_upd;refine tY nofun ?_;k_upd;refine yn (len:=xs.length) (p:=fun i=>fk x (sh i)) (dir:=true) (.inl ⟨rfl,rfl,rfl⟩) (av:=av) (xv:=.list (x.map .int)) (kv:=.raw (.ref 220)) (fun i hi U Q h1 h2 h3 h4 q=>?_) rfl rfl rfl rfl rfl fun ao h1 h2 h3 h4=>?_
 ·refine gJ (hk i _ (List.getElem?_eq_getElem hi)) ?_;intro ys e e0 hl
  k_upd;refine hs.sub (List.getElem?_eq_getElem hi) bG ?_;rw[e];k_upd;refine CK hG (kL hG e0 hl (jJ _) ?_);k_upd;refine Ii ?_;k_upd;simpa using q
 ·k_upd
  exact⟨.int,by rw[List.take_length];exact q⟩
theorem nX(hG:bx G){n:Nat}{O:Mu}{Q:V→Mu→Prop}{av:V}{xs:List V}{sh:Nat→List Int}{x:List Int}(hs:mO O av xs)(hk:Keyed xs sh)(bG:xs.length≤100000)(q:Q (.int (cP (fun i=>!fk (sh i) x) xs.length 0 xs.length)) O):
  aX G bX (n+1) jE (bc [] [(gH,av),(mj,.list (x.map .int)),(pH,.int 0),(pI,.none),(lB,.raw (.ref 220))]) O (qE O Q):=by
 unfold jE;k_upd;show aX G bX (n+1) _ _ O _;k_upd;refine hs.len bG ?_;k_upd;refine tY nofun ?_;k_upd;refine yn (len:=xs.length) (p:=fun i=>!fk (sh i) x) (dir:=false) (.inr ⟨rfl,rfl,rfl⟩) (av:=av) (xv:=.list (x.map .int)) (kv:=.raw (.ref 220)) (fun i hi U Q h1 h2 h3 h4 q=>?_) rfl rfl rfl rfl rfl fun ao h1 h2 h3 h4=>?_
 ·refine gJ (hk i _ (List.getElem?_eq_getElem hi)) ?_;intro ys e e0 hl
  k_upd;refine hs.sub (List.getElem?_eq_getElem hi) bG ?_;rw[e];k_upd;refine CK hG (kL hG e0 hl (jJ _) ?_);k_upd;refine Ii ?_;k_upd;simpa using q
 ·k_upd
  exact⟨.int,by rw[List.take_length];exact q⟩
theorem mP(hG:bx G){n:Nat}{O:Mu}{Q:V→Mu→Prop}{av:V}{xs:List V}{sh:Nat→List Int}{x:List Int}(hs:mO O av xs)(hk:Keyed xs sh)(bG:xs.length≤100000)(q:Q (.int (cP (fun i=>fk x (sh i)) xs.length 0 xs.length)) O):
  aU G (n+2) (.ref 102) [av,.list (x.map .int)] [("key",.raw (.ref 220))] O Q:=by
 refine fN hG (st:=dh) (own:=iV) [(gH,av),(mj,.list (x.map .int)),(pH,.int 0),(pI,.none),(lB,.raw (.ref 220))] (fun P ys ks B Z r rk=>?_) (iH hG hs hk bG q);refine aB.aO r ?_;intro y zz r1 r;refine aB.aO r ?_;intro z zz r2 r;refine aB.bE r ?_;refine aB.aO rk ?_;intro k zz r3 rk;refine aB.bE rk ?_;exact⟨[y,z,.int 0 325,.none,k],.cons r1 (.cons r2 (.cons .int (.cons .none (.cons r3 .nil)))),fun S=>by kd_p⟩
theorem mv(hG:bx G){n:Nat}{O:Mu}{Q:V→Mu→Prop}{av:V}{xs:List V}{sh:Nat→List Int}{x:List Int}(hs:mO O av xs)(hk:Keyed xs sh)(bG:xs.length≤100000)(q:Q (.int (cP (fun i=>fk x (sh i)) xs.length 0 xs.length)) O):
  aU G (n+2) (.ref 102) [av,.list (x.map .int),.int 0,.none] [("key",.raw (.ref 220))] O Q:=by
 refine fN hG (st:=dh) (own:=iV) [(gH,av),(mj,.list (x.map .int)),(pH,.int 0),(pI,.none),(lB,.raw (.ref 220))] (fun P ys ks B Z r rk=>?_) (iH hG hs hk bG q);refine aB.aO r ?_;intro y zz r1 r;refine aB.aO r ?_;intro z zz r2 r;refine aB.aO r ?_;intro u zz r4 r;refine aB.aO r ?_;intro w zz r5 r;refine aB.bE r ?_;refine aB.aO rk ?_;intro k zz r3 rk;refine aB.bE rk ?_;exact⟨[y,z,u,w,k],.cons r1 (.cons r2 (.cons r4 (.cons r5 (.cons r3 .nil)))),fun S=>by kd_p⟩
theorem i7(hG:bx G){n:Nat}{O:Mu}{Q:V→Mu→Prop}{av:V}{xs:List V}{sh:Nat→List Int}{x:List Int}(hs:mO O av xs)(hk:Keyed xs sh)(bG:xs.length≤100000)(q:Q (.int (cP (fun i=>!fk (sh i) x) xs.length 0 xs.length)) O):
  aU G (n+2) (.ref 111) [av,.list (x.map .int)] [("key",.raw (.ref 220))] O Q:=by
 refine fN hG (st:=jE) (own:=uo) [(gH,av),(mj,.list (x.map .int)),(pH,.int 0),(pI,.none),(lB,.raw (.ref 220))] (fun P ys ks B Z r rk=>?_) (nX hG hs hk bG q);refine aB.aO r ?_;intro y zz r1 r;refine aB.aO r ?_;intro z zz r2 r;refine aB.bE r ?_;refine aB.aO rk ?_;intro k zz r3 rk;refine aB.bE rk ?_;exact⟨[y,z,.int 0 339,.none,k],.cons r1 (.cons r2 (.cons .int (.cons .none (.cons r3 .nil)))),fun S=>by kd_p⟩
theorem qK(hG:bx G){n:Nat}{O:Mu}{Q:V→Mu→Prop}{j:Nat}{xs:List V}{sh:Nat→List Int}{x:List Int}{rest:List V}(hj:(O[j]?:Option (Option (List V)))=some (some xs))(hk:Keyed xs sh)(bG:xs.length≤100000)(hr:rest.length≤1000)(hc:∀v∈rest,Cl v)
  (hle:cP (fun i=>fk x (sh i)) xs.length 0 xs.length≤xs.length)
  (q:Q .none ((O.set j (some (xs.take (cP (fun i=>fk x (sh i)) xs.length 0 xs.length)++.tuple (.list (x.map .int)::rest)::xs.drop (cP (fun i=>fk x (sh i)) xs.length 0 xs.length)))).take O.length)):
  aX G bX (n+2) iU (bc [] [(gH,.ml j),(mj,.tuple (.list (x.map .int)::rest)),(pH,.int 0),(pI,.none),(lB,.raw (.ref 220))]) O (qE O Q):=by
 have ct:Cl (.tuple (.list (x.map .int)::rest)):=.tuple fun v hv=>by
  rcases List.mem_cons.mp hv with rfl|hv
  ·exact jJ x
  ·exact hc v hv
 unfold iU;k_upd;refine tY nofun ?_;k_upd;refine CK hG (kL hG (n:=n+1) (v:=.list (x.map .int)) rfl (by simp;exact ag 1 0 (aa (ae ab bw) (ae ab (nk 99999))) (by kd_p) hr) (jJ _) ?_)
 k_upd;refine CK hG (mv hG (xs:=xs) (sh:=sh) (.inr ⟨j,rfl,hj⟩) hk bG ?_);k_upd;refine bB ?_;k_upd;refine⟨_,ya hj,?_⟩;k_upd;refine yb hj (by exact Int.natCast_nonneg _) (by exact_mod_cast hle) (gM.of (by exact AV bG)).ok ct ?_
 k_upd
theorem qL(hG:bx G){n:Nat}{O:Mu}{Q:V→Mu→Prop}{j:Nat}{xs:List V}{sh:Nat→List Int}{x:List Int}{rest:List V}(hj:(O[j]?:Option (Option (List V)))=some (some xs))(hk:Keyed xs sh)(bG:xs.length≤100000)(hr:rest.length≤1000)(hc:∀v∈rest,Cl v)
  (hle:cP (fun i=>fk x (sh i)) xs.length 0 xs.length≤xs.length)
  (q:Q .none (O.set j (some (xs.take (cP (fun i=>fk x (sh i)) xs.length 0 xs.length)++.tuple (.list (x.map .int)::rest)::xs.drop (cP (fun i=>fk x (sh i)) xs.length 0 xs.length))))):
  aU G (n+3) (.ref 93) [.ml j,.tuple (.list (x.map .int)::rest)] [("key",.raw (.ref 220))] O Q:=by
 refine fN hG (st:=iU) (own:=sy) [(gH,.ml j),(mj,.tuple (.list (x.map .int)::rest)),(pH,.int 0),(pI,.none),(lB,.raw (.ref 220))] (fun P ys ks B Z r rk=>?_) (qK hG hj hk bG hr hc hle (by rw[List.take_of_length_le (by simp)];exact q))
 refine aB.aO r ?_;intro y zz r1 r;refine aB.aO r ?_;intro z zz r2 r;refine aB.bE r ?_;refine aB.aO rk ?_;intro k zz r3 rk;refine aB.bE rk ?_;exact⟨[y,z,.int 0 312,.none,k],.cons r1 (.cons r2 (.cons .int (.cons .none (.cons r3 .nil)))),fun S=>by kd_p⟩
theorem zR{n:Nat}{O:Mu}{Q:V→Mu→Prop}{a b k:Int}(ha:(Builtin.Int.intBits a:Int)-k≤4000)(hb:b≠0)(hs:b.natAbs.log2<9000)(q:Q (.tuple [.int (a.fdiv b),.int (a.fmod b)]) (O.take O.length)):
  aX G bX n oK (bc [] [(gH,.int a),(mJ,.int b),(jY,.int k)]) O (qE O Q):=by
 unfold oK;k_upd;refine bB ?_;k_upd;refine⟨_,ig,?_⟩;k_upd;refine ij ?_;k_upd;rw[show decide ((Builtin.Int.intBits a:Int)-k≤4000)=true by simpa using ha]
 k_upd;exact Bi hb hs ⟨.tuple (by simp[lM]),q⟩
theorem zS(hG:bx G){n:Nat}{O:Mu}{Q:V→Mu→Prop}{a b k:Int}(ha:(Builtin.Int.intBits a:Int)-k≤4000)(hb:b≠0)(hs:b.natAbs.log2<9000)(q:Q (.tuple [.int (a.fdiv b),.int (a.fmod b)]) O):aU G (n+1) (.ref 49) [.int a,.int b,.int k] [] O Q:=by
 refine fN hG (st:=oK) (own:=Bm) [(gH,.int a),(mJ,.int b),(jY,.int k)] (fun P ys ks B Z r rk=>?_) (zR ha hb hs (by rw[List.take_length];exact q))
 refine aB.aO r ?_;intro y zz r1 r;refine aB.aO r ?_;intro z zz r2 r;refine aB.aO r ?_;intro u zz r3 r;refine aB.bE r ?_;refine aB.bE rk ?_;exact⟨[y,z,u],.cons r1 (.cons r2 (.cons r3 .nil)),fun S=>by kd_p⟩
theorem uD(m:Nat):sliceRange 0 (m:Int) 1=List.range m:=by
 unfold sliceRange
 by_cases h:(0:Int)<m
 ·have h':0<m:=by exact Tp h
  simp[h']
 ·have:m=0:=by exact ag 1 0 (aa (dJ (aK aJ (az ab))) (ax ab b6)) (by kd_p) h
  subst this;simp
theorem rG{τ:Type}(xs:List τ):∀m,(List.range m).filterMap (xs[·]?)=xs.take m
 |0=>by simp
 |m+1=>by
  rw[List.range_succ,List.filterMap_append,rG xs m,List.take_add_one];cases h:xs[m]?<;>simp[h]
theorem oY{τ:Type}(xs:List τ)(b:Nat):pick xs none (some (b:Int)) none=xs.take b:=by
 unfold pick sliceBounds;simp only[Option.getD_none];rw[if_pos (by decide),if_neg (by exact xH:¬ (b:Int)<0)]
 rw[show max 0 (min (b:Int) (xs.length:Int))=((min b xs.length:Nat):Int) by exact ag 2 0 (aS (xF aJ (AS (az af) (az ab))) (az (jS af ab))) (by kd_p)]
 simp only[show((1:Int)>0)=True by simp,if_true]
 rw[uD,rG];rw[List.take_eq_take_iff];exact ag 2 0 (ax (jS (jS af ab) ab) (jS af ab)) (by kd_p)
theorem eN{a b:Int}(ha : -1000000≤a)(BD:a≤1000000)(hb : -1000000≤b)(yo:b≤1000000):Builtin.Range.small a b 1=true:=by
 have BE:(2:Int) ^ 62=4611686018427387904:=by decide
 exact small_one (by rw[BE];exact M4 ha BD) (by rw[BE];exact M5 ha BD) (by rw[BE];exact M4 hb yo) (by rw[BE];exact M5 hb yo)
theorem dA{st:V→aw→Mu→(Fl→aw→Mu→Prop)→Prop}{xs:List V}{Q:Fl→aw→Mu→Prop}(J:Nat→aw→Mu→Prop)
  (step:∀ (i:Nat) (x:V) (U:aw) (O:Mu) (k:Fl→aw→Mu→Prop),xs[i]?=some x→J i U O→(∀ao ar,J (i+1) ao ar→k .next ao ar)→(∀ao ar,Q .next ao ar→k .brk ao ar)→(∀v ao ar,Q (.ret v) ao ar→k (.ret v) ao ar)→st x U O k)
  (fin:∀U O,J xs.length U O→Q .next U O){U:aw}{O:Mu}(h0:J 0 U O):forL st xs U O Q:=by
 have gen:∀ (m i:Nat) (U:aw) (O:Mu),xs.length-i=m→i≤xs.length→J i U O→forL st (xs.drop i) U O Q:=by
  intro m
  induction m with
  |zero=>
   intro i U O hm hi hJ;have:i=xs.length:=by exact ag 2 0 (aa (ax (bb ab af) b6) (aa (ae af ab) (ax af ab))) (by kd_p) hm hi
   subst this;rw[List.drop_length];exact fin _ _ hJ
  |succ m ih=>
   intro i U O hm hi hJ;have bA:i<xs.length:=by exact ag 3 0 (aa (ax (bb af au) (aj ab aC)) (aa (ae au af) (ak au af))) (by kd_p) hm hi
   rw[List.drop_eq_getElem_cons bA];exact step i _ U O _ (List.getElem?_eq_getElem bA) hJ (fun ao ar h=>ih (i+1) ao ar (by exact ag 3 0 (aa (ax (bb au af) (aj ab aC)) (aa (ak af au) (ax (bb au (aj af aC)) ab))) (by kd_p) hm bA) (by exact Gy bA) h) (fun zz zz h=>h) fun zz zz zz h=>h
 have:=gen xs.length 0 U O rfl (Nat.zero_le _) h0
 rwa [List.drop_zero]at this
theorem uE{m i:Nat}(x:V)(h:(cJ 0 (m:Int))[i]?=some x):i<m∧x=.int (i:Int):=by
 unfold cJ at h;rw[List.getElem?_map]at h;cases q:(List.range ((m:Int)-0).toNat)[i]? with
 |none=>rw[q]at h;cases h
 |some j=>
  rw[q]at h;obtain⟨h1,h2⟩:=List.getElem?_eq_some_iff.mp q;simp at h1 h2;subst h2;cases h;exact⟨h1,by simp⟩
noncomputable def iw(i:Nat)(cs:List Int)(x:Int):List Int:=cs.set (i%6) (cs.getD (i%6) 0+(if 0≤x then x.fmod (10 ^ 6) else -((-x).fmod (10 ^ 6))))
noncomputable def jK:Nat→List Int→List Int→List Int
 |_,cs,[]=>cs
 |i,cs,x::xs=>jK (i+1) (iw i cs x) xs
noncomputable def cellsOf(LH:List Int):List Int:=jK 0 [-3,4,2,4,0,5137] (LH.take 60)
theorem vR{n:Nat}{O:Mu}{Q:V→Mu→Prop}{xs:List Int}(hx:xs.length≤100000)(q:Q (.list ((cellsOf xs).map .int)) O):
  aX G bX n lE (bc [] [(wG,.list (xs.map .int))]) O (wJ O Q):=by
 unfold lE;k_upd;refine⟨.of (by decide),(by simp[lM]),?_⟩
 k_upd;refine tZ (xs:=xs.map .int) (lo:=none) (hi:=some 60) (st:=none) (by decide) (.of (by simp;exact AV hx)) ?_
 rw[show(60:Int)=((60:Nat):Int) from rfl,oY,←List.map_take];k_upd;refine cN (cp.of (by simp;exact ag 1 0 (aa (ae ab (nk 100000)) (ae (jS (nk 60) ab) aQ)) (by kd_p) hx)).ok ?_
 k_upd;refine d5 ?_;refine⟨_,Iter.gE (eN (by decide) (by decide) (by exact M6) (by simp;exact ag 1 0 (aa (ae ab (nk 100000)) (ai (az (jS (nk 60) ab)) (zk 1000000))) (by kd_p) hx)),?_⟩
 generalize jb:xs.take 60=ns;have hl:ns.length≤60:=by rw[←jb];simp;exact ag 1 0 (aa (ae ab (nk 100000)) (ae (jS (nk 60) ab) (nk 60))) (by kd_p) hx
 rw[List.length_map];refine dA (fun i ao ar=>∃cs:List Int,cs.length=6∧ar=O++[some (cs.map .int)]∧get ao 60=some (.ml O.length)∧get ao 61=some (.list (ns.map .int))∧jK i cs (ns.drop i)=jK 0 [-3,4,2,4,0,5137] ns)
  (fun i x ao ar k hx hJ hn hb hr=>?_) (fun ao ar hJ=>?_) ⟨_,rfl,rfl,rfl,rfl,rfl⟩
 ·obtain⟨hi,rfl⟩:=uE x hx
  refine C8 hJ ?_;clear hJ;intro cs cj z1;subst z1;intro EU Vi b7;have yq:get (set ao 56 (.int i)) 60=some (.ml O.length):=gn EU;have Ze:get (set ao 56 (.int i)) 61=some (.list (ns.map .int)):=gn Vi;have g56:get (set ao 56 (.int i)) 56=some (.int i):=gs;k_upd;have iy:((O++[some (cs.map .int)])[O.length]?:Option (Option (List V)))=some (some (cs.map .int)):=by simp
  have e6:(i:Int).fmod 6=((i%6:Nat):Int):=by rw[Int.fmod_eq_emod_of_nonneg _ (by decide)];rfl
  have h6:i%6<cs.length:=by exact Tq cj e6
  have ix:∀m:Nat,∀l:Nat,cF (m:Int) l=m:=fun m l=>by unfold cF;rw[if_neg (by exact xH)];rfl
  have hv:(cs.map V.int)[cF ((i%6:Nat):Int) (cs.map V.int).length]?=some (.int (cs.getD (i%6) 0)):=by rw[ix];simp[List.getD,h6]
  have EV:(ns.map V.int)[cF (i:Int) (ns.map V.int).length]?=some (.int ns[i]):=by rw[ix];simp[hi]
  have lc:cp (cs.map V.int).length:=.of (by simp;exact ag 1 0 (aa (ax ab (nk 6)) (ae ab aQ)) (by kd_p) cj)
  have ln:cp (ns.map V.int).length:=.of (by simp;exact ag 1 0 (aa (ae ab (nk 60)) (ae ab aQ)) (by kd_p) hl)
  have Vj:pC 10 6:=pC.sz (k:=4) (by unfold Sz;decide) (by decide) 6 (by decide) (by decide)
  have Vk:(10:Int) ^ (6:Int).toNat≠0:=by decide
  have put:∀y:Int,y=(if 0≤ns[i] then ns[i].fmod (10 ^ 6) else -((-ns[i]).fmod (10 ^ 6)))→qx G bX n (Tg.sub (E.var 60) (E.bin Operator.Mod (E.var 56) (E.int 6))) (.int (cs.getD (i%6) 0+y)) (set ao 56 (V.int ↑i)) (O++[some (cs.map .int)]) fun a9 aA=>aX G bX n .nil a9 aA k:=by
   rintro y rfl;k_upd;refine dD (by decide) ?_
   rw[e6];refine x3 iy (by exact Int.natCast_nonneg _) (by simp;exact Tr cj e6) lc .int (eG ?_)
   refine hn _ _ ⟨iw i cs ns[i],by simp[iw,cj],?_,yq,Ze,?_⟩
   ·rw[show((i%6:Nat):Int).toNat=i%6 from rfl];simp[iw,List.map_set]
   ·rw[List.drop_eq_getElem_cons hi]at b7
    exact b7
  refine dD (by decide) ?_
  rw[e6];refine xZ iy hv (by exact Tt e6) lc ?_
  k_upd;refine V_at EV (by exact Gz hl hi e6) ln ?_
  k_upd
  by_cases hp:0≤ns[i]
  ·rw[show decide (0≤ns[i])=true by simpa using hp]
   k_upd;refine V_at EV (by exact Gz hl hi e6) ln ?_
   k_upd;refine qr Vj ?_;refine dD Vk ?_;refine A7 ?_;exact put _ (by rw[if_pos hp];rfl)
  ·rw[show decide (0≤ns[i])=false by simpa using hp]
   k_upd;refine V_at EV (by exact Gz hl hi e6) ln ?_
   k_upd;refine qr Vj ?_;refine dD Vk ?_;refine HN ?_;refine A7 ?_;exact put _ (by rw[if_neg hp];rfl)
 ·refine C8 hJ ?_;clear hJ;intro cs cj z1;subst z1;intro EU Vi b7
  k_upd;refine⟨_,.ml (xs:=cs.map .int) (Nat.le_refl _) (by simp),?_⟩
  have:cs=cellsOf xs:=by
   unfold cellsOf;rw[jb,←b7];simp[cJ,jK]
  rw[this];simpa using q
theorem vS(hG:bx G){n:Nat}{xs:List Int}{O:Mu}{Q:V→Mu→Prop}(hx:xs.length≤100000)(q:Q (.list ((cellsOf xs).map .int)) O):aU G (n+1) (.ref 184) [.list (xs.map .int)] [] O Q:=by
 refine yh hG (st:=lE) (own:=ye) [(wG,.list (xs.map .int))] (fun P ys ks B Z r rk=>?_) (vR hx q);refine aB.aO r ?_;intro y zz r1 r;refine aB.bE r ?_;refine aB.bE rk ?_;exact⟨[y],.cons r1 .nil,fun S=>by kd_p⟩
theorem tX.small{x:Str}{n:Int}(hx:x.length≤1000)(h0 : -1000≤n)(hn:n≤1000):tX x n:=by
 refine⟨?_,?_,?_⟩
 ·have zT:(2:Int) ^ 63=9223372036854775808:=by decide
  rw[zT];simp;exact ag 0 1 (aa (ai (zk (-1000)) aq) (aa (ai aq (zk 1000)) (aT (ai (zk (-9223372036854775808)) aq) (aK aq (zk 9223372036854775808))))) (by kd_p) h0 hn
 ·intro h1 zz h2
  have zT:(2:Int) ^ 63=9223372036854775808:=by decide
  rw[zT]at h2;have:(1000:Int)≤(9223372036854775808-1)/n:=by
   rw[Int.le_ediv_iff_mul_le (by exact ag 0 1 (aa (ai (zk (-1000)) aq) (aa (ai aq (zk 1000)) (aa (dJ (aK aq bV)) (aK aJ aq)))) (by kd_p) h0 hn h1)]
   exact ag 0 1 (aa (ai (zk (-1000)) aq) (aa (ai aq (zk 1000)) (aa (dJ (aK aq bV)) (ai (xG 1000 aq) (bR (zk 9223372036854775808) bV))))) (by kd_p) h0 hn h1
  exact ag 1 1 (aa (ae ab bw) (aa (aK aq (az ab)) (aa (ai (zk 1000) aq) KH))) (by kd_p) hx h2 this
 ·intro h1 zz
  have:x.length*n.toNat≤1000*1000:=Nat.mul_le_mul hx (by exact ag 0 1 (aa (ai (zk (-1000)) aq) (aa (ai aq (zk 1000)) (aa (dJ (aK aq bV)) (ae (dB aq) bw)))) (by kd_p) h0 hn h1)
  unfold PySem.Builtin.Str.tooLong;rw[sizeLine_eq];simp;exact ag 1 0 (aa (ae ab (cZ 1000 bw)) (ae ab bq)) (by kd_p) this
theorem lg(c:Nat)(n:Int):(Txt.mul ⟨#[c]⟩ n).length=n.toNat:=by
 have:=congrArg List.length (PyProof.Rows.mul_one_list c n);simpa[Str.length] using this
theorem l4.small{a b:Str}(ha:a.length≤1000000)(hb:b.length≤1000000):l4 a b:=⟨by rw[sizeLine_eq];exact ag 2 0 (aa (ae af aQ) (aa (ae ab aQ) (ae (aj af ab) bq))) (by kd_p) ha hb⟩
noncomputable def kM:List Str:=[Str.ofString "",Str.ofString "\")\"",Str.ofString "\\(",Str.ofString "a",Str.ofString "\"(\"",Str.ofString "\\)",Str.ofString "\\\\",Str.ofString "\\\""]
noncomputable def pieceOf(upper hide:Int)(k:Nat)(l:Int):Str:=if l=upper then Str.ofString "(" else if l=upper+1 then Str.ofString ")" else kM.getD ((hide+3*(k:Int)).emod 8).toNat (Str.ofString "")
noncomputable def ji(upper hide:Int):Nat→Str→List Int→Str
 |_,t,[]=>t
 |k,t,l::ls=>ji upper hide (k+1) (t++pieceOf upper hide k l) ls
noncomputable def textOf(ls:List Int)(rise upper hide:Int):Str:=
 ji upper hide 0 (Txt.mul (Str.ofString "(") rise) ls++Txt.mul (Str.ofString ")") (rise+(ls.count upper:Nat)-(ls.count (upper+1):Nat))
theorem yr{n:Nat}{O:Mu}{Q:V→Mu→Prop}{ls:List Int}{rise upper hide:Int}(hl:ls.length≤100)(hr : -100≤rise∧rise≤100)(q:Q (.str (textOf ls rise upper hide)) O):
  aX G bX n mK (bc [] [(oJ,.list (ls.map .int)),(yc,.int rise),(um,.int upper),(yd,.int hide)]) O (qE O Q):=by
 unfold mK;k_upd;refine⟨.of (by decide),?_⟩
 k_upd;refine tc (tX.small (by decide) (by exact ag 0 1 (aa (aT (ai (zk (-100)) aq) (ai aq dm)) (ai (zk (-1000)) aq)) (by kd_p) hr) (by exact ag 0 1 (aa (aT (ai (zk (-100)) aq) (ai aq dm)) (ai aq (zk 1000))) (by kd_p) hr)) ?_
 k_upd;refine cN (cp.of (by simp;exact GA hl)).ok ?_
 k_upd;refine d5 ?_;refine⟨_,Iter.gE (eN (by decide) (by decide) (by exact M6) (by simp;exact ag 1 0 (aa (ae ab cy) (ai (az ab) (zk 1000000))) (by kd_p) hl)),?_⟩
 rw[List.length_map];refine dA (fun i ao ar=>∃t:Str,t.length≤100+3*i∧ar=O∧get ao Lv=some (.str t)∧get ao oJ=some (.list (ls.map .int))∧get ao um=some (.int upper)∧get ao yd=some (.int hide)∧get ao yc=some (.int rise) ∧
   get ao Lw=some (.list (kM.map .str))∧ji upper hide i t (ls.drop i)=ji upper hide 0 (Txt.mul (Str.ofString "(") rise) ls)
  (fun i x ao ar k hx hJ hn hb hr=>?_) (fun ao ar hJ=>?_) ⟨_,?_,rfl,rfl,rfl,rfl,rfl,rfl,rfl,rfl⟩
 ·obtain⟨hi,rfl⟩:=uE x hx
  refine q7 hJ ?_;clear hJ;intro t ht z1;subst z1;intro h1 h2 h3 h4 h5 h6 b7;have g1:get (set ao 80 (.int i)) 90=some (.str t):=gn h1;have g2:get (set ao 80 (.int i)) 92=some (.list (ls.map .int)):=gn h2;have g3:get (set ao 80 (.int i)) 93=some (.int upper):=gn h3;have g4:get (set ao 80 (.int i)) 95=some (.int hide):=gn h4;have g5:get (set ao 80 (.int i)) 91=some (.int rise):=gn h5;have g6:get (set ao 80 (.int i)) 94=some (.list (kM.map .str)):=gn h6;have g7:get (set ao 80 (.int i)) 80=some (.int i):=gs;have ix:∀m:Nat,∀l:Nat,cF (m:Int) l=m:=fun m l=>by unfold cF;rw[if_neg (by exact xH)];rfl
  have EV:(ls.map V.int)[cF (i:Int) (ls.map V.int).length]?=some (.int ls[i]):=by rw[ix];simp[hi]
  have ln:cp (ls.map V.int).length:=.of (by simp;exact GA hl)
  have put:∀p:Str,p.length≤3→p=pieceOf upper hide i ls[i]→k .next (set (set ao 80 (.int i)) 90 (.str (t++p))) ar:=by
   rintro p hp rfl;refine hn _ _ ⟨t++pieceOf upper hide i ls[i],?_,rfl,?_,?_,?_,?_,?_,?_,?_⟩
   ·rw[strLen_append];exact ag 4 0 (aa (ak af ab) (aa (ae aM (aj cy (cZ 3 af))) (aa (ae au cm) (ae (aj aM au) (aj cy (cZ 3 (aj af aC))))))) (by kd_p) hi ht hp
   all_goals first|(rw[get_set];first|rfl|assumption)|skip
   rw[List.drop_eq_getElem_cons hi]at b7;exact b7
  k_upd;refine V_at EV (by exact M7 hl hi) ln ?_
  k_upd;have e1:ls[i]=upper→pieceOf upper hide i ls[i]=Str.ofString "(":=fun h=>by unfold pieceOf;rw[if_pos h]
  have e2:ls[i]≠upper→ls[i]=upper+1→pieceOf upper hide i ls[i]=Str.ofString ")":=fun h h'=>by unfold pieceOf;rw[if_neg h,if_pos h']
  by_cases hu:ls[i]=upper
  ·rw[show(ls[i]==upper)=true by simpa using hu]
   k_upd;refine jc (l4.small (by exact GB hl hi ht) (by decide)) ?_
   k_upd;exact put _ (by decide) (e1 hu).symm
  ·rw[show(ls[i]==upper)=false by simpa using hu]
   k_upd;refine V_at EV (by exact M7 hl hi) ln ?_
   k_upd
   by_cases EW:ls[i]=upper+1
   ·rw[show(ls[i]==upper+1)=true by simpa using EW]
    k_upd;refine jc (l4.small (by exact GB hl hi ht) (by decide)) ?_
    k_upd;exact put _ (by decide) (e2 hu EW).symm
   ·rw[show(ls[i]==upper+1)=false by simpa using EW]
    k_upd;refine gh (gZ.sz (j:=3) (k:=10) (by unfold Sz;decide) (kK (m:=200) (by exact ag 1 0 (aK (cI (az (nk 200))) (az ab)) (by kd_p)) (by exact ag 2 0 (aa (ae ab cy) (aa (ak af ab) (aK (az af) (az (nk 200))))) (by kd_p) hl hi) (by decide)) (by decide)) ?_
    k_upd;refine dD (by decide) ?_
    obtain⟨j,hj⟩:∃j:Nat,(hide+3*(i:Int)).emod 8=(j:Int):=⟨((hide+3*(i:Int)).emod 8).toNat,by have:=Int.emod_nonneg (hide+3*(i:Int)) (by decide:(8:Int)≠0);exact(Int.toNat_of_nonneg this).symm⟩
    have Rk:j<8:=by have:=Int.emod_lt_of_pos (hide+3*(i:Int)) (by decide:(0:Int)<8);have h2:(hide+3*(i:Int))%8=(j:Int):=hj;exact Tu this h2
    have ef:(hide+3*(i:Int)).fmod 8=(j:Int):=by rw[Int.fmod_eq_emod_of_nonneg _ (by decide)];exact hj
    rw[ef];have hm:kM.length=8:=rfl;have EX:(kM.map V.str)[cF (j:Int) (kM.map V.str).length]?=some (.str (kM.getD j (Str.ofString ""))):=by
     rw[ix,List.getElem?_map];simp[List.getD,List.getElem?_eq_getElem (show j<kM.length by exact ag 2 1 (aa (ak af (nk 8)) (aa (aS aq (az af)) (aa (ax ab (nk 8)) (ak af ab)))) (by kd_p) Rk ef hm)]
    refine V_at EX (by exact ag 2 1 (aa (ak ab (nk 8)) (aa (aS aq (az ab)) (ai (cI (az af)) (az ab)))) (by kd_p) Rk ef) (.of (by decide)) ?_
    have el:(kM.getD j (Str.ofString "")).length≤3:=by
     have:∀j,j<8→(kM.getD j (Str.ofString "")).length≤3:=by decide
     exact this j Rk
    refine jc (l4.small (by exact GB hl hi ht) (by exact ag 1 0 (aa (ae ab cm) (ae ab aQ)) (by kd_p) el)) ?_
    k_upd;refine put _ el ?_;unfold pieceOf;rw[if_neg hu,if_neg EW,hj]
    rfl
 ·refine q7 hJ ?_;clear hJ;intro t ht z1;subst z1;intro h1 h2 h3 h4 h5 h6 b7
  have hlen:(cJ 0 (ls.length:Int)).length=ls.length:=by simp[cJ]
  rw[hlen]at ht b7;rw[List.drop_length]at b7;have c1:ls.count upper≤ls.length:=List.count_le_length;have c2:ls.count (upper+1)≤ls.length:=List.count_le_length;k_upd;refine bB ?_;k_upd;refine⟨_,dw,?_⟩;k_upd;refine dT ?_;k_upd;refine bB ?_;k_upd;refine⟨_,dw,?_⟩;k_upd;refine dT ?_;k_upd;refine tc (tX.small (by decide) (by exact ag 4 1 (aa (ae af cy) (aa (aT (ai (zk (-100)) aq) (ai aq dm)) (aa (ax ab af) (aa (ae au af) (ai (zk (-1000)) (bR (bh aq (az aM)) (az au))))))) (by kd_p) hl hr hlen c2) (by exact ag 4 1 (aa (ae af cy) (aa (aT (ai (zk (-100)) aq) (ai aq dm)) (aa (ax ab af) (aa (ae aM af) (ai (bR (bh aq (az aM)) (az au)) (zk 1000)))))) (by kd_p) hl hr hlen c1)) ?_
  have el:(Txt.mul (Str.ofString ")") (rise+(ls.count upper:Nat)-(ls.count (upper+1):Nat))).length≤1000:=by
   show(Txt.mul ⟨#[41]⟩ _).length≤1000;rw[lg];exact ag 4 1 (aa (ae af cy) (aa (aT (ai (zk (-100)) aq) (ai aq dm)) (aa (ax ab af) (aa (ae aM af) (ae (dB (bR (bh aq (az aM)) (az au))) bw))))) (by kd_p) hl hr hlen c1
  refine jc (l4.small (by exact ag 3 0 (aa (ae af cy) (aa (ae au (aj cy (cZ 3 af))) (aa (ax ab af) (ae au aQ)))) (by kd_p) hl ht hlen) (by exact tA el)) ?_
  refine⟨.str,?_⟩;rw[List.take_length];have:t=ji upper hide 0 (Txt.mul (Str.ofString "(") rise) ls:=by rw[←b7];rfl
  rw[this];exact q
 ·show(Txt.mul ⟨#[40]⟩ rise).length≤_
  rw[lg];exact ag 0 1 (aa (aT (ai (zk (-100)) aq) (ai aq dm)) (ae (dB aq) (aj cy (cZ 3 b6)))) (by kd_p) hr
theorem yt(hG:bx G){n:Nat}{ls:List Int}{rise upper hide:Int}{O:Mu}{Q:V→Mu→Prop}(hl:ls.length≤100)(hr : -100≤rise∧rise≤100)(q:Q (.str (textOf ls rise upper hide)) O):aU G (n+1) (.ref 208) [.list (ls.map .int),.int rise,.int upper,.int hide] [] O Q:=by
 refine fN hG (st:=mK) (own:=zI) [(oJ,.list (ls.map .int)),(yc,.int rise),(um,.int upper),(yd,.int hide)] (fun P ys ks B Z r rk=>?_) (by with_reducible exact yr hl hr q)
 refine aB.aO r ?_;intro y zz r1 r;refine aB.aO r ?_;intro z zz r2 r;refine aB.aO r ?_;intro u zz r3 r;refine aB.aO r ?_;intro w zz r4 r;refine aB.bE r ?_;refine aB.bE rk ?_;exact⟨[y,z,u,w],.cons r1 (.cons r2 (.cons r3 (.cons r4 .nil))),fun S=>by kd_p⟩
noncomputable def cQ(N:Int):List Int→Int
 |[]=>0
 |d::r=>d+N*cQ N r
theorem lN(N:Int):∀xs ys:List Int,cQ N (xs++ys)=cQ N xs+N ^ xs.length*cQ N ys
 |[],ys=>by simp[cQ]
 |d::r,ys=>by
  rw[List.cons_append,cQ,cQ,lN N r ys,List.length_cons,Int.pow_succ,Int.mul_add,Int.add_assoc,Int.mul_comm (N ^ r.length) N,Int.mul_assoc]
theorem rH{N:Int}(hN:0<N):∀ {ds:List Int},(∀d∈ds,0≤d∧d<N)→0≤cQ N ds∧cQ N ds<N ^ ds.length
 |[],_=>⟨Int.le_refl _,by simp[cQ]⟩
 |d::r,h=>by
  obtain⟨h1,h2⟩:=h d (.head _);obtain⟨i1,i2⟩:=rH hN (ds:=r) fun x m=>h x (.tail _ m);rw[cQ,List.length_cons,Int.pow_succ,Int.mul_comm (N ^ r.length) N];have e1:0≤N*cQ N r:=Int.mul_nonneg (Int.le_of_lt hN) i1;have e2:N*(cQ N r+1)≤N*N ^ r.length:=Int.mul_le_mul_of_nonneg_left (by exact ag 0 2 (aa (aK aN aq) (ai (bh aN bV) aq)) (by kd_p) i2) (Int.le_of_lt hN)
  rw[Int.mul_add,Int.mul_one]at e2;exact⟨by exact ag 0 2 (aa (ai aJ aN) (aa (ai aJ aq) (ai aJ (bh aN aq)))) (by kd_p) h1 e1,by exact ag 0 4 (aa (aK fy aq) (aa (ai (bh cu aq) aN) (aK (bh fy cu) aN))) (by kd_p) h2 e2⟩
noncomputable def seg{τ:Type}(ds:List τ)(L R:Nat):List τ:=(ds.drop L).take (R-L)
theorem IC{τ:Type}{ds:List τ}{L:Nat}(h:L<ds.length):seg ds L (L+1)=[ds[L]]:=by
 unfold seg;rw[show L+1-L=1 by exact GC,List.drop_eq_getElem_cons h]
 rfl
theorem BF{τ:Type}{ds:List τ}{L m R:Nat}(h1:L≤m)(h2:m≤R):seg ds L R=seg ds L m++seg ds m R:=by
 unfold seg;rw[show R-L=(m-L)+(R-m) by exact ag 3 0 (aa (ae af ab) (aa (ae ab au) (ax (bb au af) (aj (bb ab af) (bb au ab))))) (by kd_p) h1 h2,List.take_add,List.drop_drop]
 congr 3;exact ag 2 0 (aa (ae af ab) (ax (aj af (bb ab af)) ab)) (by kd_p) h1
theorem ID{τ:Type}(ds:List τ):seg ds 0 ds.length=ds:=by unfold seg;simp
theorem zU{τ:Type}{ds:List τ}{L R:Nat}(h:R≤ds.length):(seg ds L R).length=R-L:=by unfold seg;simp;exact ag 3 0 (aa (ae au ab) (ax (jS (bb au af) (bb ab af)) (bb au af))) (by kd_p) h
theorem IE{τ:Type}{ds:List τ}{L R:Nat}{d:τ}(h:d∈seg ds L R):d∈ds:=List.mem_of_mem_drop (List.mem_of_mem_take h)
theorem Sz.of_lt{k:Nat}{a:Int}(h0:0≤a)(h:a<2 ^ k):Sz k a:=by
 unfold Sz;have e:((a.natAbs:Nat):Int)=a:=Int.natAbs_of_nonneg h0;have e2:((2 ^ k:Nat):Int)=(2:Int) ^ k:=by simp
 exact ag 1 2 (aa (aK aN aq) (aa (aS (az (ja aN)) aN) (aa (aS (az ab) aq) (ak (ja aN) ab)))) (by kd_p) h e e2
theorem wt.sz{k m:Nat}{a:Int}(h:Sz k a)(hs:k+m≤100000000):wt a (m:Int):=by
 refine⟨by exact Int.natCast_nonneg _,?_⟩
 have:=h.bits;have h3:(2:Int) ^ 27=134217728:=by decide
 exact ag 3 0 (aa (ae (aj ab af) (nk 100000000)) (aa (ae au ab) (ai (bh (az au) (az af)) (zk (2 ^ 27))))) (by kd_p) hs this
theorem Dw{L R:Nat}:(((L:Int)+R).fdiv (2 ^ (1:Int).toNat))=(((L+R)/2:Nat):Int):=by
 rw[Int.fdiv_eq_ediv_of_nonneg _ (by decide)]
 rfl
theorem zV{n:Nat}{O:Mu}{Q:V→Mu→Prop}{ds:List Int}{w:Nat}{f0:Addr}{L R:Nat}(hw:w≤5000)(hl:ds.length≤300)(hd:∀d∈ds,0≤d∧d<2 ^ w)(oZ:L<R)(hR:R≤ds.length)
  (ih:∀L' R':Nat,L'<R'→R'≤ds.length→R'-L'<R-L→∀Q':V→Mu→Prop,Q' (.int (cQ (2 ^ w) (seg ds L' R'))) O→bD G n (.raw (.ref f0)) [.int L',.int R'] [] O Q')
  (q:Q (.int (cQ (2 ^ w) (seg ds L R))) O):
  aX G bX n il (bc (bc [] [(eT,.list (ds.map .int)),(cq,.raw (.ref f0)),(jY,.int w)]) [(mq,.int L),(mn,.int R)]) O (qE O Q):=by
 unfold il;k_upd
 by_cases h1:L+1=R
 ·subst h1
  rw[show((L:Int)+1==((L+1:Nat):Int))=true by simp]
  k_upd;have hv:(ds.map V.int)[cF (L:Int) (ds.map V.int).length]?=some (.int ds[L]):=by
   unfold cF;rw[if_neg (by exact xH)]
   simp[oZ,show L<ds.length by exact CW hR]
  refine V_at hv (by exact ag 3 0 (aa (ae ab cS) (aa (ae (aj af aC) ab) (ai (cI (az au)) (az af)))) (by kd_p) hl hR) (.of (by simp;exact CX hl)) ?_
  refine⟨.int,?_⟩;rw[List.take_length];rw[IC (by exact CW hR)]at q
  simpa[cQ] using q
 ·rw[show((L:Int)+1==(R:Int))=false by simp;exact M8 h1]
  k_upd;refine A9 (by decide) ?_
  rw[Dw];have o3:L<(L+R)/2:=by exact M9 oZ h1
  have gP:(L+R)/2<R:=by exact PC oZ
  generalize (L+R)/2=m at o3 gP;k_upd;have e1:(m:Int)-L=((m-L:Nat):Int):=by exact Na o3
  rw[e1];refine gh (gZ.sz (j:=10) (k:=13) (kK (m:=400) (by exact Nb o3 e1) (by exact Nc hl hR gP e1) (by decide)) (kK (m:=5001) (by exact Nd hw) (by exact Nf hw) (by decide)) (by decide)) ?_
  rw[show(((m-L:Nat):Int)*(w:Int))=(((m-L)*w:Nat):Int) by simp]
  k_upd;refine ih m R gP hR (by exact Ng oZ o3 gP e1) _ ?_
  k_upd;have b1:=rH (N:=2 ^ w) (Int.pow_pos (by decide)) (ds:=seg ds m R) fun d fL=>hd d (IE fL)
  have Vl:(R-m)*w≤300*5000:=Nat.mul_le_mul (by exact ag 4 0 (aa (ae af cS) (aa (ak ab aM) (aa (ae aM af) (aa (ak ab au) (aa (ak au aM) (aa (aS (bR (az au) (az ab)) (az (bb au ab))) (ae (bb aM au) cS))))))) (by kd_p) hl oZ hR o3 gP e1) hw
  have Hu:(m-L)*w≤300*5000:=Nat.mul_le_mul (by exact Nh hl hR gP e1) hw
  rw[zU hR,←Int.pow_mul]at b1;refine A8 (wt.sz (k:=w*(R-m)) (.of_lt b1.1 b1.2) (by rw[Nat.mul_comm];exact ag 2 0 (aa (ae af (cZ 300 (nk 5000))) (aa (ae ab (cZ 300 (nk 5000))) (ae (aj af ab) (nk 100000000)))) (by kd_p) Vl Hu)) ?_
  k_upd;refine ih L m o3 (by exact GD hR gP) (by exact Ni oZ gP e1) _ ?_
  k_upd;refine⟨.int,?_⟩;rw[List.take_length];rw[BF (Nat.le_of_lt o3) (Nat.le_of_lt gP),lN,zU (by exact GD hR gP),←Int.pow_mul]at q
  rw[show((((m-L)*w:Nat):Int)).toNat=w*(m-L) by rw[Int.toNat_natCast,Nat.mul_comm]]
  rw[Int.mul_comm (cQ _ _),Int.add_comm];exact q
theorem LI{lI q:Str}{y:Stmt}{bd:List Stmt}{sc:Scope}{cO:List (Str×Addr)}(hG:bx G){u v:V}:
  ∀ (s:Shared) (xs:List Value) (c ct d pm:Value) (B:ay) (Z:List Addr),aB B Z [u,v] xs→∃binds,BindsTo s {qF lI q (pL [mq,mn] y) bd sc cO with code:=c,closureTuple:=ct,doc:=d,pyModule:=pm} ⟨xs,[]⟩ binds∧gb (G:=G) B Z binds [(mq,u),(mn,v)]:=by
 intro s xs c ct d pm B Z r;refine aB.aO r ?_;intro x zz r1 r;refine aB.aO r ?_;intro z zz r2 r;refine aB.bE r ?_;refine⟨[(aI mq,x),(aI mn,z)],.of_eq (by kd_p),?_⟩
 rw[←hG.nm,←hG.nm];exact .cons r1 (.cons r2 .nil)
theorem LJ{lI q:Str}{y:Stmt}{bd:List Stmt}{sc:Scope}{cO:List (Str×Addr)}(hG:bx G){u v z:V}:
  ∀ (s:Shared) (xs:List Value) (cd ct d pm:Value) (B:ay) (Z:List Addr),aB B Z [u,v,z] xs→∃binds,BindsTo s {qF lI q (pL [mj,mq,mn] y) bd sc cO with code:=cd,closureTuple:=ct,doc:=d,pyModule:=pm} ⟨xs,[]⟩ binds∧gb (G:=G) B Z binds [(mj,u),(mq,v),(mn,z)]:=by
 intro s xs cd ct d pm B Z r;refine aB.aO r ?_;intro x zz r1 r;refine aB.aO r ?_;intro y' zz r2 r;refine aB.aO r ?_;intro t zz r3 r;refine aB.bE r ?_;refine⟨[(aI mj,x),(aI mq,y'),(aI mn,t)],.of_eq (by kd_p),?_⟩
 rw[←hG.nm,←hG.nm,←hG.nm];exact .cons r1 (.cons r2 (.cons r3 .nil))
noncomputable def BG(K:Frag)(a t c l o:Nat)(qn:Str)(mu own:List Nat)(st:Ss)(y:Stmt):Bool:=
 Iq (iG y).2.2 mu own&&cX aI st (iG y).2.2 own (iG y).2.1&&y.pos.line==l&&y.pos.col==o&&(ba K a).code == .ref c&&codeHdIn K c t&&mu.all (fun z=>(ba K a).scope.names.lookup (aI z)==some .cell)&&(ba K a).qualname==qn
noncomputable abbrev IF(x:Nat)(q:Str)(ps:List Nat)(y:Stmt)(env:Env):V:=.fn (qF (aI x) q (pL ps y) (iG y).2.1 (iG y).2.2 (cL env.cells (iG y).2.2.names []))
theorem Dx(hG:bx G){P:Params}{n a t c l o x:Nat}{env:Env}{own IG mu ps:List Nat}{q qn:Str}{st:Ss}{y:Stmt}{rest:List Stmt}{U:aw}{O:Mu}{Q:Fl→aw→Mu→Prop}(b:BG (KP P) a t c l o qn mu IG st y=true)
  (hP:G.K=KP P)(hs:env.scope=(ba (KP P) a).scope)(hc:env.code=(ba (KP P) a).code)(zW:env.qual=(ba (KP P) a).qualname++".<locals>.")(ent:jf t l o q)(hq:qn++".<locals>."++aI x=q)(hx:x∈mu)(ho:x∈own)
  (ha:annTrees (pL ps y) none env=[])
  (h:EN (iG y).2.2 mu IG→cX aI st (iG y).2.2 IG (iG y).2.1=true→(∀z∈mu,env.kindOf (aI z)=some .cell)→cn G n env own (execs rest env) (set U x (IF x q ps y env)) O Q):cn G n env own (execs (Bt x ps y::rest) env) U O Q:=by
 have hS:=Ir (aL (aL (aL (aL (aL (aL (aL b)))))));have hk:∀z∈mu,env.kindOf (aI z)=some .cell:=fun z m=>by
  unfold Env.kindOf;rw[hs];exact eq_of_beq (List.all_eq_true.mp (aR (aL b)) z m)
 refine j5 (Q2 hG (P:=t) (c:=c) (q:=q) (x:=x) (by rw[eq_of_beq (aR (aL (aL (aL (aL (aL b)))))),eq_of_beq (aR (aL (aL (aL (aL b)))))];exact ent) (hG.nm _) ⟨ho,.inr (by rw[hG.nm];exact hk x hx)⟩ rfl rfl ha (hc.trans (eq_of_beq (aR (aL (aL (aL b)))))) (by rw[hP];exact aR (aL (aL b))) ?_ (fun p hp hf=>?_) (h hS (aR (aL (aL (aL (aL (aL (aL b))))))) hk))
 ·unfold qualnameIn
  rw[hk x hx,zW,eq_of_beq (aR b)];exact hq
 ·refine aW (hS.all p hp hf) ?_;intro z hz e
  rw[←e];exact hk z hz
theorem rI(hG:bx G){lI q:Str}{y:Stmt}{sc:Scope}{cO:List (Str×Addr)}{O:Mu}{ds:List Int}{w:Nat}{f0:Addr}
  (hS:EN sc [eT,cq,jY] gz)(oS:cX aI il sc gz (iG y).2.1=true)(Bv:dS aI il (iG y).2.1=(iG y).2.1)
  (hC:Dt G cO [(eT,.list (ds.map .int)),(cq,.raw (.ref f0)),(jY,.int w)])(h0:iX G f0 (qF lI q (pL [mq,mn] y) (iG y).2.1 sc cO))
  (hw:w≤5000)(hl:ds.length≤300)(hd:∀d∈ds,0≤d∧d<2 ^ w):
  ∀ (k L R:Nat),L<R→R≤ds.length→R-L≤k→∀f,iX G f (qF lI q (pL [mq,mn] y) (iG y).2.1 sc cO)→∀Q:V→Mu→Prop,Q (.int (cQ (2 ^ w) (seg ds L R))) O→aU G k (.ref f) [.int L,.int R] [] O Q
 |0,L,R,h1,h2,h3=>by omega
 |k+1,L,R,h1,h2,h3=>by
  intro f hf Q hq;refine wM hG (fs:=[(eT,.list (ds.map .int)),(cq,.raw (.ref f0)),(jY,.int w)]) (own:=gz) (ps:=[(mq,.int L),(mn,.int R)]) hS hC oS Bv hf (by simp[gz]) (fun s xs c ct d pm B Z r=>LI hG s xs c ct d pm B Z r) ?_
  exact zV hw hl hd h1 h2 (fun L' R' g1 g2 g3 Q' q'=>bD.Vc h0 (rI hG hS oS Bv hC h0 hw hl hd k L' R' g1 g2 (by exact Nj h3 g3) f0 h0 Q' q')) hq
noncomputable def yu:Es:=.cons (.int 0) (.cons (.call (.glob Ik) (.cons (.var eT) .nil)) .nil)
noncomputable def Vm:S:=.ret (.zq (.val (.var eT)) (.call (.var cq) yu) (.int 0))
noncomputable abbrev rJ(K:Frag)(i:Nat):Stmt:=(dy (ba K 70).body).getD i default
theorem Rl(P:Params):dy (ba (KP P) 70).body=[Bt cq [mq,mn] (rJ (KP P) 0),pE aI Vm (rJ (KP P) 1)]:=by kd_p
theorem Zf(P:Params):dS aI il (iG (rJ (KP P) 0)).2.1=(iG (rJ (KP P) 0)).2.1:=by kd_p
theorem Zg(P:Params):BG (KP P) 70 65 69 93 4 (Str.ofString "_digits2int") [eT,cq,jY] gz il (rJ (KP P) 0)=true:=by kd_p
theorem Zh(P:Params):iT aI yu (ba (KP P) 70).scope (ks (bj 1 (sk 0 (rJ (KP P) 1)))).tail=true:=by kd_p
theorem uF(hG:bx G){n:Nat}{O:Mu}{Q:V→Mu→Prop}{ds:List Int}{w:Nat}(hn:300≤n)(hw:w≤5000)(hl:ds.length≤300)(hd:∀d∈ds,0≤d∧d<2 ^ w)(q:Q (.int (cQ (2 ^ w) ds)) O):
  aU G (n+1) (.ref 70) [.list (ds.map .int),.int w] [] O Q:=by
 refine lG hG (own:=oa) [(eT,.list (ds.map .int)),(jY,.int w)] (fun P ys ks B Z r rk=>?_) (fun P env hP hs hc zW hk=>?_)
 ·refine aB.aO r ?_;intro y zz r1 r
  refine aB.aO r ?_;intro z zz r2 r;refine aB.bE r ?_;refine aB.bE rk ?_;exact⟨[y,z],.cons r1 (.cons r2 .nil),fun S=>by kd_p⟩
 ·rw[Rl P]
  refine Dx hG (Zg P) hP hs hc zW Q0 rfl (by simp) (by simp[oa]) rfl fun hS Iy gL=>?_
  refine j5 (G8 (G5 ?_));refine nG hG.nm hG.gl (.val (.var eT)) rfl hs ?_;k_upd;refine Lm (.of (by simp;exact CX hl)) ?_
  by_cases hz:ds=[]
  ·subst hz
   refine dG hG.nm hG.gl (.int 0) rfl hs ?_;k_upd;exact⟨_,.cl .int,by rw[List.take_length];exact q⟩
  ·have t7:0<ds.length:=List.length_pos_iff.mpr hz
   rw[show(!(ds.map V.int).isEmpty)=true by simp[hz]]
   refine zM rfl eF (dG hG.nm hG.gl (.var cq) (y:=bj 0 (bj 1 (sk 0 (rJ (KP P) 1)))) rfl hs ?_);k_upd;refine kW hG.nm hG.gl yu (Zh P) hs ?_;unfold yu;k_upd;refine cN (cp.of (by simp;exact ag 1 0 (aa (ae ab cS) (aa (ak b6 ab) (ae ab aQ))) (by kd_p) hl t7)).ok ?_
   k_upd;intro A hA B Z s fx xs I F rf rv;refine⟨.Vd I rf,?_⟩;refine zN hG hA (fs:=[(eT,.list (ds.map .int)),(cq,IF cq QV [mq,mn] (rJ (KP P) 0) env),(jY,.int w)]) (own:=gz) (xi:=cq) hS I F rfl (by simp) (fun p hp=>gL _ (List.mem_map_of_mem hp)) (fun p hp=>?_) rf rv ?_
   ·simp only[List.mem_cons,List.not_mem_nil,or_false]at hp
    rcases hp with rfl|rfl|rfl<;>rfl
   ·intro G' f0 cO vN hC c0 f cf
    refine aU.deeper (n:=ds.length) ?_ (by exact ag 2 0 (aa (ae cS ab) (aa (ae af cS) (aa (ak b6 af) (ae af ab)))) (by kd_p) hn hl t7)
    rw[List.length_map];refine rI vN (w:=w) (ds:=ds) hS Iy (Zf P) hC c0 hw hl hd ds.length 0 ds.length t7 (Nat.le_refl _) (by exact ag 1 0 (aa (ae ab cS) (aa (ak b6 ab) (ae (bb ab b6) ab))) (by kd_p) hl t7) f cf _ ?_
    rw[ID];exact⟨_,.cl .int,by rw[List.take_length];exact q⟩
theorem zX(x s:Nat):x &&& (x/2 ^ s*2 ^ s)=x/2 ^ s*2 ^ s:=by
 rw[←Nat.shiftRight_eq_div_pow,←Nat.shiftLeft_eq];apply Nat.eq_of_testBit_eq;intro i;simp only[Nat.testBit_and,Nat.testBit_shiftLeft,Nat.testBit_shiftRight]
 by_cases h:s≤i
 ·simp[h,Nat.add_sub_cancel' h]
 ·simp[h]
theorem IH(x s:Nat):Builtin.bitXor (x:Int) (((x/2 ^ s*2 ^ s:Nat)):Int)=((x%2 ^ s:Nat):Int):=by
 rw[show Builtin.bitXor (x:Int) ((x/2 ^ s*2 ^ s:Nat):Int)=_ from bitXor_and _ _];have:Builtin.bitAnd (x:Int) ((x/2 ^ s*2 ^ s:Nat):Int)=((x/2 ^ s*2 ^ s:Nat):Int):=by
  unfold Builtin.bitAnd;simp only[Int.natCast_nonneg,decide_true,Int.toNat_natCast];rw[zX]
 rw[this];have:=Nat.div_add_mod x (2 ^ s);rw[Nat.mul_comm]at this;exact ag 3 0 (aa (ax (aj af ab) au) (aS (bR (bh (az au) (az af)) (xG 2 (az af))) (az ab))) (by kd_p) this
noncomputable def cW(w:Nat):Nat→Nat→List Int
 |0,_=>[]
 |k+1,x=>((x%2 ^ w:Nat):Int)::cW w k (x/2 ^ w)
theorem gB(w:Nat):∀k x,(cW w k x).length=k
 |0,_=>rfl
 |k+1,x=>by rw[cW,List.length_cons,gB w k]
theorem qM(w:Nat):∀ (a x m:Nat),a≤m→cW w a (x%2 ^ (w*m))=cW w a x
 |0,_,_,_=>rfl
 |a+1,x,m,h=>by
  obtain⟨m,rfl⟩:∃k,m=k+1:=⟨m-1,by exact ag 2 0 (aa (ae (aj ab aC) af) (ax af (aj (bb af aC) aC))) (by kd_p) h⟩
  rw[cW,cW];have e1:x%2 ^ (w*(m+1))%2 ^ w=x%2 ^ w:=Nat.mod_mod_of_dvd _ (Nat.pow_dvd_pow _ (by rw[Nat.mul_add];exact ag 2 0 (ae af (aj ab (sj af 1))) (by kd_p)))
  have e2:x%2 ^ (w*(m+1))/2 ^ w=x/2 ^ w%2 ^ (w*m):=by
   rw[Nat.mul_add,Nat.mul_one,Nat.add_comm,Nat.pow_add,Nat.mod_mul_right_div_self]
  rw[e1,e2,qM w a _ m (by exact ag 2 0 (aa (ae (aj af aC) (aj ab aC)) (ae af ab)) (by kd_p) h)]
theorem rK(w:Nat):∀ (a b x:Nat),cW w (a+b) x=cW w a (x%2 ^ (w*a))++cW w b (x/2 ^ (w*a))
 |0,b,x=>by simp[cW]
 |a+1,b,x=>by
  rw[show a+1+b=(a+b)+1 by exact ag 2 0 (ax (aj (aj af aC) ab) (aj (aj af ab) aC)) (by kd_p),cW,rK w a b,qM w (a+1) x (a+1) (Nat.le_refl _),cW,qM w a _ a (Nat.le_refl _),List.cons_append,Nat.div_div_eq_div_mul,←Nat.pow_add,
   show w+w*a=w*(a+1) by rw[Nat.mul_add];exact ag 2 0 (ax (aj af ab) (aj ab (sj af 1))) (by kd_p)]
theorem wO{w:Nat}:∀ {k x:Nat} {d:Int},d∈cW w k x→0≤d∧d<2 ^ w
 |0,_,_,h=>by cases h
 |k+1,x,d,h=>by
  rw[cW]at h;rcases List.mem_cons.mp h with rfl|h
  ·have:x%2 ^ w<2 ^ w:=Nat.mod_lt _ (Nat.pow_pos (by decide))
   have e:((2 ^ w:Nat):Int)=(2:Int) ^ w:=by simp
   exact ag 2 1 (aa (ak af ab) (aa (aS (az ab) aq) (aT (ai aJ (az af)) (aK (az af) aq)))) (by kd_p) this e
  ·exact wO h
theorem wQ(w:Nat):∀ (k x:Nat),x<2 ^ (w*k)→cQ (2 ^ w) (cW w k x)=x
 |0,x,h=>by simp at h;subst h;rfl
 |k+1,x,h=>by
  rw[cW,cQ,wQ w k]
  ·have:=Nat.div_add_mod x (2 ^ w)
   have e:((2 ^ w:Nat):Int)=(2:Int) ^ w:=by simp
   rw[←e,←Int.natCast_mul,←Int.natCast_add]
   congr 1
   exact ag 3 0 (aa (ax (aj af au) ab) (ax (aj au af) ab)) (by kd_p) this
  ·rw[Nat.div_lt_iff_lt_mul (Nat.pow_pos (by decide)),←Nat.pow_add]
   rw[Nat.mul_add]at h;simpa using h
noncomputable def iI(xs:List Int)(L:Nat)(ys:List Int):List Int:=xs.take L++ys++xs.drop (L+ys.length)
theorem EY{xs ys:List Int}{L:Nat}(h:L+ys.length≤xs.length):(iI xs L ys).length=xs.length:=by unfold iI;simp;exact ag 3 0 (aa (ae (aj au ab) af) (ax (aj (jS au af) (aj ab (bb af (aj au ab)))) af)) (by kd_p) h
theorem EZ{xs:List Int}{L:Nat}{x:Int}(h:L<xs.length):iI xs L [x]=xs.set L x:=by
 unfold iI;rw[List.set_eq_take_append_cons_drop,if_pos h];simp
theorem E0{xs ys zs:List Int}{L:Nat}(h:L+ys.length+zs.length≤xs.length):iI (iI xs L ys) (L+ys.length) zs=iI xs L (ys++zs):=by
 unfold iI;have h1:(xs.take L).length=L:=by simp;exact ag 4 0 (aa (ae (aj (aj aM af) ab) au) (ax (jS aM au) aM)) (by kd_p) h
 have e1:(xs.take L++ys++xs.drop (L+ys.length)).take (L+ys.length)=xs.take L++ys:=by
  rw[List.take_append_of_le_length (by simp;exact ag 5 0 (aa (ae (aj (aj de au) af) aM) (aa (ax ab de) (ae de (jS de aM)))) (by kd_p) h h1),List.take_of_length_le (by simp;exact ag 3 0 (aa (ax ab au) (ae (jS au af) au)) (by kd_p) h1)]
 have e2:(xs.take L++ys++xs.drop (L+ys.length)).drop (L+ys.length+zs.length)=xs.drop (L+(ys++zs).length):=by
  rw[List.drop_append,List.drop_of_length_le (by simp;exact ag 5 0 (aa (ax ab de) (ae (aj (jS de aM) au) (aj (aj de au) af))) (by kd_p) h1),List.nil_append,List.drop_drop]
  congr 1
  simp;exact ag 5 0 (aa (ae (aj (aj de aM) au) af) (aa (ax ab de) (ax (aj (aj de aM) (bb (aj (aj de aM) au) (aj (jS de af) aM))) (aj de (aj aM au))))) (by kd_p) h h1
 rw[e1,e2];simp
theorem zY{n:Nat}{O:Mu}{Q:V→Mu→Prop}{xs:List Int}{w i x:Nat}{f0:Addr}{L R:Nat}(hw:w≤5000)(hl:xs.length≤300)(hi:(O[i]?:Option (Option (List V)))=some (some (xs.map .int)))(hx:x<2 ^ (w*(R-L)))(oZ:L<R)(hR:R≤xs.length)
  (ih:∀ (x' L' R':Nat) (ar:Mu) (jX:List Int),jX.length=xs.length→(ar[i]?:Option (Option (List V)))=some (some (jX.map .int))→x'<2 ^ (w*(R'-L'))→L'<R'→R'≤xs.length→R'-L'<R-L→∀Q':V→Mu→Prop,
   Q' .none (ar.set i (some ((iI jX L' (cW w (R'-L') x')).map .int)))→bD G n (.raw (.ref f0)) [.int x',.int L',.int R'] [] ar Q')
  (q:Q .none (O.set i (some ((iI xs L (cW w (R-L) x)).map .int)))):
  aX G bX n ir (bc (bc [] [(bS,.ml i),(cq,.raw (.ref f0)),(jY,.int w)]) [(mj,.int x),(mq,.int L),(mn,.int R)]) O (qE O Q):=by
 unfold ir;have IJ:∀ {a:Option (List V)},(O.set i a).take O.length=O.set i a:=fun{a}=>List.take_of_length_le (by simp)
 have bA:i<O.length:=(List.getElem?_eq_some_iff.mp hi).1;k_upd
 by_cases h1:L+1=R
 ·subst h1
  rw[show((L:Int)+1==((L+1:Nat):Int))=true by simp]
  k_upd;refine x3 hi (by exact Int.natCast_nonneg _) (by simp;exact CW hR) (.of (by simp;exact CX hl)) .int ?_
  k_upd;refine⟨.none,?_⟩;rw[IJ];rw[show L+1-L=1 by exact GC,Nat.mul_one]at hx
  rw[show L+1-L=1 by exact GC,cW,cW,Nat.mod_eq_of_lt hx,EZ (by exact CW hR),List.map_set]at q
  exact q
 ·rw[show((L:Int)+1==(R:Int))=false by simp;exact M8 h1]
  k_upd;refine A9 (by decide) ?_
  rw[Dw];have o3:L<(L+R)/2:=by exact M9 oZ h1
  have gP:(L+R)/2<R:=by exact PC oZ
  generalize (L+R)/2=m at o3 gP;k_upd;have e1:(m:Int)-L=((m-L:Nat):Int):=by exact Na o3
  rw[e1];refine gh (gZ.sz (j:=10) (k:=13) (kK (m:=400) (by exact Nb o3 e1) (by exact Nc hl hR gP e1) (by decide)) (kK (m:=5001) (by exact Nd hw) (by exact Nf hw) (by decide)) (by decide)) ?_
  rw[show(((m-L:Nat):Int)*(w:Int))=(((m-L)*w:Nat):Int) by simp]
  k_upd;refine A9 (by exact Int.natCast_nonneg _) ?_
  have ed:(x:Int).fdiv (2 ^ ((((m-L)*w:Nat):Int)).toNat)=((x/2 ^ (w*(m-L)):Nat):Int):=by
   rw[Int.toNat_natCast,Nat.mul_comm,Int.fdiv_eq_ediv_of_nonneg _ (Int.pow_nonneg (by decide))]
   simp
  rw[ed];k_upd;have Vl:(R-L)*w≤300*5000:=Nat.mul_le_mul (by exact ag 4 0 (aa (ae af cS) (aa (ak au aM) (aa (ae aM af) (aa (aS (bR (az ab) (az au)) (az (bb ab au))) (ae (bb aM au) cS))))) (by kd_p) hl oZ hR e1) hw
  have Hu:(m-L)*w≤300*5000:=Nat.mul_le_mul (by exact Nh hl hR gP e1) hw
  have eR:w*(R-L)=w*(m-L)+w*(R-m):=by rw[←Nat.mul_add];congr 1;exact ag 3 0 (aa (ak af au) (aa (ak ab au) (aa (aS (bR (az ab) (az af)) (az (bb ab af))) (ax (bb au af) (aj (bb ab af) (bb au ab)))))) (by kd_p) oZ gP e1
  have hu:x/2 ^ (w*(m-L))<2 ^ (w*(R-m)):=by
   rw[Nat.div_lt_iff_lt_mul (Nat.pow_pos (by decide)),←Nat.pow_add,Nat.add_comm,←eR]
   exact hx
  have Zi:(R-m)*w≤300*5000:=Nat.mul_le_mul (by exact ag 4 0 (aa (ae af cS) (aa (ak ab aM) (aa (ae aM af) (aa (ak au aM) (aa (aS (bR (az au) (az ab)) (az (bb au ab))) (ae (bb aM au) cS)))))) (by kd_p) hl oZ hR gP e1) hw
  refine A8 (wt.sz (k:=w*(R-m)) (.of_lt (Int.natCast_nonneg _) (by exact_mod_cast hu)) (by rw[Nat.mul_comm];exact ag 2 0 (aa (ae ab (cZ 300 (nk 5000))) (aa (ae af (cZ 300 (nk 5000))) (ae (aj af ab) (nk 100000000)))) (by kd_p) Hu Zi)) ?_
  rw[Int.toNat_natCast,Nat.mul_comm (m-L) w,show((x/2 ^ (w*(m-L)):Nat):Int)*2 ^ (w*(m-L))=((x/2 ^ (w*(m-L))*2 ^ (w*(m-L)):Nat):Int) by simp]
  refine HK ?_;rw[IH];k_upd;refine ih _ L m O xs rfl hi (Nat.mod_lt _ (Nat.pow_pos (by decide))) o3 (by exact GD hR gP) (by exact Ni oZ gP e1) _ ?_
  k_upd;have hlen:L+(cW w (m-L) (x%2 ^ (w*(m-L)))).length≤xs.length:=by rw[gB];exact ag 4 0 (aa (ae ab af) (aa (ak au ab) (aa (aS (bR (az au) (az aM)) (az (bb au aM))) (ae (aj aM (bb au aM)) af)))) (by kd_p) hR gP e1
  refine ih _ m R _ (iI xs L (cW w (m-L) (x%2 ^ (w*(m-L))))) (EY hlen) (by rw[List.getElem?_set_self bA]) hu gP hR (by exact Ng oZ o3 gP e1) _ ?_
  k_upd;show Q .none (List.take O.length _);rw[List.set_set,IJ];have em:m=L+(cW w (m-L) (x%2 ^ (w*(m-L)))).length:=by rw[gB];exact ag 2 0 (aa (aS (bR (az af) (az ab)) (az (bb af ab))) (ax af (aj ab (bb af ab)))) (by kd_p) e1
  have e5:iI (iI xs L (cW w (m-L) (x%2 ^ (w*(m-L))))) m (cW w (R-m) (x/2 ^ (w*(m-L))))=iI xs L (cW w (R-L) x):=by
   rw[show R-L=(m-L)+(R-m) by exact ag 4 0 (aa (ak au aM) (aa (ak af aM) (aa (aS (bR (az af) (az au)) (az (bb af au))) (aa (ax af (aj au ab)) (ax (bb aM au) (aj (bb af au) (bb aM af))))))) (by kd_p) oZ gP e1 em,rK]
   have:=E0 (xs:=xs) (ys:=cW w (m-L) (x%2 ^ (w*(m-L)))) (zs:=cW w (R-m) (x/2 ^ (w*(m-L)))) (L:=L) (by rw[gB,gB];exact ag 4 0 (aa (ae af ab) (aa (ak au af) (aa (aS (bR (az au) (az aM)) (az (bb au aM))) (ae (aj (aj aM (bb au aM)) (bb af au)) ab)))) (by kd_p) hR gP e1)
   rw[←em]at this;exact this
  rw[e5];exact q
theorem rL(hG:bx G){lI q:Str}{y:Stmt}{sc:Scope}{cO:List (Str×Addr)}{w i m:Nat}{f0:Addr}
  (hS:EN sc [bS,cq,jY] gA)(oS:cX aI ir sc gA (iG y).2.1=true)(Bv:dS aI ir (iG y).2.1=(iG y).2.1)
  (hC:Dt G cO [(bS,.ml i),(cq,.raw (.ref f0)),(jY,.int w)])(h0:iX G f0 (qF lI q (pL [mj,mq,mn] y) (iG y).2.1 sc cO))
  (hw:w≤5000)(hl:m≤300):
  ∀ (k x L R:Nat) (O:Mu) (xs:List Int),xs.length=m→(O[i]?:Option (Option (List V)))=some (some (xs.map .int))→x<2 ^ (w*(R-L))→L<R→R≤m→R-L≤k→∀f,iX G f (qF lI q (pL [mj,mq,mn] y) (iG y).2.1 sc cO)→∀Q:V→Mu→Prop,
   Q .none (O.set i (some ((iI xs L (cW w (R-L) x)).map .int)))→aU G k (.ref f) [.int x,.int L,.int R] [] O Q
 |0,x,L,R,O,xs,hm,hi,hx,h1,h2,h3=>by omega
 |k+1,x,L,R,O,xs,hm,hi,hx,h1,h2,h3=>by
  intro f hf Q hq;refine wM hG (fs:=[(bS,.ml i),(cq,.raw (.ref f0)),(jY,.int w)]) (own:=gA) (ps:=[(mj,.int x),(mq,.int L),(mn,.int R)]) hS hC oS Bv hf (by simp[gA]) (fun s xs c ct d pm B Z r=>LJ hG s xs c ct d pm B Z r) ?_
  exact zY hw (hm▸hl) hi hx h1 (hm▸h2) (fun x' L' R' ar jX g0 g1 g2 g3 g4 g5 Q' q'=>bD.Vc h0 (rL hG hS oS Bv hC h0 hw hl k x' L' R' ar jX (g0.trans hm) g1 g2 g3 (hm▸g4) (by exact Nj h3 g5) f0 h0 Q' q')) hq
noncomputable def yv:Es:=.cons (.var gH) (.cons (.int 0) (.cons (.call (.glob Ik) (.cons (.var bS) .nil)) .nil))
noncomputable def uG:E:=.bin .FloorDiv (.bin .Sub (.bin .Add (.cA (.var gH) "bit_length" .nil) (.var jY)) (.int 1)) (.var jY)
noncomputable def Vn:S:=.asg (.name bS) (.bin .Mult (.list false (.cons (.int 0) .nil)) uG)
noncomputable def Zj:S:=.iff (.val (.var gH)) (.cons (.expr (.call (.var cq) yv)) .nil) .nil
noncomputable def IK:S:=.ret (.var bS)
noncomputable abbrev kh(K:Frag)(i:Nat):Stmt:=(dy (ba K 63).body).getD i default
theorem Zk(P:Params):dy (ba (KP P) 63).body=[pE aI Vn (kh (KP P) 0),Bt cq [mj,mq,mn] (kh (KP P) 1),pE aI Zj (kh (KP P) 2),pE aI IK (kh (KP P) 3)]:=by kd_p
theorem Zl(P:Params):dS aI ir (iG (kh (KP P) 1)).2.1=(iG (kh (KP P) 1)).2.1:=by kd_p
theorem Vo(P:Params):BG (KP P) 63 58 62 78 4 (Str.ofString "_int2digits") [bS,cq,jY] gA ir (kh (KP P) 1)=true:=by kd_p
theorem Zm(P:Params):bP aI uG (ba (KP P) 63).scope (bj 1 (sk 0 (kh (KP P) 0)))=true:=by kd_p
theorem Zn(P:Params):iT aI yv (ba (KP P) 63).scope (ks (sk 0 ((sb 0 (kh (KP P) 2)).headD default))).tail=true:=by kd_p
theorem eO{τ:Type}(v:τ)(k:Int):times [v] k=List.replicate k.toNat v:=by
 unfold times;generalize k.toNat=m
 induction m with
 |zero=>rfl
 |succ m ih=>rw[List.replicate_succ,List.flatten_cons,ih];rfl
theorem lO{a w:Nat}(hw:0<w):a<2 ^ (w*((Builtin.Int.intBits (a:Int)+w-1)/w)):=by
 have h1:a<2 ^ Builtin.Int.intBits (a:Int):=by
  have:=(intBits_le_iff (m:=Builtin.Int.intBits (a:Int)) (x:=(a:Int))).mp (Nat.le_refl _);simpa using this
 refine Nat.lt_of_lt_of_le h1 (Nat.pow_le_pow_right (by decide) ?_)
 generalize Builtin.Int.intBits (a:Int)=b;have:=Nat.div_add_mod (b+w-1) w;have h2:=Nat.mod_lt (b+w-1) hw;exact ag 4 0 (aa (ax (aj au af) (bb (aj aM ab) aC)) (aa (ak af ab) (ae aM au))) (by kd_p) this h2
theorem uH(hG:bx G){n:Nat}{O:Mu}{Q:V→Mu→Prop}{a w m:Nat}(hn:300≤n)(hw:w≤5000)(mQ:0<w)(hm:m=(Builtin.Int.intBits (a:Int)+w-1)/w)(hl:m≤300)(q:Q (.list ((cW w m a).map .int)) O):
  aU G (n+1) (.ref 63) [.int a,.int w] [] O Q:=by
 refine lG hG (own:=d8) [(gH,.int a),(jY,.int w)] (fun P ys ks B Z r rk=>?_) (fun P env hP hs hc zW hk=>?_)
 ·refine aB.aO r ?_;intro y zz r1 r
  refine aB.aO r ?_;intro z zz r2 r;refine aB.bE r ?_;refine aB.bE rk ?_;exact⟨[y,z],.cons r1 (.cons r2 .nil),fun S=>by kd_p⟩
 ·rw[Zk P]
  have El:env.kindOf (aI bS)=some .cell:=by unfold Env.kindOf;rw[hs];exact eq_of_beq (List.all_eq_true.mp (aR (aL (Vo P))) _ (.head _))
  have ho:nV G env d8 bS:=⟨by simp[d8],.inr (by rw[hG.nm];exact El)⟩
  refine j5 ?_;show cn G n env d8 (exec (.Assign [.Name (aI bS) _] (.BinOp (bH aI (.list false (.cons (.int 0) .nil)) _) .Mult (bH aI uG _) _) _) env) _ O _;rw[←hG.nm bS];refine Ef ho (G3 (dG hG.nm hG.gl (.list false (.cons (.int 0) .nil)) (y:=bj 0 (sk 0 (kh (KP P) 0))) rfl hs ?_)) rfl;k_upd;refine⟨.of (by decide),bK ?_⟩
  refine dG hG.nm hG.gl uG (Zm P) hs ?_;unfold uG;k_upd;refine bB ?_;k_upd;refine⟨_,ig,?_⟩;k_upd;refine ij ?_;k_upd;refine dR ⟨by exact ag 1 0 (aa (ae ab (nk 5000)) (aa (ak b6 ab) (fI (az ab) aJ))) (by kd_p) hw mQ,?_⟩ ?_
  ·have:((w:Int)).natAbs.log2<13:=by
    rw[Int.natAbs_natCast];exact(Nat.log2_lt (by exact ag 1 0 (aa (ae ab (nk 5000)) (aa (ak b6 ab) (Gs ab b6))) (by kd_p) hw mQ)).mpr (by have:2 ^ 13=8192:=(by decide);exact ag 1 0 (aa (ae ab (nk 5000)) (aa (ak b6 ab) (ak ab (nk (2 ^ 13))))) (by kd_p) hw mQ)
   exact ag 1 0 (aa (ak ab (nk 13)) (ak ab c9)) (by kd_p) this
  have em:((Builtin.Int.intBits (a:Int):Nat):Int)+(w:Int)-1=((Builtin.Int.intBits (a:Int)+w-1:Nat):Int):=by exact ag 2 0 (aa (ae ab (nk 5000)) (aa (ak b6 ab) (aS (bR (bh (az af) (az ab)) bV) (az (bb (aj af ab) aC))))) (by kd_p) hw mQ
  have ed:(((Builtin.Int.intBits (a:Int):Nat):Int)+(w:Int)-1).fdiv (w:Int)=(m:Int):=by
   rw[em,Int.fdiv_eq_ediv_of_nonneg _ (by exact Int.natCast_nonneg _),hm]
   simp
  rw[ed];refine zp (by simp[lM]) (by have:(2:Int) ^ 63=9223372036854775808:=(by decide);exact ag 2 1 (aa (ax af ab) (aa (ae af cS) (aa (aS aq (az af)) (ai (cI (zk (2 ^ 63))) (az af))))) (by kd_p) hm hl ed) (by have:(2:Int) ^ 63=9223372036854775808:=(by decide);exact ag 2 1 (aa (ax af ab) (aa (ae af cS) (aa (aS aq (az af)) (aK (az af) (zk (2 ^ 63)))))) (by kd_p) hm hl ed) (by have:(2:Nat) ^ 24=16777216:=(by decide);simp;exact ag 2 1 (aa (ax af ab) (aa (ae af cS) (aa (aS aq (az af)) (ae af bq)))) (by kd_p) hm hl ed) ?_
  rw[eO,Int.toNat_natCast];have Vp:(List.replicate m (V.int 0))=(List.replicate m (0:Int)).map V.int:=by simp
  rw[Vp];refine Dx hG (Vo P) hP hs hc zW QZ rfl (by simp) (by simp[d8]) rfl fun hS Iy gL=>?_
  have iy:((O++[some ((List.replicate m (0:Int)).map V.int)])[O.length]?:Option (Option (List V)))=some (some ((List.replicate m (0:Int)).map V.int)):=by simp
  have tail:∀ (U:aw) (ys:List Int),get U bS=some (.ml O.length)→ys=cW w m a→cn G n env d8 (execs [pE aI IK (kh (KP P) 3)] env) U (O++[some (ys.map V.int)]) (wJ O Q):=by
   rintro U ys LK rfl;refine eP hG.nm hG.gl (.cons IK .nil) (ys:=[kh (KP P) 3]) hk rfl hs ?_;refine ic (uf (bU LK ?_));refine⟨_,.ml (xs:=(cW w m a).map .int) (Nat.le_refl _) (by simp),?_⟩
   simpa using q
  refine j5 (Ov ?_);refine nG hG.nm hG.gl (.val (.var gH)) rfl hs ?_;k_upd
  by_cases hz:a=0
  ·subst hz
   have Zo:m=0:=by rw[hm];simp[Builtin.Int.intBits];exact ag 2 0 (aa (ae af (nk 5000)) (aa (ak b6 af) (aa (aS (bR (bh (az ab) (az af)) bV) (az (bb (aj ab af) aC))) (lpo (ax af b6) (ak (bb af aC) af))))) (by kd_p) hw mQ em
   subst Zo;exact xP (tail _ [] rfl rfl)
  ·rw[show(((a:Int)) !=0)=true by simpa using hz]
   have yw:0<m:=by
    rcases Nat.eq_zero_or_pos m with h|h
    ·have:=lO (a:=a) mQ
     rw[←hm,h]at this;simp at this;exact absurd this hz
    ·exact h
   refine j5 (De (zM rfl eF (dG hG.nm hG.gl (.var cq) (y:=bj 0 (sk 0 ((sb 0 (kh (KP P) 2)).headD default))) rfl hs ?_)) (by unfold interactive;rw[hs,hk];rfl) rfl)
   k_upd;refine kW hG.nm hG.gl yv (Zn P) hs ?_;unfold yv;k_upd;refine fj iy (cp.of (by simp;exact ag 2 1 (aa (ax af ab) (aa (ae af cS) (aa (aS aq (az af)) (aa (ak b6 af) (ae af aQ))))) (by kd_p) hm hl ed yw)).ok ?_
   k_upd;intro A hA B Z s fx xs I F rf rv;refine⟨.Vd I rf,?_⟩;refine zN hG hA (fs:=[(bS,.ml O.length),(cq,IF cq QU [mj,mq,mn] (kh (KP P) 1) env),(jY,.int w)]) (own:=gA) (xi:=cq) hS I F rfl (by simp) (fun p hp=>gL _ (List.mem_map_of_mem hp)) (fun p hp=>?_) rf rv ?_
   ·simp only[List.mem_cons,List.not_mem_nil,or_false]at hp
    rcases hp with rfl|rfl|rfl<;>rfl
   ·intro G' f0 cO vN hC c0 f cf
    refine aU.deeper (n:=m) ?_ (by exact ag 3 1 (aa (ae cS af) (aa (ax au ab) (aa (ae au cS) (aa (aS aq (az au)) (aa (ak b6 au) (ae au af)))))) (by kd_p) hn hm hl ed yw)
    have el:((List.replicate m (0:Int)).map V.int).length=m:=by simp
    rw[el];refine rL vN (w:=w) (i:=O.length) (m:=m) hS Iy (Zl P) hC c0 hw hl m a 0 m _ (List.replicate m 0) (by simp) iy (by rw[hm];exact lO mQ) yw (Nat.le_refl _) (by exact ag 3 1 (aa (ax au af) (aa (ae au cS) (aa (aS aq (az au)) (aa (ak b6 au) (aa (ax ab au) (ae (bb au b6) au)))))) (by kd_p) hm hl ed yw el) f cf _ ?_
    refine xP ?_;show cn G n env d8 _ _ _ _;have e9:(O++[some ((List.replicate m (0:Int)).map V.int)]).set O.length (some ((iI (List.replicate m 0) 0 (cW w (m-0) a)).map V.int))=O++[some ((cW w m a).map V.int)]:=by
     rw[List.set_append_right _ _ (Nat.le_refl _)];simp[iI,gB]
    rw[e9];exact tail _ _ rfl rfl
noncomputable def ki:Ss:=(.cons (.expr (.cA (.var 32) "reverse" .nil)) (.su 32 (.cons (.asg (.name 24) (.call (.glob 31) (.cons (.var 32) (.cons (.var 21) .nil)))) (.cons (.ret (.tup (.cons (.var 24) (.cons (.var 10) .nil)))) .nil))))
noncomputable def forR:S:=.for d7 (.call (.glob ke) (.cons (.var bS) .nil)) iF
noncomputable abbrev E2(K:Frag):List Stmt:=dy (ba K 77).body
noncomputable abbrev zZ(K:Frag):Stmt:=(E2 K).getD 4 default
theorem Zp(P:Params):E2 (KP P)=dS aI kf (E2 (KP P))++pE aI forR (zZ (KP P))::dS aI ki ((E2 (KP P)).drop 5):=by kd_p
theorem Zq(P:Params):(cX aI kf (ba (KP P) 77).scope d9 (E2 (KP P))&&bP aI (.glob ke) (ba (KP P) 77).scope (bj 0 (sk 1 (zZ (KP P))))&&jW aI (ba (KP P) 77).scope d9 d7 &&
 cX aI iF (ba (KP P) 77).scope d9 (sb 0 (zZ (KP P)))&&cX aI ki (ba (KP P) 77).scope d9 ((E2 (KP P)).drop 5))=true:=by kd_p
noncomputable def lh(N b:Int):List Int→List Int×Int→List Int×Int
 |[],s=>s
 |d::ds,(qs,r)=>lh N b ds (qs++[(r*N+d)/b],(r*N+d)%b)
theorem uI{N b:Int}(hN:0<N)(hb:0<b):∀ (ds qs:List Int) (r:Int),(∀d∈ds,0≤d∧d<N)→(∀d∈qs,0≤d∧d<N)→0≤r→r<b→
  (∀d∈(lh N b ds (qs,r)).1,0≤d∧d<N)∧0≤(lh N b ds (qs,r)).2∧(lh N b ds (qs,r)).2<b ∧
   b*cQ N (lh N b ds (qs,r)).1.reverse+(lh N b ds (qs,r)).2=(b*cQ N qs.reverse+r)*N ^ ds.length+cQ N ds.reverse
 |[],qs,r,_,hq,h0,h1=>⟨hq,h0,h1,by simp[lh,cQ]⟩
 |d::ds,qs,r,hd,hq,h0,h1=>by
  obtain⟨d0,d1⟩:=hd d (.head _);have Rm:0≤r*N+d:=by have:=Int.mul_nonneg h0 (Int.le_of_lt hN);exact ag 0 2 (aa (ai aJ aq) (aa (ai aJ aN) (ai aJ (bh aN aq)))) (by kd_p) d0 this
  have Vq:=Int.mul_ediv_add_emod (r*N+d) b;have bA:(r*N+d)/b<N:=by
   refine Int.ediv_lt_of_lt_mul hb ?_;have:r*N≤(b-1)*N:=Int.mul_le_mul_of_nonneg_right (by exact ag 0 2 (aa (aK aN aq) (ai aN (bR aq bV))) (by kd_p) h1) (Int.le_of_lt hN)
   rw[Int.sub_mul,Int.one_mul]at this;rw[Int.mul_comm N b];exact ag 0 6 (aa (aK kR cu) (aa (aS (bh aN aq) (bh Gv kR)) (aa (ai Gv (bR fy cu)) (aK (bh Gv kR) fy)))) (by kd_p) d1 Vq this
  refine wg (uI hN hb ds (qs++[(r*N+d)/b]) ((r*N+d)%b) (fun x m=>hd x (.tail _ m)) (fun x m=>by
   rcases List.mem_append.mp m with m|m
   ·exact hq x m
   ·rw[List.mem_singleton.mp m];exact⟨Int.ediv_nonneg Rm (Int.le_of_lt hb),bA⟩) (Int.emod_nonneg _ (by exact y8 hb)) (Int.emod_lt_of_pos _ hb)) ?_;intro e1 e2 e3 e4
  rw[lh];refine⟨e1,e2,e3,?_⟩;rw[e4,List.reverse_append,List.reverse_singleton,List.singleton_append,cQ,List.reverse_cons,lN,List.length_reverse,List.length_cons,Int.pow_succ];have h5:b*((r*N+d)/b+N*cQ N qs.reverse)+(r*N+d)%b=(b*cQ N qs.reverse+r)*N+d:=by
   rw[Int.mul_add];have h6:b*(N*cQ N qs.reverse)=b*cQ N qs.reverse*N:=by rw[Int.mul_comm N,Int.mul_assoc]
   rw[h6,Int.add_mul];exact ag 0 5 (aa (aS (bh kR cu) (bh aN aq)) (aS (bh (bh kR fy) cu) (bh (bh fy aN) aq))) (by kd_p) Vq
  rw[h5,Int.add_mul,Int.mul_assoc,Int.mul_comm N (N ^ ds.length)];simp only[cQ,Int.mul_zero,Int.add_zero];rw[Int.mul_comm d];exact ag 0 3 (aS (bh (bh cu aN) aq) (bh cu (bh aq aN))) (by kd_p)
theorem E3{N b:Int}(hN:0<N)(hb:0<b){ds:List Int}(hd:∀d∈ds,0≤d∧d<N):cQ N (lh N b ds ([],0)).1.reverse=cQ N ds.reverse/b∧(lh N b ds ([],0)).2=cQ N ds.reverse%b:=by
 refine wg (uI hN hb ds [] 0 hd (fun zz m=>nomatch m) (Int.le_refl _) hb) ?_;intro zz h0 h1 e;simp only[List.reverse_nil,cQ,Int.mul_zero,Int.zero_add,Int.zero_mul,Int.add_zero]at e;rw[←e];constructor
 ·rw[Int.add_comm,Int.add_mul_ediv_left _ _ (by exact y8 hb),Int.ediv_eq_zero_of_lt h0 h1,Int.zero_add]
 ·rw[Int.add_comm,Int.add_mul_emod_self_left,Int.emod_eq_of_lt h0 h1]
theorem wR{b:Nat}:b<2 ^ Builtin.Int.intBits (b:Int):=by
 have:=(intBits_le_iff (m:=Builtin.Int.intBits (b:Int)) (x:=(b:Int))).mp (Nat.le_refl _);simpa using this
theorem E4{b:Nat}(h:0<b):0<Builtin.Int.intBits (b:Int):=by
 rcases Nat.eq_zero_or_pos (Builtin.Int.intBits (b:Int)) with e|e
 ·have:=wR (b:=b)
  rw[e]at this;simp at this;exact ag 2 0 (aa (ak b6 ab) (aa (ax ab b6) (ak b6 af))) (by kd_p) h this
 ·exact e
theorem uJ(hG:bx G){n:Nat}{O:Mu}{Q:V→Mu→Prop}{a b:Nat}(hn:302≤n)(hb:0<b)(hw:Builtin.Int.intBits (b:Int)≤4000)(ha:Builtin.Int.intBits (a:Int)≤250)(q:Q (.tuple [.int ((a:Int)/b),.int ((a:Int)%b)]) O):
  aU G (n+1) (.ref 77) [.int a,.int b] [] O Q:=by
 refine lG hG (own:=d9) [(gH,.int a),(mJ,.int b)] (fun P ys ks B Z r rk=>?_) (fun P env hP hs hc zW hk=>?_)
 ·refine aB.aO r ?_;intro y zz r1 r
  refine aB.aO r ?_;intro z zz r2 r;refine aB.bE r ?_;refine aB.bE rk ?_;exact⟨[y,z],.cons r1 (.cons r2 .nil),fun S=>by kd_p⟩
 ·have ck:=Zq P
  have c1:=aL (aL (aL (aL ck)));have c2:=aR (aL (aL (aL ck)));have c4:=aR (aL (aL ck));have c5:=aR (aL ck);have c6:=aR ck;rw[show dy (ba (KP P) 77).body=_ from Zp P];generalize sI:Builtin.Int.intBits (b:Int)=w at hw;have mQ:0<w:=sI▸E4 hb;have Rn:b<2 ^ w:=sI▸wR;generalize Ro:(Builtin.Int.intBits (a:Int)+w-1)/w=m;have hm:m≤250:=by
   have h1:m*w≤Builtin.Int.intBits (a:Int)+w-1:=Ro▸Nat.div_mul_le_self _ _;rcases Nat.eq_zero_or_pos m with h|h
   ·exact ag 1 0 (aa (ax ab b6) (ae ab (nk 250))) (by kd_p) h
   ·obtain⟨k,rfl⟩:∃k,m=k+1:=⟨m-1,by exact ag 1 0 (aa (ak b6 ab) (ax ab (aj (bb ab aC) aC))) (by kd_p) h⟩
    rw[Nat.add_mul,Nat.one_mul]at h1;have h2:k*1≤k*w:=Nat.mul_le_mul_left k mQ;exact ag 5 0 (aa (ae aM (nk 250)) (aa (ax au af) (aa (ae af (nk 4000)) (aa (ak b6 af) (aa (ae (aj ab af) (bb (aj aM af) aC)) (aa (ae (sj de 1) ab) (ae (aj de aC) (nk 250)))))))) (by kd_p) ha sI hw mQ h1 h2
  refine qB hG.nm hG.gl hk hs kf c1 ?_;unfold kf;k_upd;refine bB ?_;k_upd;refine⟨_,ig,?_⟩;k_upd;refine ij ?_;rw[sI];k_upd;refine bD.K (by obtain⟨P',uK⟩:=hG.K;rw[uK];kd_p) (aU.deeper (n:=301) (uH hG (m:=m) (Nat.le_refl _) (by exact Nk sI hw mQ) mQ (sI▸Ro.symm) (by exact ag 1 0 (aa (ae ab (nk 250)) (ae ab cS)) (by kd_p) hm) ?_) (by exact Nl hn))
  k_upd;refine⟨.of (by decide),(fun zz m=>nomatch m),?_⟩
  k_upd;show cn G n env d9 _ _ _ _;have hN:(0:Int)<2 ^ w:=Int.pow_pos (by decide)
  have yo:(0:Int)<b:=by exact ag 1 0 (aa (ak b6 ab) (aK aJ (az ab))) (by kd_p) hb
  have Rp:∀d∈(cW w m a).reverse,0≤d∧d<2 ^ w:=fun d hd=>wO (by simpa using hd)
  refine j5 ?_;show cn G n env d9 (exec (.For (.Name (aI d7) _) (.Call (bH aI (.glob ke) (bj 0 (sk 1 (zZ (KP P))))) (jB aI (.cons (.var bS) .nil) _) [] _) (dS aI iF _) [] _) env) _ _ _;rw[←hG.nm d7];refine Lz (It rfl (eF (es:=.cons (.var bS) .nil) (xs:=(ks (sk 1 (zZ (KP P)))).tail)) (dG hG.nm hG.gl (.glob ke) c2 hs ?_)) (fun zz=>rfl) (fun zz zz=>rfl);k_upd;refine⟨rfl,kW hG.nm hG.gl (.cons (.var bS) .nil) rfl hs ?_⟩;k_upd;refine⟨_,rfl,?_⟩;rw[←List.map_reverse];generalize IL:(cW w m a).reverse=xs at Rp;refine dA (fun i ao ar=>∃ (qs:List Int) (r:Int),qs.length=i∧0≤r∧r<(b:Int)∧(∀d∈qs,(0:Int)≤d∧d<2 ^ w)∧ar=O++[some (qs.map .int)]∧get ao YT=some (.int r)∧get ao zF=some (.ml O.length)∧get ao mJ=some (.int b)∧get ao jY=some (.int w) ∧
   lh (2 ^ w) b (xs.drop i) (qs,r)=lh (2 ^ w) b xs ([],0)) (fun i x ao ar k hx hJ jL kI vT=>?_) (fun ao ar hJ=>?_) ⟨[],0,rfl,Int.le_refl _,yo,fun zz m=>(nomatch m),rfl,rfl,rfl,rfl,rfl,rfl⟩
  ·refine n4 hJ ?_;clear hJ;intro qs r E5 LL LM hq z1;subst z1;intro g1 g2 g3 g4 b7
   have hi:i<xs.length:=by have:=(List.getElem?_eq_some_iff.mp hx).1;simpa using this
   have yx:x=.int xs[i]:=by
    rw[List.getElem?_map,List.getElem?_eq_getElem hi]at hx;simpa using hx.symm
   subst yx;have LN:xs.length=m:=by rw[←IL,List.length_reverse,gB]
   obtain⟨d0,d1⟩:=Rp xs[i] (List.getElem_mem _);refine nh (fB hs hG.nm c4) ?_;refine eP hG.nm hG.gl iF hk c5 hs ?_;have Zr:get (set ao d7 (.int xs[i])) 10=some (.int r):=gn g1;have Vr:get (set ao d7 (.int xs[i])) 32=some (.ml O.length):=gn g2;have LO:get (set ao d7 (.int xs[i])) 18=some (.int b):=gn g3;have Vs:get (set ao d7 (.int xs[i])) 21=some (.int w):=gn g4;have Zs:get (set ao d7 (.int xs[i])) 33=some (.int xs[i]):=gs;generalize set ao d7 (.int xs[i])=a9 at Zr Vr LO Vs Zs;unfold iF;k_upd;have Zt:Sz w r:=.of_lt LL (Int.lt_trans LM (by exact_mod_cast Rn))
   refine A8 (wt.sz Zt (by exact ag 4 0 (aa (ax au aM) (aa (ae aM (nk 4000)) (aa (ak b6 aM) (aa (ak af ab) (ae (aj aM aM) (nk 100000000)))))) (by kd_p) sI hw mQ hi)) ?_
   rw[Int.toNat_natCast];k_upd;have qk:Builtin.Int.intBits (r*2 ^ w+xs[i])≤w+w:=by
    refine Sz.bits (.of_lt (by have:=Int.mul_nonneg LL (Int.le_of_lt hN);exact ag 2 2 (aa (ak af ab) (aa (ai aJ aq) (aa (ai aJ aN) (ai aJ (bh aN aq))))) (by kd_p) hi d0 this) ?_)
    have BH:((b:Nat):Int)<2 ^ w:=by exact_mod_cast Rn
    have h1:r*2 ^ w≤(2 ^ w-1)*2 ^ w:=Int.mul_le_mul_of_nonneg_right (by exact ag 3 2 (aa (aK aN (az au)) (aa (ak af ab) (aa (aK (az au) aq) (ai aN (bR aq bV))))) (by kd_p) LM hi BH) (Int.le_of_lt hN)
    rw[Int.sub_mul,Int.one_mul,←Int.pow_add]at h1;exact ag 2 4 (aa (ak af ab) (aa (aK cu aq) (aa (ai fy (bR aN aq)) (aK (bh fy cu) aN)))) (by kd_p) hi d1 h1
   have nY:((b:Int)).natAbs.log2<9000:=by
    have:=(Nat.log2_lt (by exact ag 3 0 (aa (ak b6 au) (aa (ak af ab) (Gs au b6))) (by kd_p) hb hi:b≠0)).mpr Rn
    rw[Int.natAbs_natCast];exact ag 5 0 (aa (ax aM au) (aa (ae au (nk 4000)) (aa (ak b6 au) (aa (ak af ab) (aa (ak de au) (ak de c9)))))) (by kd_p) sI hw mQ hi this
   refine bD.K (by obtain⟨P',uK⟩:=hG.K;rw[uK];kd_p) (aU.deeper (n:=1) (zS hG (by exact ag 5 0 (aa (ax au aM) (aa (ae aM (nk 4000)) (aa (ak b6 aM) (aa (ak af ab) (aa (ae de (aj aM aM)) (ai (bR (az de) (az aM)) (zk 4000))))))) (by kd_p) sI hw mQ hi qk) (by exact Nm hb hi) nY ?_) (by exact ag 3 0 (aa (ae (nk 302) au) (aa (ak af ab) (ae aC au))) (by kd_p) hn hi))
   rw[Int.fdiv_eq_ediv_of_nonneg _ (by exact Int.natCast_nonneg _),Int.fmod_eq_emod_of_nonneg _ (by exact Int.natCast_nonneg _)]
   k_upd;have LP:get (set (set a9 35 (V.int ((r*2 ^ w+xs[i]) / ↑b))) 10 (V.int ((r*2 ^ w+xs[i]) % ↑b))) 32=some (.ml O.length):=by rw[get_set,get_set];exact Vr
   refine bB ?_;refine bU LP ?_;refine⟨_,fC (xs:=qs.map V.int) (by simp),?_⟩
   refine gk (bU (by rw[get_set,get_set];rfl) (kT ?_))
   refine fD (xs:=qs.map V.int) (by simp) (by simp;rw[sizeLine_eq];exact ag 4 0 (aa (ae au (nk 250)) (aa (ax aM af) (aa (ak af ab) (aa (ax ab au) (ae aM bq))))) (by kd_p) hm E5 hi LN) .int ?_
   k_upd;have Zu:(0:Int)≤(r*2 ^ w+xs[i])%b:=Int.emod_nonneg _ (by exact Nm hb hi)
   have Vt:(r*2 ^ w+xs[i])%(b:Int)<b:=Int.emod_lt_of_pos _ yo;refine jL _ _ ⟨qs++[(r*2 ^ w+xs[i])/b],(r*2 ^ w+xs[i])%b,by simp[E5],Zu,Vt,fun d m=>?_,by simp,gs,LP,by rw[get_set,get_set];exact LO,by rw[get_set,get_set];exact Vs,?_⟩
   ·have:=uI hN yo [xs[i]] qs r (fun d m=>by rw[List.mem_singleton.mp m];exact⟨d0,d1⟩) hq LL LM
    exact this.1 d m
   ·rw[List.drop_eq_getElem_cons hi]at b7
    exact b7
  ·refine n4 hJ ?_;clear hJ;intro qs r E5 LL LM hq z1;subst z1;intro g1 g2 g3 g4 b7
   rw[List.length_map]at E5 b7;have LN:xs.length=m:=by rw[←IL,List.length_reverse,gB]
   rw[List.drop_length]at b7;have b7:(qs,r)=lh (2 ^ w) b xs ([],0):=b7;refine eP hG.nm hG.gl ki hk c6 hs ?_;unfold ki;k_upd;refine bB ?_;refine bU g2 ?_;refine⟨_,vH (xs:=qs.map V.int) (by simp),?_⟩
   k_upd;refine vI (xs:=qs.map V.int) (by simp) (by simp;rw[sizeLine_eq];exact ag 3 0 (aa (ae af (nk 250)) (aa (ax au ab) (aa (ax ab af) (ae au bq)))) (by kd_p) hm E5 LN) ?_
   k_upd;refine nE g2 (xs:=(qs.map V.int).reverse) (by simp) ?_
   have LP:get (set ao 32 (V.list (qs.map V.int).reverse)) 32=some (.list (qs.reverse.map V.int)):=by rw[get_set,if_pos rfl,List.map_reverse]
   have Zv:get (set ao 32 (V.list (qs.map V.int).reverse)) 21=some (.int w):=gn g4;have vA:get (set ao 32 (V.list (qs.map V.int).reverse)) 10=some (.int r):=gn g1;generalize set ao 32 (V.list (qs.map V.int).reverse)=a9 at LP Zv vA;k_upd;have IM:=E3 hN yo Rp;rw[←b7]at IM;refine bD.K (by obtain⟨P',uK⟩:=hG.K;rw[uK];kd_p) (aU.deeper (n:=301) (uF hG (w:=w) (Nat.le_refl _) (by exact Nk sI hw mQ) (by simp;exact ag 3 0 (aa (ae af (nk 250)) (aa (ax au ab) (aa (ax ab af) (ae au cS)))) (by kd_p) hm E5 LN) (fun d m=>hq d (by simpa using m)) ?_) (by exact Nl hn))
   have aac:get (set a9 24 (V.int (cQ (2 ^ w) qs.reverse))) 10=some (.int r):=gn vA;have aad:get (set a9 24 (V.int (cQ (2 ^ w) qs.reverse))) 24=some (.int (cQ (2 ^ w) qs.reverse)):=gs;k_upd;refine⟨.of (by simp),?_⟩
   refine⟨_,.cl (.tuple (by simp[lM])),?_⟩
   have Vu:cQ (2 ^ w) xs.reverse=(a:Int):=by
    rw[←IL,List.reverse_reverse];exact wQ w m a (by rw[←Ro,←sI];exact lO (sI▸mQ))
   rw[Vu]at IM;simp only at IM;rw[IM.1,IM.2];have et:List.take O.length (((O++[some (qs.map V.int)]).set O.length (some (qs.map V.int).reverse)).set O.length none)=O:=by
    rw[List.take_set_of_le (Nat.le_refl _),List.take_set_of_le (Nat.le_refl _)];simp
   rw[et];exact q
theorem Sz.not{k:Nat}{a:Int}(h:a<0)(h':Sz k a):Sz k (-a-1):=by unfold Sz at *;exact ag 1 1 (aa (aK aq aJ) (aa (ak (ja aq) ab) (ak (ja (bR (cI aq) bV)) ab))) (by kd_p) h h'
theorem z4{k:Nat}{a:Int}:Sz k a↔Builtin.Int.intBits a≤k:=intBits_le_iff.symm
theorem BI{a b:Int}(hb:0<b) : -((-a-1)/b)-1=a.fdiv b∧b+(-((-a-1)%b)-1)=a.fmod b:=by
 rw[Int.fdiv_eq_ediv_of_nonneg _ (by exact tB hb),Int.fmod_eq_emod_of_nonneg _ (by exact tB hb)]
 have h1:=Int.mul_ediv_add_emod (-a-1) b;have h2:=Int.emod_nonneg (-a-1) (by exact y8 hb:b≠0)
 have h3:=Int.emod_lt_of_pos (-a-1) hb;generalize (-a-1)/b=q at h1;generalize (-a-1)%b=r at h1 h2 h3;have ha:a=(b-r-1)+b*(-q-1):=by rw[Int.mul_sub,Int.mul_neg,Int.mul_one];exact ag 0 4 (aa (aS (bh aq aN) (bR (cI fy) bV)) (aS fy (bh (bR (bR cu aN) bV) (bR (cI aq) cu)))) (by kd_p) h1
 constructor
 ·rw[ha,Int.add_mul_ediv_left _ _ (by exact ag 0 4 (aa (aK aJ fy) (aa (aS cu (bh (bR (bR fy aN) bV) aq)) (fI fy aJ))) (by kd_p) hb ha),Int.ediv_eq_zero_of_lt (by exact Nn h3 ha) (by exact Np h2)];exact ag 0 1 (aS (bR (cI aq) bV) (bh aJ (bR (cI aq) bV))) (by kd_p)
 ·rw[ha,Int.add_mul_emod_self_left,Int.emod_eq_of_lt (by exact Nn h3 ha) (by exact Np h2)];exact ag 0 2 (aS (bh aN (bR (cI aq) bV)) (bR (bR aN aq) bV)) (by kd_p)
theorem jM(hG:bx G){n:Nat}{O:Mu}{Q:V→Mu→Prop}{a b:Int}(hn:304≤n)(Zw:0≤a)(hb:0<b)(hw:Sz 4000 b)(ha:Sz 250 a)(q:Q (.tuple [.int (a.fdiv b),.int (a.fmod b)]) O):
  aU G (n+1) (.ref 84) [.int a,.int b] [] O Q:=by
 refine fN hG (st:=eU) (own:=eV) [(gH,.int a),(mJ,.int b)] (fun P ys ks B Z r rk=>?_) ?_
 ·refine aB.aO r ?_;intro y zz r1 r
  refine aB.aO r ?_;intro z zz r2 r;refine aB.bE r ?_;refine aB.bE rk ?_;exact⟨[y,z],.cons r1 (.cons r2 .nil),fun S=>by kd_p⟩
 ·obtain⟨x,rfl⟩:=Int.eq_ofNat_of_zero_le Zw
  obtain⟨y,rfl⟩:=Int.eq_ofNat_of_zero_le (Int.le_of_lt hb);unfold eU;k_upd;rw[show(((y:Nat):Int)==0)=false by simp;exact ag 1 0 (aa (aK aJ (az ab)) (dJ (ax ab b6))) (by kd_p) hb]
  k_upd;rw[show decide (((y:Nat):Int)<0)=false by simp]
  k_upd;rw[show decide (((x:Nat):Int)<0)=false by simp]
  k_upd;refine bD.K (by obtain⟨P',uK⟩:=hG.K;rw[uK];kd_p) (aU.deeper (n:=303) (uJ hG (Nat.le_refl _) (by exact Tp hb) (z4.mp hw) (z4.mp ha) ?_) (by exact ag 1 0 (aa (ae (nk 304) ab) (ae (nk 303) ab)) (by kd_p) hn))
  refine⟨.tuple (by simp[lM]),?_⟩
  rw[List.take_length,←Int.fdiv_eq_ediv_of_nonneg _ (by exact Int.natCast_nonneg _),←Int.fmod_eq_emod_of_nonneg _ (by exact Int.natCast_nonneg _)]
  exact q
theorem kj(hG:bx G){n:Nat}{O:Mu}{Q:V→Mu→Prop}{a b:Int}(hn:305≤n)(hb:0<b)(hw:Sz 4000 b)(ha:Sz 250 a)(q:Q (.tuple [.int (a.fdiv b),.int (a.fmod b)]) O):
  aU G (n+1) (.ref 84) [.int a,.int b] [] O Q:=by
 by_cases h0:0≤a
 ·exact jM hG (by exact ag 1 0 (aa (ae (nk 305) ab) (ae (nk 304) ab)) (by kd_p) hn) h0 hb hw ha q
 ·refine fN hG (st:=eU) (own:=eV) [(gH,.int a),(mJ,.int b)] (fun P ys ks B Z r rk=>?_) ?_
  ·refine aB.aO r ?_;intro y zz r1 r
   refine aB.aO r ?_;intro z zz r2 r;refine aB.bE r ?_;refine aB.bE rk ?_;exact⟨[y,z],.cons r1 (.cons r2 .nil),fun S=>by kd_p⟩
  ·unfold eU
   k_upd;rw[show(b==0)=false by simp;exact ag 0 1 (aa (aK aJ aq) (dJ (aS aq aJ))) (by kd_p) hb]
   k_upd;rw[show decide (b<0)=false by simp;exact tB hb]
   k_upd;rw[show decide (a<0)=true by simp;exact ag 0 1 (aa (dJ (ai aJ aq)) (aK aq aJ)) (by kd_p) h0]
   k_upd;have e1:Builtin.bitNot a = -a-1:=by unfold Builtin.bitNot;rfl
   rw[e1];refine bD.K (by obtain⟨P',uK⟩:=hG.K;rw[uK];kd_p) (aU.deeper (n:=305) (jM hG (Nat.le_refl _) (by exact ag 0 2 (aa (dJ (ai aJ aN)) (aa (aS aq (bR (cI aN) bV)) (ai aJ (bR (cI aN) bV)))) (by kd_p) h0 e1) hb hw (ha.not (by exact ag 0 2 (aa (dJ (ai aJ aN)) (aa (aS aq (bR (cI aN) bV)) (aK aN aJ))) (by kd_p) h0 e1)) ?_) (by omega))
   k_upd;refine⟨.of (by simp),?_⟩
   refine⟨.tuple (by simp[lM]),?_⟩
   rw[List.take_length];have e2:∀z,Builtin.bitNot z = -z-1:=fun z=>by unfold Builtin.bitNot;rfl
   have hf:=BI (a:=a) hb;rw[e2,e2,Int.fdiv_eq_ediv_of_nonneg _ (by exact Nq hb hf),Int.fmod_eq_emod_of_nonneg _ (by exact Nq hb hf),hf.1,hf.2]
   exact q
theorem uL(hG:bx G){n:Nat}{O:Mu}{Q:V→Mu→Prop}{a b:Int}(hn:306≤n)(hb:b≠0)(hw:Sz 4000 b)(ha:Sz 250 a)(q:Q (.tuple [.int (a.fdiv b),.int (a.fmod b)]) O):
  aU G (n+1) (.ref 84) [.int a,.int b] [] O Q:=by
 by_cases h0:0<b
 ·exact kj hG (by exact ag 1 0 (aa (ae (nk 306) ab) (ae (nk 305) ab)) (by kd_p) hn) h0 hw ha q
 ·refine fN hG (st:=eU) (own:=eV) [(gH,.int a),(mJ,.int b)] (fun P ys ks B Z r rk=>?_) ?_
  ·refine aB.aO r ?_;intro y zz r1 r
   refine aB.aO r ?_;intro z zz r2 r;refine aB.bE r ?_;refine aB.bE rk ?_;exact⟨[y,z],.cons r1 (.cons r2 .nil),fun S=>by kd_p⟩
  ·unfold eU
   k_upd;rw[show(b==0)=false by simp;omega]
   k_upd;rw[show decide (b<0)=true by simp;exact y9 hb h0]
   k_upd;refine bD.K (by obtain⟨P',uK⟩:=hG.K;rw[uK];kd_p) (aU.deeper (n:=306) (kj hG (Nat.le_refl _) (by exact ag 0 1 (aa (fI aq aJ) (aa (dJ (aK aJ aq)) (aK aJ (cI aq)))) (by kd_p) hb h0) hw.neg ha.neg ?_) (by omega))
   k_upd;refine⟨.of (by simp),?_⟩
   refine⟨.tuple (by simp[lM]),?_⟩
   rw[List.take_length];have e1:(-a).fdiv (-b)=a.fdiv b:=by rw[Int.neg_fdiv_neg]
   have e2 : -((-a).fmod (-b))=a.fmod b:=by
    have h1:=Int.mul_fdiv_add_fmod (-a) (-b);have h2:=Int.mul_fdiv_add_fmod a b;rw[e1,Int.neg_mul]at h1;exact ag 0 4 (aa (aS (bh (cI aN) fy) (cI aq)) (aa (aS (bh aN cu) aq) (aS (cI fy) cu))) (by kd_p) h1 h2
   rw[e1,e2];exact q
theorem kl{turn:V→aw→Mu→List V→(aw→Mu→List V→Prop)→Prop}{J:aw→Prop}{O:Mu}{M:Nat}(g:V→List V)(hg:∀x,(g x).length≤1):
  ∀ {xs:List V} (step:∀x∈xs,∀U acc k,J U→acc.length<M→(∀ao,J ao→k ao O (acc++g x))→turn x U O acc k) {U:aw} {acc:List V} {k:aw→Mu→List V→Prop},J U→acc.length+xs.length≤M→(∀ao,J ao→k ao O (acc++xs.flatMap g))→cb turn xs U O acc k
 |[],_,U,acc,k,hJ,_,hk=>by
  have:=hk U hJ;rw[List.flatMap_nil,List.append_nil]at this;exact this
 |x::xs,step,U,acc,k,hJ,hM,hk=>by
  refine step x (.head _) U acc _ hJ (by simp at hM;exact ag 3 0 (aa (ae (aj au (aj ab aC)) af) (ak au af)) (by kd_p) hM) fun ao Rq=>?_
  refine kl g hg (fun y hy=>step y (.tail _ hy)) Rq ?_ fun fK IP=>?_
  ·have:=hg x
   simp at hM ⊢;exact ag 4 0 (aa (ae (aj aM (aj af aC)) ab) (aa (ae au aC) (ae (aj (aj aM au) af) ab))) (by kd_p) hM this
  ·have:=hk fK IP
   rw[List.flatMap_cons,←List.append_assoc]at this;exact this
theorem mR{p:Nat→Bool}:∀ (f lo hi:Nat),lo≤hi→lo≤cP p f lo hi∧cP p f lo hi≤hi
 |0,lo,hi,h=>⟨Nat.le_refl _,h⟩
 |f+1,lo,hi,h=>by
  rw[oX]
  by_cases h1:lo<hi
  ·rw[if_pos h1]
   by_cases h2:p ((lo+hi)/2)=true
   ·rw[if_pos h2]
    obtain⟨a,b⟩:=mR (p:=p) f lo ((lo+hi)/2) (by exact Tn h1)
    exact⟨a,by exact Tv h1 b⟩
   ·rw[if_neg h2]
    obtain⟨a,b⟩:=mR (p:=p) f ((lo+hi)/2+1) hi (by exact Tw h1)
    exact⟨by exact Tx h1 a,b⟩
  ·rw[if_neg h1];exact⟨Nat.le_refl _,h⟩
noncomputable def ei(row:List Int)(x:Int):Nat:=cP (fun i=>decide (x<row.getD i 0)) row.length 0 row.length
theorem IQ(row:List Int)(x:Int):ei row x≤row.length:=(mR _ _ _ (Nat.zero_le _)).2
noncomputable def cY:List (List Int)→Int→List (List Int)
 |[],_=>[]
 |r::rs,x=>if ei r x=r.length then(r++[x])::rs else r.set (ei r x) x::cY rs (r.getD (ei r x) 0)
noncomputable def rows0(F:List (List Int))(k:Nat):List Int:=F.filterMap (·[k]?)
noncomputable def lettersOf(a b c:Int):List Int:=times [3] c++times [2] b++times [1] a
noncomputable def gC(F:List (List Int))(a b c:Int):List (List Int):=(lettersOf a b c).foldl cY [rows0 F 0,rows0 F 1,rows0 F 2]
noncomputable def cH(F:List (List Int)):V:=.list (F.map fun c=>.list (c.map .int))
theorem yy(hG:bx G){n:Nat}{U:aw}{O:Mu}{k:Fl→aw→Mu→Prop}{j:Nat}{row:List Int}{x:Int}(hj:(O[j]?:Option (Option (List V)))=some (some (row.map .int)))(hl:row.length≤1000)(hx:get U nI=some (.int x))
  (hb:∀ao,get ao lD=get U lD→ei row x=row.length→k .brk ao (O.set j (some ((row++[x]).map .int))))
  (hn:∀ao,get ao lD=get U lD→ei row x≠row.length→get ao nI=some (.int (row.getD (ei row x) 0))→k .next ao (O.set j (some ((row.set (ei row x) x).map .int)))):
  aX G bX (n+1) (.cons (.asg (.name 98) (.call (.glob 42) (.cons (.var 97) (.cons (.var 71) .nil)))) (.cons (.iff (.cmp .Eq (.var 98) (.call (.glob 6) (.cons (.var 97) .nil))) (.cons (.expr (.cA (.var 97) "append" (.cons (.var 71) .nil))) (.cons .brk .nil)) .nil) (.cons (.asg (.g9 (.name 71) (.sub (.var 97) (.var 98))) (.tup (.cons (.sub (.var 97) (.var 98)) (.cons (.var 71) .nil)))) .nil)))
   (set U 97 (.ml j)) O k:=by
 have Vv:get (set U 97 (.ml j)) 97=some (.ml j):=gs;have LQ:get (set U 97 (.ml j)) 71=some (.int x):=gn hx;have LR:get (set U 97 (.ml j)) 96=get U 96:=gn rfl;generalize set U 97 (.ml j)=a9 at Vv LQ LR;k_upd;refine bD.K (hG.keep (fun P=>by kd_p)) (qJ hG (.inr ⟨j,rfl,hj⟩) (by exact Nr hl) ?_)
 show aX _ _ _ _ (set a9 98 (.int (ei row x:Nat))) _ _;k_upd;have Vw:get (set a9 98 (.int (ei row x:Nat))) 98=some (.int (ei row x:Nat)):=gs;have Rr:get (set a9 98 (.int (ei row x:Nat))) 97=some (.ml j):=gn Vv;have Rt:get (set a9 98 (.int (ei row x:Nat))) 71=some (.int x):=gn LQ;have uM:get (set a9 98 (.int (ei row x:Nat))) 96=get U 96:=gn LR;generalize set a9 98 (.int (ei row x:Nat))=b9 at Vw Rr Rt uM;have hle:=IQ row x;k_upd;refine fj hj (cp.of (by simp;exact tA hl)).ok ?_
 k_upd;rw[List.length_map]
 by_cases he:ei row x=row.length
 ·rw[show(((ei row x:Nat):Int)==(row.length:Int))=true by simp[he]]
  k_upd;refine bB (bU Rr ?_);refine⟨_,fC hj,?_⟩;k_upd;refine fD hj (by simp;rw[sizeLine_eq];exact ag 2 0 (aa (ae af bw) (aa (ax ab af) (ae af bq))) (by kd_p) hl he) .int ?_
  k_upd;have:=hb b9 uM he;rw[List.map_append]at this;exact this
 ·rw[show(((ei row x:Nat):Int)==(row.length:Int))=false by simp;exact Nt he]
  have hv:(row.map V.int)[cF ((ei row x:Nat):Int) (row.map V.int).length]?=some (.int (row.getD (ei row x) 0)):=by
   unfold cF;rw[if_neg (by exact xH)]
   have:ei row x<row.length:=by exact Nu hle he
   simp[this]
  k_upd;refine xZ hj hv (by exact ag 3 0 (aa (ae ab bw) (aa (ae af ab) (ai (cI (az au)) (az af)))) (by kd_p) hl hle) (.of (by simp;exact tA hl)) ?_
  k_upd;refine⟨.of (by simp),?_⟩
  k_upd;have i97:get (set b9 71 (.int (row.getD (ei row x) 0))) 97=some (.ml j):=gn Rr;have i98:get (set b9 71 (.int (row.getD (ei row x) 0))) 98=some (.int (ei row x:Nat)):=gn Vw;k_upd;refine x3 hj (by exact Int.natCast_nonneg _) (by simp;exact Nu hle he) (.of (by simp;exact tA hl)) .int ?_
  k_upd;have:=hn (set b9 71 (.int (row.getD (ei row x) 0))) (gn uM) he (gs);rw[List.map_set]at this;exact this
theorem E6(hG:bx G){n:Nat}{U:aw}{O:Mu}{Q:V→Mu→Prop}{F:List (List Int)}(k:Nat)(hF:F.length≤1000)(hc:∀c∈F,c.length≤1000)(LS:get U 77=some (cH F))(Zy:get U 80=some (.int k))
  (q:Q (.ml O.length) (O++[some ((rows0 F k).map .int)])):
  cC G bX n (.eB true (.sub (.var 72) (.var 80)) 72 (.var 77) (.cons (.cmp .Gt (.call (.glob 6) (.cons (.var 72) .nil)) (.var 80)) .nil) [80] [72]) U O Q:=by
 refine dE (bU LS ⟨_,Iter.list,?_⟩)
 let g:V→List V:=fun v=>match v with | .list c=>(c[k]?).toList|_=>[]
 have hg:∀x,(g x).length≤1:=fun x=>by
  cases x<;>simp only[g,List.length_nil,Nat.zero_le];rename_i c;cases c[k]?<;>simp
 refine kl (J:=fun ao=>get ao 80=some (.int k)) (M:=F.length) g hg (fun x hx ao acc K hJ hM hK=>?_) ?_ (by simp) (fun ao hJ=>?_)
 ·refine aW (List.mem_map.mp hx) ?_;intro c Zz z1;subst z1
  have cj:=hc c Zz;have ZA:get (set ao 72 (.list (c.map V.int))) 72=some (.list (c.map V.int)):=gs;have Ru:get (set ao 72 (.list (c.map V.int))) 80=some (.int k):=gn hJ;refine kU ?_;generalize set ao 72 (.list (c.map V.int))=a9 at ZA Ru;k_upd;refine cN (cp.of (by simp;exact tA cj)).ok ?_
  k_upd;rw[List.length_map]
  by_cases hk:k<c.length
  ·rw[show decide ((k:Int)<(c.length:Int))=true by simpa using hk]
   have hv:(c.map V.int)[cF ((k:Nat):Int) (c.map V.int).length]?=some (.int c[k]):=by
    unfold cF;rw[if_neg (by exact xH)]
    simp[hk]
   k_upd;refine V_at hv (by exact ag 3 0 (aa (ae ab bw) (aa (ak af ab) (ai (cI (az au)) (az af)))) (by kd_p) cj hk) (.of (by simp;exact tA cj)) ?_
   refine⟨.of (by exact ag 2 0 (aa (ae ab bw) (aa (ak af ab) (ae (aj af aC) aQ))) (by kd_p) hF hM),?_⟩
   have:=hK a9 Ru;simpa[g,hk] using this
  ·rw[show decide ((k:Int)<(c.length:Int))=false by simpa using hk]
   have:=hK a9 Ru;have e:c[k]?=none:=List.getElem?_eq_none (by exact Pw hk)
   simpa[g,e] using this
 ·show get (cz U [80]) 80=_
  unfold cz;rw[Zy];first|done|rfl
 ·have e:([]:List V)++(F.map fun c=>V.list (c.map .int)).flatMap g=(rows0 F k).map .int:=by
   unfold rows0;rw[List.nil_append];clear hF hc LS q
   induction F with
   |nil=>rfl
   |cons c F ih=>
    rw[List.map_cons,List.flatMap_cons,ih,List.filterMap_cons];cases h:c[k]? with
    |none=>simp[g,h]
    |some y=>simp[g,h]
  rw[e];exact⟨fun x hx=>by refine aW (List.mem_map.mp hx) ?_;intro i _ z1;subst z1;exact .int,q⟩
theorem oi:∀ (rows:List (List Int)) (x:Int),(cY rows x).length=rows.length
 |[],_=>rfl
 |r::rs,x=>by
  unfold cY;split
  ·rfl
  ·rw[List.length_cons,oi rs,List.length_cons]
theorem o4(F:List (List Int))(k:Nat):(rows0 F k).length≤F.length:=by unfold rows0;exact List.length_filterMap_le _ _
noncomputable def fG(O:Mu)(rs:List (List Int)):Mu:=O++rs.map fun r=>some (r.map .int)
theorem z5{rs:List (List Int)}{x:Int}{M:Nat}(h:∀r∈rs,r.length≤M):∀r∈cY rs x,r.length≤M+1:=by
 induction rs generalizing x with
 |nil=>intro r m;cases m
 |cons r rs ih=>
  intro y m;unfold cY at m;split at m
  ·rcases List.mem_cons.mp m with rfl|m
   ·have:=h r (.head _);simp;omega
   ·have:=h y (.tail _ m);exact AU this
  ·rcases List.mem_cons.mp m with rfl|m
   ·have:=h r (.head _);simp;exact AU this
   ·exact ih (fun z hz=>h z (.tail _ hz)) y m
theorem BJ{turn:V→aw→Mu→List V→(aw→Mu→List V→Prop)→Prop}{U:aw}{O:Mu}{acc:List V}{k:aw→Mu→List V→Prop}(h:k U O acc):cb turn [] U O acc k:=h
theorem mS{turn:V→aw→Mu→List V→(aw→Mu→List V→Prop)→Prop}{x:V}{xs:List V}{U:aw}{O:Mu}{acc:List V}{k:aw→Mu→List V→Prop}(h:turn x U O acc fun ao ar n5=>cb turn xs ao ar n5 k):cb turn (x::xs) U O acc k:=h
noncomputable def vU:Nat→Nat→List V
 |_,0=>[]
 |s,k+1=>.ml s::vU (s+1) k
theorem BK{O:Mu}{ps rs:List (List Int)}{r:List Int}:((fG O (ps++r::rs))[O.length+ps.length]?:Option (Option (List V)))=some (some (r.map .int)):=by
 unfold fG;rw[List.getElem?_append_right (by exact GF)]
 simp
theorem rM{O:Mu}{ps rs:List (List Int)}{r r':List Int}:(fG O (ps++r::rs)).set (O.length+ps.length) (some (r'.map .int))=fG O (ps++r'::rs):=by
 unfold fG;rw[List.set_append_right _ _ (by exact GF)]
 simp
noncomputable def E7:Ss:=(.cons (.asg (.name 98) (.call (.glob 42) (.cons (.var 97) (.cons (.var 71) .nil)))) (.cons (.iff (.cmp .Eq (.var 98) (.call (.glob 6) (.cons (.var 97) .nil))) (.cons (.expr (.cA (.var 97) "append" (.cons (.var 71) .nil))) (.cons .brk .nil)) .nil) (.cons (.asg (.g9 (.name 71) (.sub (.var 97) (.var 98))) (.tup (.cons (.sub (.var 97) (.var 98)) (.cons (.var 71) .nil)))) .nil)))
theorem pQ(hG:bx G){n:Nat}{O:Mu}{Q:Fl→aw→Mu→Prop}:∀ (rs ps:List (List Int)) (x:Int) (U:aw),(∀r∈rs,r.length≤1000)→get U nI=some (.int x)→
  (∀ao,get ao lD=get U lD→Q .next ao (fG O (ps++cY rs x)))→
  forL (fun v U O k=>aX G bX (n+1) E7 (set U 97 v) O k) (vU (O.length+ps.length) rs.length) U (fG O (ps++rs)) Q
 |[],ps,x,U,hl,hx,hQ=>hQ U rfl
 |r::rs,ps,x,U,hl,hx,hQ=>by
  refine yy hG BK (hl r (.head _)) hx (fun ao uM he=>?_) (fun ao uM he Rt=>?_)
  ·rw[rM]
   have:=hQ ao uM;unfold cY at this;rw[if_pos he]at this;exact this
  ·rw[rM]
   have e1:ps++r.set (ei r x) x::rs=(ps++[r.set (ei r x) x])++rs:=by simp
   have e2:O.length+ps.length+1=O.length+(ps++[r.set (ei r x) x]).length:=by simp;exact ag 2 0 (ax (aj (aj af ab) aC) (aj af (aj ab aC))) (by kd_p)
   show forL _ (vU (O.length+ps.length+1) rs.length) ao _ _;rw[e1,e2];refine pQ hG rs _ _ ao (fun y m=>hl y (.tail _ m)) Rt fun fK h'=>?_;have:=hQ fK (h'.trans uM);unfold cY at this;rw[if_neg he]at this;simpa using this
theorem km{M:Nat}:∀ (ls:List Int) (rs:List (List Int)),(∀r∈rs,r.length≤M)→∀r∈ls.foldl cY rs,r.length≤M+ls.length
 |[],rs,h=>h
 |x::ls,rs,h=>fun r m=>by
  have:=km (M:=M+1) ls (cY rs x) (z5 h) r m;simp;exact ag 3 0 (aa (ae au (aj (aj af aC) ab)) (ae au (aj af (aj ab aC)))) (by kd_p) this
theorem iY:∀ (ls:List Int) (rs:List (List Int)),(ls.foldl cY rs).length=rs.length
 |[],rs=>rfl
 |x::ls,rs=>by rw[List.foldl_cons,iY ls,oi]
theorem mT{O:Mu}{rs:List (List Int)}{i:Nat}{r:List Int}(h:rs[i]?=some r):((fG O rs)[O.length+i]?:Option (Option (List V)))=some (some (r.map .int)):=by
 unfold fG;rw[List.getElem?_append_right (by exact GF),Nat.add_sub_cancel_left,List.getElem?_map,h]
 rfl
def qN(G:dn)(n:Nat):V→aw→Mu→List V→(aw→Mu→List V→Prop)→Prop:=fun v U O acc k=>eh G bX n .nil (set U 80 v) O fun b aZ=>match b with
 |false=>k (set U 80 v) aZ acc
 |true=>cC G bX n (.eB true (.sub (.var 72) (.var 80)) 72 (.var 77) (.cons (.cmp .Gt (.call (.glob 6) (.cons (.var 72) .nil)) (.var 80)) .nil) [80] [72]) (set U 80 v) aZ fun u dN=>gM (acc.length+1)∧k (set U 80 v) dN (acc++[u])
theorem uN(hG:bx G){n:Nat}{O:Mu}{Q:V→Mu→Prop}{F:List (List Int)}{a b c:Int}(hF:F.length≤100)(hc:∀x∈F,x.length≤100)(ha:0≤a∧a≤100)(hb:0≤b∧b≤100)(nW:0≤c∧c≤100)
  (q:Q (.list ((gC F a b c).map fun r=>.list (r.map .int))) O):
  aX G bX (n+1) kH (bc [] [(lC,cH F),(kX,.list [.int a,.int b,.int c])]) O (wJ O Q):=by
 have zT:(2:Int) ^ 63=9223372036854775808:=by decide
 have EH:(2:Nat) ^ 24=16777216:=by decide
 unfold kH;k_upd;refine dE ?_;k_upd;refine d5 ?_;refine⟨_,Iter.gE (by decide),?_⟩
 have e3:cJ 0 3=[.int (0:Nat),.int (1:Nat),.int (2:Nat)]:=rfl;rw[e3];have IS:cz (bc [] [(lC,cH F),(kX,.list [.int a,.int b,.int c])]) [77]=[(77,cH F)]:=rfl;rw[IS];have step:∀ (k:Nat) (ao:aw) (ar:Mu) (acc:List V) (K:aw→Mu→List V→Prop),get ao 77=some (cH F)→acc.length≤3→(∀fK,get fK 77=some (cH F)→K fK (ar++[some ((rows0 F k).map .int)]) (acc++[.ml ar.length]))→
   qN G (n+1) (.int k) ao ar acc K:=by
  intro k ao ar acc K LS Vx hK;have sJ:get (set ao 80 (.int k)) 77=some (cH F):=gn LS;unfold qN;refine cR ?_;exact E6 hG k (by exact Nv hF) (fun x m=>by have:=hc x m;exact Nv this) sJ (gs) ⟨.of (by exact GG Vx),hK _ sJ⟩
 show cb (qN G (n+1)) _ _ _ _ _;refine mS (step 0 [(77,cH F)] O [] _ rfl (by simp) fun a9 h1=>?_)
 refine mS (step 1 a9 _ _ _ h1 (by simp) fun b9 h2=>?_)
 refine mS (step 2 b9 _ _ _ h2 (by simp) fun gG h3=>?_)
 refine BJ (bK ?_);have ZC:O++[some (List.map V.int (rows0 F 0))]++[some (List.map V.int (rows0 F 1))]++[some (List.map V.int (rows0 F 2))]=fG O [rows0 F 0,rows0 F 1,rows0 F 2]:=by unfold fG;simp
 rw[ZC];have ev:(([]++[V.ml O.length]++[V.ml (O++[some (List.map V.int (rows0 F 0))]).length]++[V.ml (O++[some (List.map V.int (rows0 F 0))]++[some (List.map V.int (rows0 F 1))]).length]):List V)=vU O.length 3:=by simp[vU]
 rw[ev];k_upd;generalize LK:set (bc [] [(lC,cH F),(kX,.list [.int a,.int b,.int c])]) 96 (V.list (vU O.length 3))=my;have LR:get my 96=some (.list (vU O.length 3)):=by rw[←LK];rfl
 have ZD:get my 68=some (.list [.int a,.int b,.int c]):=by rw[←LK];rfl
 try refine gN ?_
 k_upd;refine⟨.of (by simp),bK ?_⟩
 k_upd;refine V_at (v:=.int c) rfl (by simp) (.of (by simp)) ?_
 refine lx ⟨by exact GH nW,by exact GI nW,by simp;exact GJ nW⟩ ?_
 k_upd;refine⟨.of (by simp),bK ?_⟩
 k_upd;refine V_at (v:=.int b) rfl (by simp) (.of (by simp)) ?_
 refine lx ⟨by exact GH hb,by exact GI hb,by simp;exact GJ hb⟩ ?_
 refine td ⟨by rw[sizeLine_eq];simp[eO];exact ag 0 2 (aa (aT (ai aJ aq) (ai aq dm)) (aa (aT (ai aJ aN) (ai aN dm)) (ae (aj (dB aN) (dB aq)) bq))) (by kd_p) hb nW⟩ ?_
 k_upd;refine⟨.of (by simp),bK ?_⟩
 k_upd;refine V_at (v:=.int a) rfl (by simp) (.of (by simp)) ?_
 refine lx ⟨by exact GH ha,by exact GI ha,by simp;exact GJ ha⟩ ?_
 refine td ⟨by rw[sizeLine_eq];simp[eO];exact ag 0 3 (aa (aT (ai aJ aq) (ai aq dm)) (aa (aT (ai aJ aN) (ai aN dm)) (aa (aT (ai aJ cu) (ai cu dm)) (ae (aj (aj (dB cu) (dB aN)) (dB aq)) bq)))) (by kd_p) ha hb nW⟩ ?_
 refine⟨_,Iter.list,?_⟩;have el:times [V.int 3] c++times [V.int 2] b++times [V.int 1] a=(lettersOf a b c).map V.int:=by
  unfold lettersOf;simp[eO]
 rw[el];have yz:(lettersOf a b c).length≤300:=by
  unfold lettersOf;simp[eO];exact ag 0 3 (aa (aT (ai aJ aq) (ai aq dm)) (aa (aT (ai aJ aN) (ai aN dm)) (aa (aT (ai aJ cu) (ai cu dm)) (ae (aj (dB cu) (aj (dB aN) (dB aq))) cS)))) (by kd_p) ha hb nW
 refine dA (fun i ao ar=>ar=fG O (((lettersOf a b c).take i).foldl cY [rows0 F 0,rows0 F 1,rows0 F 2])∧get ao 96=some (.list (vU O.length 3))) (fun i x ao ar k hx hJ jL kI vT=>?_) (fun ao ar hJ=>?_) ⟨rfl,LR⟩
 ·obtain⟨rfl,uM⟩:=hJ
  have hi:i<(lettersOf a b c).length:=by have:=(List.getElem?_eq_some_iff.mp hx).1;simpa using this
  have yx:x=.int (lettersOf a b c)[i]:=by
   rw[List.getElem?_map,List.getElem?_eq_getElem hi]at hx;simpa using hx.symm
  subst yx;have LQ:get (set ao 71 (.int (lettersOf a b c)[i])) nI=some (.int (lettersOf a b c)[i]):=gs;have Vy:get (set ao 71 (.int (lettersOf a b c)[i])) lD=some (.list (vU O.length 3)):=gn uM;refine ic (gN (bU Vy ⟨_,Iter.list,?_⟩));generalize Rv:List.foldl cY [rows0 F 0,rows0 F 1,rows0 F 2] ((lettersOf a b c).take i)=rs;have hlen:rs.length=3:=by rw[←Rv,iY];rfl
  have z6:∀r∈rs,r.length≤1000:=by
   intro r m;rw[←Rv]at m;have:=km (M:=100) _ [rows0 F 0,rows0 F 1,rows0 F 2] (fun r m=>by
    have h0:=o4 F 0;have h1:=o4 F 1;have h2:=o4 F 2;simp only[List.mem_cons,List.not_mem_nil,or_false]at m;rcases m with rfl|rfl|rfl<;>(first|exact GK hF h0|exact GK hF h1|exact GK hF h2)) r m
   rw[List.length_take]at this;exact ag 3 0 (aa (ae af cS) (aa (ak ab af) (aa (ae au (aj cy (jS ab af))) (ae au bw)))) (by kd_p) yz hi this
  have:=pQ hG (n:=n) (O:=O) (Q:=fun f IT aA=>match f with | .next=>aX G bX (n+1) .nil IT aA k|f=>k f IT aA) rs [] (lettersOf a b c)[i] (set ao 71 (.int (lettersOf a b c)[i])) z6 LQ (fun fK h=>?_)
  ·rw[hlen]at this
   exact this
  ·refine eG (jL fK _ ⟨?_,h.trans Vy⟩)
   rw[List.nil_append,List.take_add_one,List.getElem?_eq_getElem hi,Option.toList_some,List.foldl_append,Rv]
   rfl
 ·obtain⟨rfl,uM⟩:=hJ
  rw[List.length_map,List.take_length];refine ic (uf (bU uM ?_));show ∃v',Res O.length _ (.list (vU O.length 3)) v'∧Q v' (List.take O.length _);have hp:List.foldl cY [rows0 F 0,rows0 F 1,rows0 F 2] (lettersOf a b c)=gC F a b c:=rfl;rw[hp];have BL:(gC F a b c).length=3:=by rw[←hp,iY];rfl
  refine⟨.list ((gC F a b c).map fun r=>.list (r.map .int)),?_,?_⟩
  ·match hq:gC F a b c,BL with
   |[r0,r1,r2],_=>
    refine .list rfl fun i x y hx hy=>?_
    match i,hx,hy with
    |0,hx,hy=>
     cases hx;cases hy;exact .ml (Nat.le_refl _) (mT (i:=0) rfl)
    |1,hx,hy=>
     cases hx;cases hy;exact .ml (by exact ag 1 0 (ae ab (aj ab aC)) (by kd_p)) (mT (i:=1) rfl)
    |2,hx,hy=>
     cases hx;cases hy;exact .ml (by exact ag 1 0 (ae ab (aj (aj ab aC) aC)) (by kd_p)) (mT (i:=2) rfl)
    |i+3,hx,hy=>cases hx
  ·unfold fG
   rw[List.take_append_of_le_length (Nat.le_refl _),List.take_length];exact q
theorem uO(hG:bx G){n:Nat}{O:Mu}{Q:V→Mu→Prop}{F:List (List Int)}{a b c:Int}(hF:F.length≤100)(hc:∀x∈F,x.length≤100)(ha:0≤a∧a≤100)(hb:0≤b∧b≤100)(nW:0≤c∧c≤100)
  (q:Q (.list ((gC F a b c).map fun r=>.list (r.map .int))) O):aU G (n+2) (.ref 213) [cH F,.list [.int a,.int b,.int c]] [] O Q:=by
 refine yh hG (st:=kH) (own:=vK) [(lC,cH F),(kX,.list [.int a,.int b,.int c])] (fun P ys ks B Z r rk=>?_) (uN hG hF hc ha hb nW q);refine aB.aO r ?_;intro y zz r1 r;refine aB.aO r ?_;intro z zz r2 r;refine aB.bE r ?_;refine aB.bE rk ?_;exact⟨[y,z],.cons r1 (.cons r2 .nil),fun S=>by kd_p⟩
noncomputable def yA:Str:=⟨#[92]⟩
noncomputable def cD:Nat→Bool→List Nat→List (Int×Str)
 |i,fT,[]=>if fT then[((i:Int)-1,yA)] else[]
 |i,true,c::cs=>((i:Int),yA++⟨#[c]⟩)::cD (i+1) false cs
 |i,false,c::cs=>if c=92 then cD (i+1) true cs else((i:Int),⟨#[c]⟩)::cD (i+1) false cs
noncomputable def fO(x:Str):List (Int×Str):=cD 0 false x.cps.toList
noncomputable def yB:T:=.val (.var gy)
noncomputable def OK:E:=.tup (.cons (.var d6) (.cons (.bin .Add (.str "\\") (.var fq)) .nil))
noncomputable def OL:E:=.tup (.cons (.var d6) (.cons (.var fq) .nil))
noncomputable def IU:E:=.tup (.cons (.var d6) (.cons (.str "\\") .nil))
structure mU(sc:Scope)(g:gp):Prop where
 s1:mI aI (.asg (.name d6) (.int 0)) sc bI g.s1
 s2:mI aI (.asg (.name gy) (.bool false)) sc bI g.s2
 tg:Ia aI sc bI (.g9 (.name d6) (.name fq)) g.tg
 it:qy aI (.call (.glob fE) (.cons (.var eK) .nil)) sc g.it
 t1:x8 aI yB sc g.t1
 e1:qy aI OK sc g.e1
 sF:mI aI (.asg (.name gy) (.bool false)) sc bI g.sF
 t2:x8 aI (.cmp .Eq (.var fq) (.str "\\")) sc g.t2
 sT:mI aI (.asg (.name gy) (.bool true)) sc bI g.sT
 e2:qy aI OL sc g.e2
 t3:x8 aI yB sc g.t3
 e3:qy aI IU sc g.e3
 kind:sc.kind=.function
 nc:∀p∈sc.names,p.2≠.cell
 co:sc.isCoroutine=false
noncomputable def LU(P:Params):gp:=Ra (dy (ba (KP P) 28).body)
theorem LV(P:Params):dy (ba (KP P) 28).body=(LU P).body (posOf (LU P).ps):=by kd_p
theorem Vz(P:Params):(ba (KP P) 28).scope.names.all (fun p=>p.2 != .cell)=true:=by kd_p
theorem IV(P:Params):mU (ba (KP P) 28).scope (LU P):=
 ⟨⟨by kd_p,by kd_p⟩,⟨by kd_p,by kd_p⟩,⟨by kd_p,by kd_p⟩,    ⟨by kd_p,by kd_p⟩,⟨by kd_p,by kd_p⟩,⟨by kd_p,by kd_p⟩,⟨by kd_p,by kd_p⟩,⟨by kd_p,by kd_p⟩,⟨by kd_p,by kd_p⟩,⟨by kd_p,by kd_p⟩,⟨by kd_p,by kd_p⟩,⟨by kd_p,by kd_p⟩,by kd_p,(fun p m e=>by
   have:=List.all_eq_true.mp (Vz P) p m;rw[e]at this;cases this),by kd_p⟩
theorem mU.tup{sc:Scope}{g:gp}(h:mU sc g):∃a b c,g.tg=.Tuple a b c:=⟨_,_,_,h.tg.2.symm⟩
def wU(W:List Addr)(s0 s':Shared):Prop:=(∀b o,b∉W→s0.heap.get? b=some o→s'.heap.get? b=some o)∧Rest s0 s'
def Dy(G:dn)(W:List Addr)(s' dj:Shared):Prop:=(∀a∈W,∀o,s'.heap.get? a=some o→dj.heap.get? a=some o)∧oT G dj.heap
noncomputable def YP(G:dn)(W:List Addr)(its:List (Int×Str)):Protocol:=fun m s0 v s' E8=>
 ∃p T a b k,its[its.length-1-m]?=some p∧v=.ref T∧s'.heap.get? T=some (gY [.int p.1 a,.str p.2 b] k)∧wU W s0 s'∧(∀a∈W,∃o,s'.heap.get? a=some o)∧(T∉W∧(G.Bs T≠none∨s0.heap.get? T=none))∧∀dj,Dy G W s' dj→E8 (.send .none) dj
def PP(W:List Addr):Nat→Shared→Shared→Prop:=fun n s0 s'=>n=0∧wU W s0 s'
noncomputable abbrev RP(W:List Addr):GenEnd:=fun n s0 r s'=>r=.ok (.ret .none)∧PP W n s0 s'
noncomputable abbrev IW:Flow→Sem Fin:=fun f=>.pure (.done (.ret (match f with | .ret v=>v|_=>.none)))
noncomputable abbrev rN(env:Env):Value→Sem Fin:=fun e=>(leaving env e).wrap (fun zz=>.raise e) .raise id id
theorem fS.VA{T:Addr→Option Obj}{W:List Addr}{B:ay}{s0 s:Shared}(I:fS G T W B s0 s):wU W s0 s:=⟨I.keep,I.rest⟩
theorem wV{T:Addr→Option Obj}{W:List Addr}{B:ay}{s0 s:Shared}{its:List (Int×Str)}{m:Nat}{p:Int×Str}{v:Value}{E8:Resume→Shared→Prop}(I:fS G T W B s0 s)(hp:its[its.length-1-m]?=some p)(r:VR B [] (.tuple [.int p.1,.str p.2]) v)
  (hk:∀dj,Dy G W s dj→E8 (.send .none) dj):YP G W its m s0 v s E8:=by
 refine VR.Oo r ?_;intro a vs n e l h;revert e;refine aB.aO ⟨l,h⟩ ?_;intro u us r1 rs;refine aB.aO rs ?_;intro t us r2 rs;refine aB.bE rs ?_;refine VR.bC r1 ?_;intro zz;refine VR.fQ r2 ?_;intro zz e;refine⟨p,a,_,_,n,hp,rfl,I.inv.holds _ _ e,I.VA,fun b m=>(I.off b m).2.2,⟨fun m=>?_,I.fresh _ (by rw[e];simp)⟩,hk⟩
 rw[(I.off a m).1]at e;exact bk e
theorem fu{B:ay}{Z:List Addr}{O:Mu}{h:Heap}(I:Inv G B Z O h)(iy:O=[]):Z=[]:=by
 have:=I.len;rw[iy]at this;exact List.eq_nil_of_length_eq_zero this
theorem wU.refl(W:List Addr)(s:Shared):wU W s s:=⟨fun zz zz zz e=>e,.refl s⟩
theorem E9(hG:bx G){A:Around}{n:Nat}{env:Env}{sc:Scope}{g:gp}{p:Nat→Pos}{body:List Stmt}{W:List Addr}{its:List (Int×Str)}{s0 s:Shared}{T:Addr→Option Obj}{B:ay}{U:aw}{fT:Bool}{pos:Int}
  (hA:bY 3 (A.over (.func body env) []))(hs:env.scope=sc)(ok:mU sc g)(run:fS G T W B s0 s)(fr:bt (G.gen T) env B [] U s.heap)(VB:get U 0=some (.bool fT))(t7:get U 1=some (.int pos))
  (hits:if fT then n=1∧its[its.length-1]?=some (pos,yA) else n=0):
  Seg (model G.prog G.w) A (RP W) (YP G W its) n s0 (.func body env) ((execs (g.tail p) env).wrap IW (rN env) id id) [] s:=by
 have hi:interactive env=false:=by unfold interactive;rw[hs,ok.kind];rfl
 have uu:env.scope.isCoroutine=false:=by rw[hs];exact ok.co
 refine seg_execs_cons (yi (wpAny_mono (ug (G:=G.gen T) (n:=3) hG.nm hG.gl yB ok.t3 hs (U:=U) (O:=[]) (Q:=fun b ar=>b=fT∧ar=[]) (ue (bU VB (iB ⟨rfl,rfl⟩))) _ hA B [] s run.inv fr) ?_ fun zz zz x=>x));rintro b s1 ⟨aA,B1,aE,⟨rfl,rfl⟩,P1⟩;have dM:=fu P1.inv rfl;subst dM;have rO:=run.post P1 (fun zz m=>nomatch m);have Rw:=fr.same P1;cases b with
 |false=>
  simp only[Bool.false_eq_true,if_false]at hits;subst hits;exact seg_execs_nil (seg_execs_nil (seg_end (.ok (.ret .none)) ⟨rfl,rfl,rO.VA⟩))
 |true=>
  simp only[if_true]at hits;obtain⟨rfl,hp⟩:=hits;refine seg_execs_cons (seg_Expr_Yield rfl rfl rfl (wpAny_mono (zB (G:=G.gen T) (n:=3) hG.nm hG.gl IU ok.e3 hs (U:=U) (O:=[]) (Q:=fun v ar=>v=.tuple [.int pos,.str yA]∧ar=[]) ?_ _ hA B1 [] s1 rO.inv Rw) ?_ fun zz zz x=>x.elim) uu hi)
  ·unfold IU
   k_upd;exact⟨.of (by simp),rfl,rfl⟩
  ·rintro v s2 ⟨v',aZ,B2,aV,⟨rfl,rfl⟩,P2,r2⟩ E8 hk
   have dM:=fu P2.inv rfl;subst dM;refine wV (rO.post P2 (fun zz m=>nomatch m)) hp r2 fun dj wk=>hk .none dj ?_;exact seg_execs_nil (seg_execs_nil (seg_end (.ok (.ret .none)) ⟨rfl,rfl,wU.refl _ _⟩))
structure yC(G:dn)(env:Env)(W:List Addr)(e it:Addr)(x:Str)(tx:Tok)(i:Nat)(fT:Bool)(s0 s:Shared):Prop where
 ex:∃T B U,fS G T W B s0 s∧bt (G.gen T) env B [] U s.heap∧oV U∧get U 2=some (.str x)∧get U 0=some (.bool fT)∧get U 1=some (.int (if i=0 then 0 else(i:Int)-1))
 st:(∃old,IsEnum s.heap e it i old)∧s.heap.IsStrIter it (strIterType x) x tx i
 aae:fT=true→0<i
structure iZ(G:dn)(env:Env)(W:List Addr)(e it:Addr)(x:Str)(tx:Tok)(i c:Nat)(fT:Bool)(s0 s:Shared):Prop where
 ex:∃T B U,fS G T W B s0 s∧bt (G.gen T) env B [] U s.heap∧oV U∧get U 2=some (.str x)∧get U 0=some (.bool fT)∧get U 1=some (.int i)∧get U 3=some (.str ⟨#[c]⟩)
 st:(∃old,IsEnum s.heap e it ((i+1:Nat):Int) old)∧s.heap.IsStrIter it (strIterType x) x tx (i+1)
theorem iZ.wake(dW:∀a∈tabs,G.Bs a=none){env:Env}{W:List Addr}{e it:Addr}{x:Str}{tx:Tok}{i c:Nat}{fT:Bool}{s0 s dj:Shared}(h:iZ G env W e it x tx i c fT s0 s)(hc:env.cells=[])(hW:W=[env.locals,e,it])(BM:∀a∈W,G.Bs a=none)(wk:Dy G W s dj):iZ G env W e it x tx i c fT dj dj:=by
 obtain⟨⟨T,B,U,run,fr,dP,g2,g0,g1,g3⟩,⟨old,he⟩,fZ⟩:=h;subst hW;have hL:∀o,s.heap.get? env.locals=some o→dj.heap.get? env.locals=some o:=wk.1 _ (by simp)
 refine⟨⟨dj.heap.get?,G.Bs,U,.start dW wk.2 fun a m=>?_,fr.reset dP hc hL (BM _ (by simp)) (fun m=>nomatch m),dP,g2,g0,g1,g3⟩,⟨old,wk.1 e (by simp) _ he⟩,?_⟩
 ·refine zb (run.off a m) ?_;intro zz ht o eo
  exact⟨BM a m,ht,o,wk.1 a m o eo⟩
 ·refine aW fZ ?_;clear fZ;intro o eo r
  exact⟨o,wk.1 it (by simp) o eo,r⟩
theorem yD{env:Env}(hc:env.cells=[])(own:List Nat):fa G env own=[env.locals]:=by
 unfold fa;rw[hc]
 congr 1
 induction own with
 |nil=>rfl
 |cons x r ih=>rw[List.filterMap_cons];exact ih
theorem pR{T:Addr→Option Obj}{W:List Addr}{B B':ay}{env:Env}{s0 s s':Shared}{own:List Nat}{aH:List Addr}{ar:Mu}{a:Addr}{o:Obj}(run:fS G T W B s0 s)(P:aG (G.gen T) (fa (G.gen T) env own) B [] s B' aH ar s')(hc:env.cells=[])(ha:a∈W)(hn:env.locals≠a)(eo:s.heap.get? a=some o):s'.heap.get? a=some o:=
 P.kept eo (by rw[yD hc];intro m;exact hn (List.mem_singleton.mp m).symm) (fun m=>nomatch m) (run.off a ha).2.1
theorem rP(hG:bx G){A:Around}{n:Nat}{env:Env}{sc:Scope}{st:Stmt}{b:Bool}{c0:Code}{fs:List Frame}{R:GenEnd}{Y:Protocol}{K:Flow→Sem Fin}{H:Value→Sem Fin}{W:List Addr}{e it:Addr}{x:Str}{tx:Tok}{i c:Nat}{fT:Bool}{s0 s1 s:Shared}
  (hA:bY 3 (A.over c0 fs))(hs:env.scope=sc)(hk:sc.kind=.function)(fZ:mI aI (.asg (.name gy) (.bool b)) sc bI st)(hc:env.cells=[])(hW:W=[env.locals,e,it])(BN:env.locals≠e)(z7:env.locals≠it)
  (h:iZ G env W e it x tx i c fT s0 s)(hK:∀s',yC G env W e it x tx (i+1) b s0 s'→Seg (model G.prog G.w) A R Y n s1 c0 (K .next) fs s'):
  Seg (model G.prog G.w) A R Y n s1 c0 ((exec st env).wrap K H id id) fs s:=by
 obtain⟨⟨T,B,U,run,fr,dP,g2,g0,g1,g3⟩,⟨old,he⟩,hit⟩:=h;refine qG (wpAny_mono (Ic (G:=G.gen T) (n:=3) hG.nm hG.gl (.asg (.name gy) (.bool b)) hk fZ hs (U:=U) (O:=[]) (Q:=fun f ao ar=>f=.next∧ao=set U gy (.bool b)∧ar=[]) (wB (wz ⟨rfl,rfl,rfl⟩)) _ hA B [] s run.inv fr) ?_ fun zz zz x=>x)
 rintro f s' ⟨r,ao,ar,B',aH,⟨rfl,rfl,rfl⟩,P,F,rf⟩;cases rf;have dM:=fu P.inv rfl;subst dM;have IX:∀a∈fa (G.gen T) env bI,a∈W:=by
  rw[yD hc,hW];intro a m;rw[List.mem_singleton.mp m];simp
 refine hK s' ⟨⟨T,B',_,run.post P IX,F,dP.set .bool,?_,?_,?_⟩,⟨⟨old,pR run P hc (by rw[hW];simp) BN he⟩,?_⟩,fun zz=>Nat.succ_pos _⟩
 ·rw[get_set];exact g2
 ·rw[get_set];rfl
 ·rw[get_set,if_neg (Nat.succ_ne_zero i)]
  refine(show get U 1=_ from g1).trans ?_
  congr 2;exact Nw
 ·refine aW hit ?_;clear hit;intro o eo r
  exact⟨o,pR run P hc (by rw[hW];simp) z7 eo,r⟩
theorem iZ.loop{env:Env}{W:List Addr}{e it:Addr}{x:Str}{tx:Tok}{i c:Nat}{fT:Bool}{s0 s:Shared}(h:iZ G env W e it x tx i c fT s0 s):yC G env W e it x tx (i+1) fT s0 s:=by
 obtain⟨⟨T,B,U,run,fr,dP,g2,g0,g1,g3⟩,fZ⟩:=h;refine⟨⟨T,B,U,run,fr,dP,g2,g0,?_⟩,fZ,fun zz=>Nat.succ_pos _⟩;rw[if_neg (Nat.succ_ne_zero i)];refine g1.trans ?_
 congr 2;exact Nw
theorem rQ(hG:bx G)(dW:∀a∈tabs,G.Bs a=none){A:Around}{n:Nat}{env:Env}{sc:Scope}{E1:E}{x1:Expr}{yp ep:Pos}{c0:Code}{fs:List Frame}{K:Flow→Sem Fin}{H:Value→Sem Fin}{W:List Addr}{its:List (Int×Str)}{e it:Addr}{x:Str}{tx:Tok}{i c:Nat}{fT:Bool}{q:Int×Str}{s0 s:Shared}
  (hA:bY 3 (A.over c0 fs))(hs:env.scope=sc)(hk:sc.kind=.function)(uu:sc.isCoroutine=false)(hf:splitAtGen fs=none)(ZE:fs.any Frame.guarded=false)(hE:qy aI E1 sc x1)
  (hw:∀T (U:aw) (Q:V→Mu→Prop),get U 1=some (.int i)→get U 3=some (.str ⟨#[c]⟩)→Q (.tuple [.int q.1,.str q.2]) []→cC (G.gen T) bX 3 E1 U [] Q)
  (hc:env.cells=[])(hW:W=[env.locals,e,it])(BM:∀a∈W,G.Bs a=none)(hq:its[its.length-1-n]?=some q)
  (h:iZ G env W e it x tx i c fT s0 s)(hK:∀dj,iZ G env W e it x tx i c fT dj dj→Seg (model G.prog G.w) A (RP W) (YP G W its) n dj c0 (K .next) fs dj):
  Seg (model G.prog G.w) A (RP W) (YP G W its) (n+1) s0 c0 ((exec (.Expr (.Yield (some x1) yp) ep) env).wrap K H id id) fs s:=by
 obtain⟨⟨T,B,U,run,fr,dP,g2,g0,g1,g3⟩,⟨old,he⟩,hit⟩:=h;have hi:interactive env=false:=by unfold interactive;rw[hs,hk];rfl
 refine seg_Expr_Yield hf rfl ZE (wpAny_mono (zB (G:=G.gen T) (n:=3) hG.nm hG.gl E1 hE hs (U:=U) (O:=[]) (Q:=fun v ar=>v=.tuple [.int q.1,.str q.2]∧ar=[]) (hw T U _ g1 g3 ⟨rfl,rfl⟩) _ hA B [] s run.inv fr) ?_ fun zz zz x=>x.elim) (by rw[hs];exact uu) hi
 rintro v s2 ⟨v',aZ,B2,aV,⟨rfl,rfl⟩,P2,r2⟩ E8 gL;have dM:=fu P2.inv rfl;subst dM;have oj:=run.post P2 (fun zz m=>nomatch m);have IY:∀a∈W,∀o,s.heap.get? a=some o→s2.heap.get? a=some o:=fun a m o eo=>P2.kept eo (fun m=>nomatch m) (fun m=>nomatch m) (run.off a m).2.1;have mid:iZ G env W e it x tx i c fT s0 s2:=⟨⟨T,B2,U,oj,fr.same P2,dP,g2,g0,g1,g3⟩,⟨old,IY e (by rw[hW];simp) _ he⟩,by
  refine aW hit ?_;clear hit;intro o eo r;exact⟨o,IY it (by rw[hW];simp) o eo,r⟩⟩
 exact wV oj hq r2 fun dj wk=>gL .none dj (hK dj (mid.wake dW hc hW BM wk))
theorem yE(c:Nat):((⟨#[c]⟩:Str)==Str.ofString "\\")=decide (c=92):=by
 by_cases h:c=92
 ·subst h;rfl
 ·have:((⟨#[c]⟩:Str)==Str.ofString "\\")=false:=by
   apply beq_eq_false_iff_ne.mpr;intro e;have e':(⟨#[c]⟩:Str)=⟨#[92]⟩:=e;simp at e';exact h e'
  rw[this];simp[h]
noncomputable abbrev wW(g:gp)(p:Nat→Pos)(env:Env):Flow→Sem Fin:=fun f=>match f with
 |.next=>(execs (g.tail p) env).wrap IW (rN env) id id
 |f=>IW f
theorem Fb(hG:bx G)(dW:∀a∈tabs,G.Bs a=none){A:Around}{env:Env}{sc:Scope}{g:gp}{p:Nat→Pos}{p0:Pos}{body:List Stmt}{W:List Addr}{its:List (Int×Str)}{e it:Addr}{x:Str}{tx:Tok}
  (LX:bY 3 (A.over (.func body env) []))(vV:bY 4 (A.over (.forLoop g.tg (.ref e) (g.inner p) [] env) [jg env (wW g p env) (rN env) id id (.func body env) p0]))
  (hs:env.scope=sc)(ok:mU sc g)(hc:env.cells=[])(hW:W=[env.locals,e,it])(BM:∀a∈W,G.Bs a=none)(Rx:e≠it)(BN:env.locals≠e)(z7:env.locals≠it)(hx:x.cps.all (· < 128)=true):
  ∀ (cs:List Nat) (i:Nat) (fT:Bool) (n:Nat) (s0 s:Shared),i≤x.cps.size→x.cps.toList.drop i=cs→yC G env W e it x tx i fT s0 s→n=(cD i fT cs).length→its.drop (its.length-n)=cD i fT cs→n≤its.length→
   Seg (model G.prog G.w) A (RP W) (YP G W its) n s0 (.forLoop g.tg (.ref e) (g.inner p) [] env) ((model G.prog G.w).den (.forLoop g.tg (.ref e) (g.inner p) [] env)) [jg env (wW g p env) (rN env) id id (.func body env) p0] s:=by
 have QN:strIterType x="str_ascii_iterator":=by unfold strIterType;rw[if_pos hx]
 have eW:e∈W:=by rw[hW];simp
 have iW:it∈W:=by rw[hW];simp
 have LW:env.locals∈W:=by rw[hW];simp
 intro cs
 induction cs with
 |nil=>
  intro i fT n s0 s hi hd ⟨⟨T,B,U,run,fr,dP,g2,g0,g1⟩,⟨⟨old,he⟩,fZ⟩,h0⟩ hn hits pS;have AZ:x.cps[i]?=none:=by
   have:x.cps.toList.length≤i:=List.drop_eq_nil_iff.mp hd;simpa using this
  refine pM (vP vV.handled he (QN▸fZ) AZ fun h' hk hh=>?_);have run':fS G T W B s0 {s with heap:=h',toks:=s.toks}:=run.raw (fun b o hb e=>hk b o (fun q=>hb (q▸iW)) e) (fun a m=>by
   by_cases q:a=it
   ·subst q;exact hh
   ·refine zb (run.off a m) ?_;intro zz zz o eo;exact⟨o,hk a o q eo⟩)
  have Qy:bt (G.gen T) env B [] U h':=fr.reset dP hc (fun o e=>hk _ o z7 e) (run.off _ LW).1 (fun m=>nomatch m);refine vO (E9 hG (s:={s with heap:=h'}) LX hs ok run' Qy g0 g1 ?_)
  cases fT with
  |false=>
   simp only[Bool.false_eq_true,if_false];rw[hn];rfl
  |true=>
   simp only[if_true];have ZF:=h0 rfl;have en:n=1:=by rw[hn];rfl
   subst en;refine⟨rfl,?_⟩;rw[if_neg (by exact ag 1 0 (aa (ak b6 ab) (dJ (ax ab b6))) (by kd_p) ZF)]
   have:(its.drop (its.length-1))[0]?=some ((i:Int)-1,yA):=by rw[hits];rfl
   rw[List.getElem?_drop]at this;exact this
 |cons c cs ih=>
  intro i fT n s0 s hi hd ⟨⟨T,B,U,run,fr,dP,g2,g0,g1⟩,⟨⟨old,he⟩,fZ⟩,h0⟩ hn hits pS;have bA:i<x.cps.size:=by
   have h1:(x.cps.toList.drop i).length=(c::cs).length:=by rw[hd]
   simp at h1;exact Tj hi h1
  have ZG:x.cps[i]?=some c:=by
   have h1:(x.cps.toList.drop i)[0]?=some c:=by rw[hd];rfl
   rw[List.getElem?_drop]at h1;simpa using h1
  have fL:x.cps.toList.drop (i+1)=cs:=by
   have:(x.cps.toList.drop i).drop 1=cs:=by rw[hd];rfl
   rw[List.drop_drop]at this;exact this
  refine pM (wpAny_pyNext_enum_itemD (Draws.Ve (show(A.over _ _).in1.handled=none from vV.handled) it x tx) he fZ bA Rx (by simpa using Rx) fun xv h' tk hP ho pq hT bG hk=>?_)
  refine j0 hP ?_;clear hP;intro c' u xO z1;subst z1;rw[ZG]at xO;cases Option.some.inj xO;refine GY ok.tup ?_;intro ta tb ZH Fc;have elt:e<s.heap.objs.size:=Heap.lt_size he;have ZI:it<s.heap.objs.size:=by refine aW fZ ?_;clear fZ;intro o eo zz;exact Heap.lt_size eo
  have LY:env.locals<s.heap.objs.size:=by refine aW fr.ns ?_;intro zz z1;obtain⟨o,_,_,eo,_⟩:=z1;intro zz;exact Heap.lt_size eo
  have go:=wpAny_letOwnedTupleGo_enum (prog:=G.prog) (w:=G.w) (A:=A.over (.forLoop g.tg (.ref e) (g.inner p) [] env) [jg env (wW g p env) (rN env) id id (.func body env) p0]) (E:=bM) (s:={s with heap:=h',toks:=tk+1}) (elts:=ta) (x1:=tb) (pos:=ZH) ho (Q:=fun zz s2=>wpAny (model G.prog G.w) (A.over (.forLoop g.tg (.ref e) (g.inner p) [] env) [jg env (wW g p env) (rN env) id id (.func body env) p0]) (assign g.tg env (.ref s.heap.objs.size)) (fun zz s3=>
      Seg (model G.prog G.w) A (RP W) (YP G W its) n s0 (.forLoop g.tg (.ref e) (g.inner p) [] env) ((execs (g.inner p) env).wrap (Bw g.tg (.ref e) (g.inner p) [] env) (Bx env) id id) [jg env (wW g p env) (rN env) id id (.func body env) p0] s3) bM s2) fun kB OM z8=>?_
  ·rw[←Fc]at go
   exact go
  have z8:Heap.SameBut e h' kB:=z8;have iR:∀b o,b≠e→b≠it→s.heap.get? b=some o→kB.get? b=some o:=fun b o h1 h2 eo=>(z8.2 b h1).trans (hk b o h1 h2 eo);have yF:kB.IsStrIter it (strIterType x) x tx (i+1):=by
   refine aW pq ?_;clear pq;intro o eo r;exact⟨o,(z8.2 it (Ne.symm Rx)).trans eo,r⟩
  have VC:kB.get? s.heap.objs.size=some (gY [.int i tk,.str ⟨#[c]⟩ u] 0):=(z8.2 _ (Nat.ne_of_gt elt)).trans hT;have oj:fS G T W B s0 {s with heap:=kB,toks:=tk+1}:=run.raw (fun b o hb eo=>iR b o (fun q=>hb (q▸eW)) (fun q=>hb (q▸iW)) eo) (fun a m=>by
   rw[hW]at m;simp only[List.mem_cons,List.not_mem_nil,or_false]at m;rcases m with rfl|rfl|rfl
   ·refine zb (run.off _ LW) ?_;intro zz zz o eo;exact⟨o,iR _ o BN z7 eo⟩
   ·exact⟨_,OM⟩
   ·refine aW yF ?_;clear yF;intro o eo zz;exact⟨o,eo⟩)
  have IZ:bt (G.gen T) env B [] U kB:=fr.reset dP hc (fun o eo=>iR _ o BN z7 eo) (run.off _ LW).1 (fun m=>nomatch m);have BT:B s.heap.objs.size=none:=run.inv.old (Nat.le_refl _);have TT:s.heap.objs.size∉tabs:=fun m=>by
   refine aW (run.inv.tab _ m) ?_;intro o zz eo;exact Nat.lt_irrefl _ (Heap.lt_size eo)
  have I3:Inv (G.gen T) (B.add s.heap.objs.size (gY [.int i tk,.str ⟨#[c]⟩ u] 0)) [] [] kB:=oj.inv.adopt ⟨BT,(fun m=>nomatch m),TT⟩ VC;have I4:∀a,a≠s.heap.objs.size→B.add s.heap.objs.size (gY [.int i tk,.str ⟨#[c]⟩ u] 0) a=B a:=fun a q=>by unfold ay.add;rw[if_neg q]
  have WT:∀a∈W,a≠s.heap.objs.size:=fun a m=>by
   rw[hW]at m;simp only[List.mem_cons,List.not_mem_nil,or_false]at m;rcases m with rfl|rfl|rfl
   ·exact Nat.ne_of_lt LY
   ·exact Nat.ne_of_lt elt
   ·exact Nat.ne_of_lt ZI
  have Dz:fS G T W (B.add s.heap.objs.size (gY [.int i tk,.str ⟨#[c]⟩ u] 0)) s0 {s with heap:=kB,toks:=tk+1}:=⟨I3,oj.keep,oj.rest,fun a m=>⟨(I4 a (WT a m)).trans (oj.off a m).1,(oj.off a m).2⟩,fun a ha=>by
   by_cases q:a=s.heap.objs.size
   ·subst q
    refine .inr ?_;cases z:s0.heap.get? s.heap.objs.size with
    |none=>rfl
    |some o=>exact absurd (Heap.lt_size (run.keep _ o (fun m=>WT _ m rfl) z)) (Nat.lt_irrefl _)
   ·rw[I4 a q]at ha;exact oj.fresh a ha⟩
  have I5:bt (G.gen T) env (B.add s.heap.objs.size (gY [.int i tk,.str ⟨#[c]⟩ u] 0)) [] U kB:=IZ.reset dP hc (fun zz e=>e) ((I4 _ (WT _ LW)).trans (run.off _ LW).1) (fun m=>nomatch m);have vr:VR (B.add s.heap.objs.size (gY [.int i tk,.str ⟨#[c]⟩ u] 0)) [] (.tuple [.int i,.str ⟨#[c]⟩]) (.ref s.heap.objs.size):=.newTuple (ay.dc ..) (.cons .int (.cons .str .nil));refine wpAny_mono (Ib (G:=G.gen T) (n:=3) hG.nm hG.gl (.g9 (.name d6) (.name fq)) ok.tg hs (U:=U) (O:=[]) (R:=fun ao ar=>ao=set (set U d6 (.int i)) fq (.str ⟨#[c]⟩)∧ar=[]) (nB rfl (gx (gx ⟨rfl,rfl⟩))) _ (vV.le (by decide)) _ [] _ (.ref s.heap.objs.size) I3 I5 vr) ?_ fun zz zz x=>x
  rintro zz s4 ⟨pv,oB,B4,fz,⟨rfl,rfl⟩,P4,F4⟩;have dM:=fu P4.inv rfl;subst dM;have IX:∀a∈fa (G.gen T) env bI,a∈W:=by
   rw[yD hc];intro a m;rw[List.mem_singleton.mp m];exact LW
  have I7:=Dz.post P4 IX;have mid:iZ G env W e it x tx i c fT s0 s4:=by
   refine⟨⟨T,B4,_,I7,F4,(dP.set .int).set .str,?_,?_,?_,?_⟩,⟨_,pR Dz P4 hc eW BN OM⟩,?_⟩
   ·rw[get_set,get_set];exact g2
   ·rw[get_set,get_set];exact g0
   ·rw[get_set,get_set];rfl
   ·rw[get_set];rfl
   ·refine aW yF ?_;clear yF;intro o eo r
    exact⟨o,pR Dz P4 hc iW z7 eo,r⟩
  clear vr I5 Dz I3 IZ oj;have Fd:bY 3 (A.over (.forLoop g.tg (.ref e) (g.inner p) [] env) [jg env (wW g p env) (rN env) id id (.func body env) p0]):=vV.le (by decide)
  have VD:get (set (set U d6 (.int i)) fq (.str ⟨#[c]⟩)) 0=some (.bool fT):=by rw[get_set,get_set];exact g0
  have LO:get (set (set U d6 (.int i)) fq (.str ⟨#[c]⟩)) 3=some (.str ⟨#[c]⟩):=gs;refine seg_execs_cons (yi (wpAny_mono (ug (G:=G.gen T) (n:=3) hG.nm hG.gl yB ok.t1 hs (O:=[]) (Q:=fun b ar=>b=fT∧ar=[]) (ue (bU VD (iB ⟨rfl,rfl⟩))) _ Fd B4 [] s4 P4.inv F4) ?_ fun zz zz x=>x));rintro b s5 ⟨Ej,B5,iM,⟨rfl,rfl⟩,P5⟩;have dM:=fu P5.inv rfl;subst dM;have I8:∀a∈W,∀o,s4.heap.get? a=some o→s5.heap.get? a=some o:=fun a m o eo=>P5.kept eo (fun m=>nomatch m) (fun m=>nomatch m) (I7.off a m).2.1;have DA:iZ G env W e it x tx i c b s0 s5:=by
   obtain⟨I9,Iv⟩:=mid.st.1;refine aW mid.st.2 ?_;intro o eo r;refine⟨⟨T,B5,_,I7.post P5 (fun zz m=>nomatch m),F4.same P5,(dP.set .int).set .str,?_,VD,?_,LO⟩,⟨I9,I8 e eW _ Iv⟩,o,I8 it iW o eo,r⟩
   ·rw[get_set,get_set];exact g2
   ·rw[get_set,get_set];rfl
  cases b with
  |true=>
   obtain⟨m,rfl⟩:∃m,n=m+1:=⟨(cD (i+1) false cs).length,hn⟩;have eA:m=(cD (i+1) false cs).length:=by simpa[cD] using hn
   have hq:its[its.length-1-m]?=some ((i:Int),yA++⟨#[c]⟩):=by
    have:(its.drop (its.length-(m+1)))[0]?=some ((i:Int),yA++⟨#[c]⟩):=by rw[hits];rfl
    rw[List.getElem?_drop]at this;rw[show its.length-1-m=its.length-(m+1)+0 by exact Ny pS hn eA]
    exact this
   have BO:its.drop (its.length-m)=cD (i+1) false cs:=by
    have:(its.drop (its.length-(m+1))).drop 1=cD (i+1) false cs:=by rw[hits];rfl
    rw[List.drop_drop]at this;rw[show its.length-m=its.length-(m+1)+1 by exact Nz pS hn eA]
    exact this
   refine seg_execs_cons (rQ hG dW Fd hs ok.kind ok.co rfl rfl ok.e1 (fun T' ao Q h1 h3 q=>?_) hc hW BM hq DA fun dj VE=>?_)
   ·unfold OK
    refine uc (gk (bU h1 (gk (zu (ua (bU h3 (jc (l4.small (by decide) (by show(1:Nat)≤_;decide)) (kT ⟨.of (by simp),q⟩))))))))
   ·refine seg_execs_cons (rP hG Fd hs ok.kind ok.sF hc hW BN z7 VE fun s' L=>?_)
    exact seg_execs_nil (seg_execs_nil (seg_again rfl (ih (i+1) false m dj s' (by exact Gy bA) fL L eA BO (by exact NA pS hn eA))))
  |false=>
   have Ry:=DA;obtain⟨⟨T6,B6,VF,Ja,VG,VH,k2,k0,k1,k3⟩,_⟩:=Ry;refine seg_execs_cons (yi (wpAny_mono (ug (G:=G.gen T6) (n:=3) hG.nm hG.gl (.cmp .Eq (.var fq) (.str "\\")) ok.t2 hs (U:=VF) (O:=[]) (Q:=fun b ar=>b=decide (c=92)∧ar=[]) (zy (bU k3 (ua (HL (iB ⟨yE c,rfl⟩))))) _ Fd B6 [] s5 Ja.inv VG) ?_ fun zz zz x=>x));rintro b s7 ⟨Qv,B7,D6,⟨hb,rfl⟩,P7⟩;have dM:=fu P7.inv rfl;subst dM;have Jb:∀a∈W,∀o,s5.heap.get? a=some o→s7.heap.get? a=some o:=fun a m o eo=>P7.kept eo (fun m=>nomatch m) (fun m=>nomatch m) (Ja.off a m).2.1;have ON:iZ G env W e it x tx i c false s0 s7:=by
    obtain⟨I9,Iv⟩:=DA.st.1;refine aW DA.st.2 ?_;intro o eo r;exact⟨⟨T6,B7,_,Ja.post P7 (fun zz m=>nomatch m),VG.same P7,VH,k2,k0,k1,k3⟩,⟨I9,Jb e eW _ Iv⟩,o,Jb it iW o eo,r⟩
   cases b with
   |true=>
    have Jc:c=92:=of_decide_eq_true hb.symm;have ee:cD i false (c::cs)=cD (i+1) true cs:=by rw[cD,if_pos Jc]
    rw[ee]at hn hits;refine seg_execs_cons (rP hG Fd hs ok.kind ok.sT hc hW BN z7 ON fun s' L=>?_);exact seg_execs_nil (seg_execs_nil (seg_again rfl (ih (i+1) true n s0 s' (by exact Gy bA) fL L hn hits pS)))
   |false=>
    have Jc:¬ c=92:=of_decide_eq_false hb.symm;have ee:cD i false (c::cs)=((i:Int),⟨#[c]⟩)::cD (i+1) false cs:=by rw[cD,if_neg Jc]
    rw[ee]at hn hits;obtain⟨m,rfl⟩:∃m,n=m+1:=⟨(cD (i+1) false cs).length,hn⟩;have eA:m=(cD (i+1) false cs).length:=by simpa using hn
    have hq:its[its.length-1-m]?=some ((i:Int),⟨#[c]⟩):=by
     have:(its.drop (its.length-(m+1)))[0]?=some ((i:Int),(⟨#[c]⟩:Str)):=by rw[hits];rfl
     rw[List.getElem?_drop]at this;rw[show its.length-1-m=its.length-(m+1)+0 by exact Ny pS hn eA]
     exact this
    have BO:its.drop (its.length-m)=cD (i+1) false cs:=by
     have:(its.drop (its.length-(m+1))).drop 1=cD (i+1) false cs:=by rw[hits];rfl
     rw[List.drop_drop]at this;rw[show its.length-m=its.length-(m+1)+1 by exact Nz pS hn eA]
     exact this
    refine seg_execs_cons (rQ hG dW Fd hs ok.kind ok.co rfl rfl ok.e2 (fun T' ao Q h1 h3 q=>?_) hc hW BM hq ON fun dj VI=>?_)
    ·unfold OL
     exact uc (gk (bU h1 (gk (bU h3 (kT ⟨.of (by simp),q⟩)))))
    ·exact seg_execs_nil (seg_execs_nil (seg_again rfl (ih (i+1) false m dj dj (by exact Gy bA) fL VI.loop eA BO (by exact NA pS hn eA))))
theorem BP{n:Nat}{A:Around}{b:List Stmt}{env:Env}(hA:bY (n+1) A):bY n (A.over (.func b env) []):=
 ⟨hA.handled,by have:=hA.depth;show A.depth+0+1+n≤900;exact ag 2 0 (aa (ae (aj af (aj ab aC)) d4) (ae (aj (aj (aj af b6) aC) ab) d4)) (by kd_p) this,by have:=hA.units;show A.units+0+3+16*n≤9000;exact ag 2 0 (aa (ae (aj af (cZ 16 (aj ab aC))) c9) (ae (aj (aj (aj af b6) cm) (cZ 16 ab)) c9)) (by kd_p) this,by
  show pushGuards (Code.guards (.func b env)) (pushGuards [] A.guards)=some [];rw[hA.guards];rfl⟩
theorem BQ{n:Nat}{A:Around}{b:List Stmt}{env:Env}{t:Expr}{it:Value}{bd:List Stmt}{K:Flow→Sem Fin}{H:Value→Sem Fin}{p:Pos}(hA:bY (n+1) A):bY n (A.over (.forLoop t it bd [] env) [jg env K H id id (.func b env) p]):=
 ⟨hA.handled,by have:=hA.depth;show A.depth+1+0+n≤900;exact ag 2 0 (aa (ae (aj af (aj ab aC)) d4) (ae (aj (aj (aj af aC) b6) ab) d4)) (by kd_p) this,by have:=hA.units;show A.units+3+0+16*n≤9000;exact ag 2 0 (aa (ae (aj af (cZ 16 (aj ab aC))) c9) (ae (aj (aj (aj af cm) b6) (cZ 16 ab)) c9)) (by kd_p) this,by
  show pushGuards (Code.guards (.forLoop t it bd [] env)) (pushGuards (guardsOf [(.func b env,p)]) A.guards)=some [];rw[hA.guards];rfl⟩
theorem o5{T:Addr→Option Obj}{A:Around}{E:Value→Shared→Prop}{env:Env}{B:ay}{U:aw}{s:Shared}{x:Nat}{v:V}{u:Value}{Q:Unit→Shared→Prop}(F:bt (G.gen T) env B [] U s.heap)(hc:env.cells=[])(hk:env.kindOf (G.nm x)=some .local)(r:VR B [] v u)
  (hQ:∀h' tk,Heap.SameBut env.locals s.heap h'→bt (G.gen T) env B [] (set U x v) h'→Q () {s with heap:=h',toks:=tk}):wpAny (model G.prog G.w) A (storeName env (G.nm x) u) Q E s:=by
 refine aW F.ns ?_;intro m hn hm;refine wpAny_storeName_local hk hn (fun h' eA hs=>hQ h' _ hs ⟨F.kind,F.gl,F.bi,⟨_,eA,fun y w hy AX=>?_⟩,fun y w hy=>?_,F.cV,fun n c m=>?_,F.inj,F.all⟩) (by rw[F.kind];rfl)
 ·rw[get_set]at hy
  by_cases q:x=y
  ·subst q;rw[if_pos rfl]at hy;cases Option.some.inj hy;exact⟨u,if_pos rfl,r⟩
  ·rw[if_neg q]at hy
   refine aW (hm y w hy AX) ?_;intro z h1 h2;exact⟨z,(if_neg fun e=>q (G.inj _ _ e).symm).trans h1,h2⟩
 ·rw[get_set]at hy
  by_cases q:x=y
  ·subst q;exact .inl hk
  ·rw[if_neg q]at hy
   rcases F.cl y w hy with h|⟨_,c,z,h2,_⟩
   ·exact .inl h
   ·rw[hc]at h2;cases h2
 ·rw[hc]at m;cases m
theorem qO{sc:Scope}{own:List Nat}{y:Nat}{env:Env}(hG:bx G)(hs:env.scope=sc)(nc:∀p∈sc.names,p.2≠.cell)(h:jW aI sc own y=true):env.kindOf (G.nm y)=some .local:=by
 have:=(fB (G:=G) (env:=env) hs hG.nm h).2;rcases this with z|z
 ·exact z
 ·have:sc.names.lookup (G.nm y)=some .cell:=by
   unfold Env.kindOf at z;rw[hs]at z;exact z
  exact absurd rfl (nc _ (mem_of_lookupK this))
theorem yG(hG:bx G){T:Addr→Option Obj}{A:Around}{env:Env}{B:ay}{U:aw}{s:Shared}{sc:Scope}{own:List Nat}{y:Nat}{i:Int}{st:Stmt}{Q:Flow→Shared→Prop}(h:mI aI (.asg (.name y) (.int i)) sc own st)(hs:env.scope=sc)(nc:∀p∈sc.names,p.2≠.cell)(hc:env.cells=[])(F:bt (G.gen T) env B [] U s.heap)
  (hQ:∀h' tk,Heap.SameBut env.locals s.heap h'→bt (G.gen T) env B [] (set U y (.int i)) h'→Q .next {s with heap:=h',toks:=tk}):wpAny (model G.prog G.w) A (exec st env) Q bM s:=by
 rw[←h.2];refine wpAny_Assign_Name (wpAny_Constant_int ?_) rfl;rw[←hG.nm];exact o5 F hc (qO hG hs nc (aL (aL (aL h.1)))) .int hQ
theorem vW(hG:bx G){T:Addr→Option Obj}{A:Around}{env:Env}{B:ay}{U:aw}{s:Shared}{sc:Scope}{own:List Nat}{y:Nat}{i:Bool}{st:Stmt}{Q:Flow→Shared→Prop}(h:mI aI (.asg (.name y) (.bool i)) sc own st)(hs:env.scope=sc)(nc:∀p∈sc.names,p.2≠.cell)(hc:env.cells=[])(F:bt (G.gen T) env B [] U s.heap)
  (hQ:∀h' tk,Heap.SameBut env.locals s.heap h'→bt (G.gen T) env B [] (set U y (.bool i)) h'→Q .next {s with heap:=h',toks:=tk}):wpAny (model G.prog G.w) A (exec st env) Q bM s:=by
 rw[←h.2];refine wpAny_Assign_Name (wpAny_Constant_bool ?_) rfl;rw[←hG.nm];exact o5 F hc (qO hG hs nc (aL (aL (aL h.1)))) .bool hQ
theorem Fe(hG:bx G){T:Addr→Option Obj}{A:Around}{env:Env}{B:ay}{U:aw}{s:Shared}{sc:Scope}{g:gp}{x:Str}{Q:Value→Shared→Prop}(ok:mU sc g)(hs:env.scope=sc)(hc:env.cells=[])(LZ:∀a o,G.Bs a=some o→s.heap.get? a=some o)(F:bt (G.gen T) env B [] U s.heap)(hx:get U 2=some (.str x))
  (hQ:∀tx h',IsEnum h' (s.heap.objs.size+1) s.heap.objs.size 0 .none→h'.IsStrIter s.heap.objs.size (strIterType x) x tx 0→h'.objs.size=s.heap.objs.size+2→(∀b o,s.heap.get? b=some o→h'.get? b=some o)→Q (.ref (s.heap.objs.size+1)) {s with heap:=h'}):
  wpAny (model G.prog G.w) A (eval g.it env) Q bM s:=by
 rw[←ok.it.2];have he:∀pf pa p,eval (.Call (.Name (aI fE) pf) [.Name (aI eK) pa] [] p) env=(do callWith p (←eval (.Name (aI fE) pf) env) [] (backTo p (starEach [.Name (aI eK) pa] env)) (backToKw p (keywordEach [] env))):=fun zz zz zz=>rfl
 show wpAny _ _ (eval (.Call (.Name (aI fE) _) [.Name (aI eK) _] [] _) env) _ _ _;rw[he];rw[←hG.nm,←hG.nm];have kg:env.kindOf (G.nm fE)=some .globalImplicit:=by
  unfold Env.kindOf;rw[hs,hG.nm];exact nA (aL ok.it.1)
 refine wpAny_bind (Name_function_global F.kind kg (G.load (hG.gl fE _ rfl) F.gl F.bi LZ ?_) (G.odd _).1);have vX:∀pa,eJ [.Name (G.nm eK) pa] env:=fun zz=>rfl;refine callWith_of (P:=fun zz=>True) (by rw[plain_any (vX _),nu _ _ _ rfl];rfl) (fun zz zz=>⟨.machine,.inr (.inl rfl),Looks.of_pure rfl⟩) (iE (kws:=[]) (vX _) rfl ?_)
 refine wpAny_items_cons ?_ rfl;refine wpAny_Name ?_ (G.odd _).1;rcases F.cl 2 _ hx with hl|⟨_,c,u,nW,_⟩
 ·refine aW F.ns ?_;intro m hn hm
  refine aW (hm 2 _ hx hl) ?_;intro u hu r;refine wpAny_loadName_local F.kind hl hn hu ?_;refine VR.fQ r ?_;intro zz;refine wpAny_items_nil (kwAll_nil ⟨trivial,?_⟩);exact call_enumerate_str fun h' a b c d=>hQ _ h' a b c d
 ·rw[hc]at nW;cases nW
theorem yH(x:Str):oV [(2,.str x)]:=fun y v e=>by
 rw[nK]at e
 by_cases q:2=y
 ·rw[if_pos q]at e;cases Option.some.inj e;exact .str
 ·rw[if_neg q,get_nil]at e;exact bk e
theorem BR(hG:bx G)(dW:∀a∈tabs,G.Bs a=none){A:Around}{env:Env}{sc:Scope}{g:gp}{p:Nat→Pos}{x:Str}{s:Shared}{T0:Addr→Option Obj}
  (hA:bY 6 A)(hs:env.scope=sc)(ok:mU sc g)(hc:env.cells=[])(hb:oT G s.heap)(fr:bt (G.gen T0) env G.Bs [] [(2,.str x)] s.heap)(Ff:G.Bs env.locals=none)(VJ:env.locals∉tabs)(hx:x.cps.all (· < 128)=true):
  Seg (model G.prog G.w) A (RP [env.locals,s.heap.objs.size+1,s.heap.objs.size]) (YP G [env.locals,s.heap.objs.size+1,s.heap.objs.size] (fO x)) (fO x).length s (.func (g.body p) env) ((model G.prog G.w).den (.func (g.body p) env)) [] s:=by
 have LY:env.locals<s.heap.objs.size:=by refine aW fr.ns ?_;intro zz z1;obtain⟨o,_,_,eo,_⟩:=z1;intro zz;exact Heap.lt_size eo
 have I0:=oU dW hb;refine seg_func ?_;refine seg_execs_cons (qG (yG hG ok.s1 hs ok.nc hc fr fun h1 Fg VK Rw=>?_));refine seg_execs_cons (qG (vW hG (s:={s with heap:=h1,toks:=Fg}) ok.s2 hs ok.nc hc Rw fun h2 Jd VL IZ=>?_))
 have iR:∀b o,b≠env.locals→s.heap.get? b=some o→h2.get? b=some o:=fun b o hn e=>(VL.2 b hn).trans ((VK.2 b hn).trans e);have sz:h2.objs.size=s.heap.objs.size:=VL.1.trans VK.1;refine seg_execs_cons (Iu (Fe hG (s:={s with heap:=h2,toks:=Jd}) (x:=x) ok hs hc (fun a o e=>iR a o (fun q=>by rw[q,Ff]at e;exact bk e) (hb.bs a o e)) IZ (by rw[get_set,get_set];rfl) fun tx h3 he hit bG hk=>?_) (fun v=>by rw[←ok.it.2];rfl))
 have he:IsEnum h3 (h2.objs.size+1) h2.objs.size 0 .none:=he;have hit:h3.IsStrIter h2.objs.size (strIterType x) x tx 0:=hit;have hk:∀b o,h2.get? b=some o→h3.get? b=some o:=hk;refine wpAny_pyIter_enum (s:={s with heap:=h3,toks:=Jd}) he fun p0=>?_
 rw[show({s with heap:=h2,toks:=Jd}:Shared).heap.objs.size=s.heap.objs.size from sz]
 rw[sz]at he hit;have L0:∀b o,b≠env.locals→s.heap.get? b=some o→h3.get? b=some o:=fun b o hn e=>hk b o (iR b o hn e);have I5:bt (G.gen T0) env G.Bs [] (set (set [(2,.str x)] d6 (.int 0)) gy (.bool false)) h3:=IZ.reset (((yH x).set .int).set .bool) hc (fun o e=>hk _ o e) Ff (fun m=>nomatch m);obtain⟨oL,eL⟩:∃o,h3.get? env.locals=some o:=by refine aW I5.ns ?_;intro zz z1;obtain⟨o,_,_,eo,_⟩:=z1;intro zz;exact⟨o,eo⟩
 have VM:fS G s.heap.get? [env.locals] G.Bs s s:=.start dW hb fun a m=>by
  rw[List.mem_singleton.mp m];refine aW fr.ns ?_;intro zz z1;obtain⟨o,_,_,eo,_⟩:=z1;intro zz;exact⟨Ff,VJ,o,eo⟩
 have rO:fS G s.heap.get? [env.locals] G.Bs s {s with heap:=h3,toks:=Jd}:=VM.raw (fun b o Fh e=>L0 b o (fun q=>Fh (by simp[q])) e) fun a m=>by rw[List.mem_singleton.mp m];exact⟨oL,eL⟩
 have tz:∀a∈tabs,a<s.heap.objs.size:=fun a m=>by obtain⟨o,e⟩:=hb.tb a m;exact Heap.lt_size e
 have run:fS G s.heap.get? [env.locals,s.heap.objs.size+1,s.heap.objs.size] G.Bs s {s with heap:=h3,toks:=Jd}:=⟨rO.inv,fun b o Fh e=>rO.keep b o (fun m=>Fh (by rw[List.mem_singleton.mp m];simp)) e,rO.rest,fun a m=>by
  simp only[List.mem_cons,List.not_mem_nil,or_false]at m;rcases m with rfl|rfl|rfl
  ·exact⟨Ff,VJ,oL,eL⟩
  ·exact⟨I0.old (Nat.le_succ _),fun m=>Nat.lt_irrefl _ (Nat.lt_of_lt_of_le (tz _ m) (Nat.le_succ _)),_,he⟩
  ·refine aW hit ?_;clear hit;intro o e zz
   exact⟨I0.old (Nat.le_refl _),fun m=>Nat.lt_irrefl _ (tz _ m),o,e⟩,rO.fresh⟩
 refine Fb hG dW (BP (hA.le (by decide))) (BQ (hA.le (by decide))) hs ok hc rfl (fun a m=>?_) (Nat.succ_ne_self _) (Nat.ne_of_lt (Nat.lt_succ_of_lt LY)) (Nat.ne_of_lt LY) hx x.cps.toList 0 false _ s _ (Nat.zero_le _) (List.drop_zero) ⟨⟨_,G.Bs,_,run,I5.reset (((yH x).set .int).set .bool) hc (fun zz e=>e) Ff (fun m=>nomatch m),((yH x).set .int).set .bool,by rw[get_set,get_set];rfl,gs,by rw[get_set,get_set];rfl⟩,⟨⟨_,he⟩,hit⟩,fun h=>by exact iO h⟩ rfl (by rw[Nat.sub_self];rfl) (Nat.le_refl _)
 simp only[List.mem_cons,List.not_mem_nil,or_false]at m;rcases m with rfl|rfl|rfl
 ·exact Ff
 ·exact I0.old (Nat.le_succ _)
 ·exact I0.old (Nat.le_refl _)
theorem L3{prog:Program}{w:World}{A:Around}{E:Value→Shared→Prop}{s:Shared}{a:Addr}{g n:Nat}{gs:GenState}{P:Nat→Shared→Shared→Prop}{Y:Protocol}{Q:Option Value→Shared→Prop}(hh:A.handled=none)
  (hl:s.heap.NoLimit)(Rz:A.depth<recursionLimit)(hg:s.heap.IsGen a g)(RA:s.gens[g]?=some gs)
  (b7:gs.Goes (model prog w) A.in1 (fun n s0 r kn=>r=.ok (.ret .none)∧P n s0 kn) Y n (.send .none) (s.setGen g .running))
  (hY:∀v kn lP,lP.bare=true→Y (n-1) (s.setGen g .running) v kn (fun r' dj=>match n with
    |0=>False
    |m+1=>lP.Goes (model prog w) A.in1 (fun n s0 r kn=>r=.ok (.ret .none)∧P n s0 kn) Y m r' dj)→Q (some v) (kn.setGen g lP))
  (hP:∀kn,P n (s.setGen g .running) kn→∀h',(∀b o,kn.heap.get? b=some o→h'.get? b=some o)→Q none {kn.setGen g .finished with heap:=h'}):
  wpAny (model prog w) A (pyNext (.ref a)) Q E s:=by
 unfold pyNext;refine wpAny_bind (wpAny_attempt (wpAny_callSpecial?_slot (name:=Str.ofString "__next__") hg.typeIs slot_gen_next (wpAny_call_entry slot_gen_next hg.typeIs entry_gen_next ?_ (args_gen_next _))));show wpAny _ A.in1 (Builtin.Generator.genWake (.ref a) (.send .none)) _ _ s;unfold Builtin.Generator.genWake;refine wpAny_bind (wpAny_holding (wpAny_genNumber hg (wpAny_bind (wpAny_genState RA ?_))));cases gs with
 |running=>exact b7.elim
 |finished=>exact b7.elim
 |_=>
  refine wpAny_bind (wpAny_roomToWake hl Rz ?_);show wpAny _ A.in1 (.resume g (.send .none) [] _) _ _ s;refine wpAny_resumeQ RA b7 (fun x kn hx=>?_) (fun v kn lP hb hv=>wpAny_pure ⟨v,rfl,wpAny_pure (hY v kn lP hb hv)⟩);obtain⟨rfl,hp⟩:=hx;show wpAny _ A.in1 (newExc (.type "StopIteration") [] >>= _) _ _ _;refine wpAny_bind ?_;simp only[newExc,newTuple];refine wpAny_bind (wpAny_newObj_type ?_ (by size_fits))
  refine wpAny_bind (m:=firstArgMember _ _) (wpAny_of_eq (a:=Value.none) (by first|rfl|(simp only[firstArgMember];rfl)) (wpAny_newObj_type ?_ (by size_fits)))
  simp only[raiseNew];refine wpAny_bind (wpAny_bind (wpAny_handled ?_));rw[show A.in1.handled=none from hh];refine wpAny_throw (wpAny_bind (wpAny_isInstance (T:="StopIteration") (b:=true) ⟨_,Heap.get?_push_size _ rfl,rfl⟩ isSubtype_stop ?_));exact wpAny_pure (hP kn hp _ fun b o hb=>Heap.get?_push_of_some _ (Heap.get?_push_of_some _ hb))
theorem AllBare.setGen{s:Shared}{g:Nat}{x:GenState}(h:AllBare s.gens)(hx:x.bare=true):AllBare (s.setGen g x).gens:=fun y hy=>by
 have ZJ:y∈s.gens.setIfInBounds g x:=hy;rcases Array.mem_or_eq_of_mem_setIfInBounds ZJ with z|z
 ·exact h y z
 ·rw[z];exact hx
theorem uP{s:Shared}{g k:Nat}{x y:GenState}(h:s.gens[k]?=some y)(hn:k≠g):(s.setGen g x).gens[k]?=some y:=by
 show(s.gens.setIfInBounds g x)[k]?=some y;rw[Array.getElem?_setIfInBounds_ne (Ne.symm hn)];exact h
theorem aG.lQ{W':List Addr}{W:List Addr}{B B':ay}{Z aH:List Addr}{ar:Mu}{s s' dj:Shared}(P:aG G W B Z s B' aH ar s')(hn:∀a∈W',s.heap.get? a=none)(off:∀a∈W',B' a=none∧a∉aH∧a∉tabs∧a∉W)
  (k:∀b o,b∉W'→s'.heap.get? b=some o→dj.heap.get? b=some o)(hr:Rest s dj):aG G W B Z s B' aH ar dj:=by
 have I:=P.inv;refine⟨P.le,P.pre,⟨I.base,fun a o e=>k a o (fun q=>by rw[(off a q).1]at e;exact bk e) (I.holds a o e),I.len,fun i a xs h1 h2=>?_,fun a m=>?_,I.nodup,I.cg,
  G.hT.mono I.tab (.refl _) fun a m o e=>k a o (fun q=>(off a q).2.2.1 m) e,I.ey⟩,fun b o hb e=>?_,fun a m=>?_,hr,P.dF,P.da⟩
 ·refine ew (I.ml i a xs h1 h2) ?_;intro e vs n g r
  exact⟨e,vs,n,k _ _ (fun q=>(off a q).2.1 (List.mem_of_getElem? h1)) g,r⟩
 ·obtain⟨o,e⟩:=I.dp a m;exact⟨o,k _ _ (fun q=>(off a q).2.1 m) e⟩
 ·exact k b o (fun q=>by rw[hn b q]at e;exact bk e) (P.keep b o hb e)
 ·obtain⟨o,e⟩:=P.bL a m;exact⟨o,k _ _ (fun q=>(off a q).2.2.2 m) e⟩
theorem bt.lQ{env:Env}{B:ay}{Z:List Addr}{U:aw}{h h':Heap}{W':List Addr}(F:bt G env B Z U h)(hL:env.locals∉W')(hC:∀n c,(n,c)∈env.cells→c∉W')(k:∀b o,b∉W'→h.get? b=some o→h'.get? b=some o):bt G env B Z U h':=by
 refine aW F.ns ?_;intro m z1;obtain⟨o,es,ep,e,r⟩:=z1;intro hm;refine⟨F.kind,F.gl,F.bi,⟨m,⟨o,es,ep,k _ _ hL e,r⟩,hm⟩,fun x v hx=>?_,F.cV,fun n c hc=>?_,F.inj,F.all⟩
 ·rcases F.cl x v hx with h|⟨hk,c,u,hc,⟨o',eo,ed⟩,h2⟩
  ·exact .inl h
  ·exact .inr ⟨hk,c,u,hc,⟨o',k _ _ (hC _ c (aY hc)) eo,ed⟩,h2⟩
 ·refine cw (F.dI n c hc) ?_;intro a1 a2 a3 a4 v o' eo ed
  exact⟨a1,a2,a3,a4,v,o',k _ _ (hC n c hc) eo,ed⟩
noncomputable def VN(K:Frag)(a:Addr):Bool:=match K.lookup a with
 |some ⟨_,_,.func fd,_⟩=>zK fd.body&&codeIn K fd.code fd.qualname&&fd.closure.isEmpty&&fd.globals==mainGlobals&&fd.builtins==builtinsNs && !fd.scope.isCoroutine&&fd.scope.isGenerator&&fd.scope.kind == .function&&keepIn K (.ref a)
 |_=>false
theorem RB(P:Params):VN (KP P) 28=true:=by kd_p
theorem L4(P:Params)(y:Value):∀S,peek (KP P) S (bindArgs (ba (KP P) 28) ⟨[y],[]⟩)=some [(aI eK,y)]:=fun S=>by kd_p
theorem VO(P:Params):jW aI (ba (KP P) 28).scope bI eK=true:=by kd_p
theorem Fi(hG:bx G)(dW:∀a∈tabs,G.Bs a=none){n:Nat}{A:Around}(hA:bY (n+1) A){B:ay}{Z:List Addr}{O:Mu}{s:Shared}{x:Str}{t:Tok}{Q:Value→Shared→Prop}{E:Value→Shared→Prop}(I:Inv G B Z O s.heap)
  (hQ:∀ga env g p sc tk T0 H,sc=(ba G.K 28).scope→s.heap.get? ga=none→s.heap.get? env.locals=none→(∀b o,s.heap.get? b=some o→H.get? b=some o)→H.IsGen ga s.gens.size→env.scope=sc→mU sc g→env.cells=[]→bt (G.gen T0) env G.Bs [] [(2,.str x)] H→ga≠env.locals→s.heap.objs.size≤H.objs.size→
   Q (.ref ga) {s with gens:=s.gens.push (.fresh (.func (g.body p) env)),toks:=tk,heap:=H}):
  wpAny (model G.prog G.w) A (call (.ref 28) [.str x t] []) Q E s:=by
 obtain⟨P,hP⟩:=hG.K;have hf:=RB P;unfold VN at hf;split at hf
 ·rename_i oc od fd osl e
  have lH:ba (KP P) 28=fd:=by unfold ba;rw[e]
  simp only[Bool.and_eq_true,Bool.not_eq_true']at hf;obtain⟨⟨⟨⟨⟨⟨⟨⟨f1,f2⟩,f3⟩,f4⟩,f5⟩,f6⟩,f7⟩,f8⟩,f9⟩:=hf;have ft:fd.body=.stmts (dy fd.body):=by
   cases q:fd.body<;>first|rfl|(rw[q]at f1;cases f1)
  have X:(KP P).In s.heap:=hP▸I.jV;have LZ:∀a o,G.Bs a=some o→s.heap.get? a=some o:=fun a o e=>I.holds a o (I.base a o e);have ZK:∀a∈tabs,∃o,s.heap.get? a=some o:=fun a m=>I.there (List.mem_append_right _ m);have ok:=IV P;rw[lH]at ok;have z6:=LV P;rw[lH]at z6;generalize LU P=g at ok z6;have jG:=codeRec_of X f2;refine wpAny_call (codeAny_call_generator hA.room (X _ _ e) rfl f6 f7 ft jG ?_);have hb:=L4 P (.str x t);rw[lH]at hb;refine kp_binds X hb _ _ _ _ ?_;rw[List.isEmpty_iff.mp f3,eq_of_beq f4,eq_of_beq f5];refine dr ?_;have k1:=bN s.heap {cls:=.type "frame",data:=.dict #[]};have k2:=pushCells_keeps fd.scope.names (s.heap.push {cls:=.type "frame",data:=.dict #[]});have kk:∀b o,s.heap.get? b=some o→(pushCells (s.heap.push {cls:=.type "frame",data:=.dict #[]}) fd.scope.names).get? b=some o:=fun b o e=>k2 b o (k1 b o e);have I0:Inv (G.gen s.heap.get?) G.Bs [] [] s.heap:=oU dW ⟨LZ,ZK⟩;have F:=bt.fresh (G:=G.gen s.heap.get?) (scope:=fd.scope) (cl:=[]) (fo:={cls:=.type "frame",data:=.dict #[]})
   (env:=newEnv fd.scope s.heap.objs.size mainGlobals (cellsFrom (s.heap.objs.size+1) fd.scope.names []) (fd.qualname++".<locals>.") (some 28) fd.code none builtinsNs) I0 ⟨_,rfl⟩ ⟨(fun _ _ m=>nomatch m),.nil⟩ (fun _ _=>trivial) rfl rfl rfl (eq_of_beq f8) rfl rfl
  have cj:(newEnv fd.scope s.heap.objs.size mainGlobals (cellsFrom (s.heap.objs.size+1) fd.scope.names []) (fd.qualname++".<locals>.") (some 28) fd.code none builtinsNs).cells=[]:=eQ _ _ _ ok.nc;have ze:=VO P;rw[lH]at ze;have z9:=qO hG (env:=newEnv fd.scope s.heap.objs.size mainGlobals (cellsFrom (s.heap.objs.size+1) fd.scope.names []) (fd.qualname++".<locals>.") (some 28) fd.code none builtinsNs) rfl ok.nc ze;have ZL:pushCells (s.heap.push {cls:=.type "frame",data:=.dict #[]}) fd.scope.names=s.heap.push {cls:=.type "frame",data:=.dict #[]}:=by
   have:∀ (names:List (Str×NameKind)) (h:Heap),(∀p∈names,p.2≠.cell)→pushCells h names=h:=by
    intro names
    induction names with
    |nil=>intro h _;rfl
    |cons q r ih=>
     intro h hq;obtain⟨nq,kq⟩:=q;unfold pushCells;have:(kq==NameKind.cell)=false:=by simpa using hq (nq,kq) (.head _)
     simp only[this,Bool.false_eq_true,if_false];exact ih h fun p hp=>hq p (.tail _ hp)
   exact this _ _ ok.nc
  show wpAny _ _ (forIn [(aI eK,Value.str x t)] (⟨⟩:PUnit) fun x _=>_) _ _ _;rw[List.forIn_cons];refine wpAny_bind (wpAny_bind ?_);rw[←hG.nm];refine o5 (s:={s with heap:=_}) F cj z9 .str fun h1 Fg sb F1=>?_
  refine wpAny_pure ?_;show wpAny _ _ (forIn [] _ _) _ _ _;rw[List.forIn_nil];refine wpAny_pure ?_;have hL:s.heap.get? s.heap.objs.size=none:=cx _;have VP:∀b o,s.heap.get? b=some o→h1.get? b=some o:=fun b o eb=>(sb.2 b (fun q=>by rw[show b=s.heap.objs.size from q,hL]at eb;exact bk eb)).trans (kk b o eb)
  have RC:h1.objs.size=s.heap.objs.size+1:=by
   have h0:h1.objs.size=(pushCells (s.heap.push {cls:=.type "frame",data:=.dict #[]}) fd.scope.names).objs.size:=sb.1;rw[ZL,Heap.size_push]at h0;exact h0
  have nl:h1.NoLimit:=G.nolimit _ fun a o eb=>VP a o (LZ a o eb);refine⟨nl,?_⟩;have RD:s.heap.get? h1.objs.size=none:=fA (by rw[RC];exact Nat.le_succ _)
  have:=hQ h1.objs.size (newEnv fd.scope s.heap.objs.size mainGlobals (cellsFrom (s.heap.objs.size+1) fd.scope.names []) (fd.qualname++".<locals>.") (some 28) fd.code none builtinsNs) g (posOf g.ps) fd.scope (Fg+1+1) s.heap.get?
   (h1.push {cls:=.type "generator",data:=.fields #[.int s.gens.size 0,.str fd.name Fg,.str fd.qualname (Fg+1)]}) (by rw[hP,lH]) RD hL (fun b o eb=>Heap.get?_push_of_some _ (VP b o eb)) ⟨_,_,_,Heap.get?_push_size _ rfl,rfl,rfl,rfl⟩ rfl ok cj (F1.reset (yH x) cj (fun o eo=>Heap.get?_push_of_some _ eo) F1.cV.1 (fun m=>nomatch m)) (by
    show h1.objs.size≠s.heap.objs.size;rw[RC];exact Nat.succ_ne_self _) (by rw[Heap.size_push,RC];exact Nat.le_succ_of_le (Nat.le_succ _))
  rw[←z6]at this;exact this
 ·exact iO hf
theorem Inv.L5{B:ay}{Z:List Addr}{O:Mu}{h:Heap}{T:Addr}{vs:List Value}{k:Nat}(I:Inv G B Z O h)(e:h.get? T=some (gY vs k))(hT:B T=none→T∉Z∧T∉tabs):∃B',ay.le B B'∧B' T=some (gY vs k)∧(∀a,B' a≠none→B a≠none∨a=T)∧Inv G B' Z O h:=by
 cases q:B T with
 |some o=>
  have:=I.holds T o q;rw[e]at this;cases Option.some.inj this;exact⟨B,.refl _,q,fun a h=>.inl h,I⟩
 |none=>
  obtain⟨h1,h2⟩:=hT q;refine⟨B.add T (gY vs k),ay.iA q,ay.dc ..,fun a ha=>?_,I.adopt ⟨q,h1,h2⟩ e⟩
  by_cases z:a=T
  ·exact .inr z
  ·unfold ay.add at ha;rw[if_neg z]at ha;exact .inl ha
theorem bt.le{env:Env}{B B':ay}{Z:List Addr}{U:aw}{h:Heap}(F:bt G env B Z U h)(hB:ay.le B B')(hL:B' env.locals=none)(hC:∀n c,(n,c)∈env.cells→B c=none→B' c=none):bt G env B' Z U h:=by
 refine aW F.ns ?_;intro m hn hm;refine⟨F.kind,F.gl,F.bi,⟨m,hn,fun x v hx hk=>let⟨u,h1,h2⟩:=hm x v hx hk;⟨u,h1,h2.mono hB (List.prefix_refl _)⟩⟩,fun x v hx=>?_,⟨hL,F.cV.2⟩,fun n c hc=>?_,F.inj,F.all⟩
 ·rcases F.cl x v hx with h|⟨hk,c,u,hc,h1,h2⟩
  ·exact .inl h
  ·exact .inr ⟨hk,c,u,hc,h1,h2.mono hB (List.prefix_refl _)⟩
 ·obtain⟨a1,r⟩:=F.dI n c hc
  exact⟨a1.imp id (hC n c hc),r⟩
noncomputable def kN(q:Int×Str):V:=.tuple [.int q.1,.str q.2]
theorem uQ{s:Shared}{g:Nat}{gs x:GenState}(h:s.gens[g]?=some gs):(s.setGen g x).gens[g]?=some x:=by
 show(s.gens.setIfInBounds g x)[g]?=some x;rw[Array.getElem?_setIfInBounds_self_of_lt (Array.getElem?_eq_some_iff.mp h).1]
inductive ZM(G:dn)(A:Around)(env:Env)(own:List Nat)(W:List Addr)(its:List (Int×Str))(ga:Addr)(gn:Nat)(T:V→aw→Mu→(Fl→aw→Mu→Prop)→Prop)(Q:Fl→aw→Mu→Prop)(B2:ay)(aV:List Addr)(s2:Shared)(k:Nat)(s':Shared):Prop
 |mk (j:Nat) (ao:aw) (ar:Mu) (B':ay) (aH:List Addr) (gs:GenState) (hj:j≤its.length) (hm:k=its.length-j) (P:aG G (fa G env own) B2 aV s2 B' aH ar s') (F:bt G env B' aH ao s'.heap) (l9:s'.heap.IsGen ga gn) (RA:s'.gens[gn]?=some gs)
   (b7:gs.Goes (model G.prog G.w) A.in1 (RP W) (YP G W its) (its.length-j) (.send .none) (s'.setGen gn .running))(om:∀a∈ga::W,B' a=none∧a∉aH)(hL:forL T ((its.map kN).drop j) ao ar Q)
theorem Fj{n:Nat}{A:Around}(hA:bY (n+8) A){env:Env}{own:List Nat}{U:aw}{aZ:Mu}{Q:Fl→aw→Mu→Prop}{target:Expr}{body:List Stmt}{its:List (Int×Str)}{B2:ay}{aV:List Addr}{s2 s3:Shared}{ga:Addr}{gn:Nat}{W:List Addr}{RE:GenState}{Err:Value→Shared→Prop}
  (Fc:∃a b c,target=.Tuple a b c)(I2:Inv G B2 aV aZ s2.heap)(iC:∀a∈ga::W,s2.heap.get? a=none)(L6:ga∉W)(wX:∀a∈ga::W,a∉tabs)(Fm:∀a∈ga::W,a∉fa G env own)(DB:env.locals∉W)(DC:∀n c,(n,c)∈env.cells→c∉W)
  (P3:aG G (fa G env own) B2 aV s2 B2 aV aZ s3)(F3:bt G env B2 aV U s3.heap)(ZN:s2.gens[gn]?=none)(RF:s3.heap.IsGen ga gn)(Je:s3.gens[gn]?=some RE)
  (DD:RE.Goes (model G.prog G.w) A.in1 (RP W) (YP G W its) its.length (.send .none) (s3.setGen gn .running))
  (hL:forL (rb G (n+8) env own target body) (its.map kN) U aZ Q):
  codeAny (model G.prog G.w) A (.forLoop target (.ref ga) body [] env) (fun r s'=>match r with | .ok f=>PS G env own B2 aV s2 Q f s' | .error e=>Err e s') s3:=by
 refine G9 (PS G env own B2 aV s2 Q) (ZM G A env own W its ga gn (rb G (n+8) env own target body) Q B2 aV s2) (fun zz zz x=>x) ?_ its.length
  (.mk 0 U aZ B2 aV RE (Nat.zero_le _) rfl P3 F3 RF Je DD (fun a m=>⟨I2.eZ (iC a m),I2.fJ (iC a m)⟩) hL)
 intro k s' K z hN hS;cases z with|mk j ao ar B' aH gs hj xJ P' F' BS OO b7 om qg=>?_
 have I':=P'.inv;have OP:∀k y,s2.gens[k]?=some y→k≠gn:=fun k y e q=>by rw[q,ZN]at e;exact bk e
 have restOf:∀ (s5:Shared) (y:GenState) (h':Heap),y.bare=true→Rest (s'.setGen gn .running) s5→Rest s2 {s5.setGen gn y with heap:=h'}:=fun s5 y h' hy hr=>⟨hr.os.trans P'.rest.os,fun b=>AllBare.setGen (hr.bare (AllBare.setGen (P'.rest.bare b) rfl)) hy,fun k z e=>uP (hr.gens k z (uP (P'.rest.gens k z e) (OP k z e))) (OP k z e)⟩
 refine L3 hA.handled I'.noLimit hA.room BS OO b7 (fun v s5 lP hb hv=>?_) (fun s5 hp h' gL=>?_)
 ·refine vB hv ?_;clear hv;intro q T ta tb k hq z1;subst z1;intro hT z2;obtain⟨uR,L7⟩:=z2;intro bL z3;obtain⟨ZO,VQ⟩:=z3;intro wY
  have uR:∀b o,b∉W→s'.heap.get? b=some o→s5.heap.get? b=some o:=uR;have RG:oT G s5.heap:=⟨fun a o e=>uR a o (fun m=>by rw[I'.base.off (om a (.tail _ m)).1]at e;exact bk e) (I'.holds a o (I'.base a o e)),fun a m=>by
   obtain⟨o,e⟩:=I'.there (List.mem_append_right aH m);exact⟨o,uR a o (fun q=>wX a (.tail _ q) m) e⟩⟩
  by_cases qP:j<its.length
  ·obtain⟨m,hm⟩:∃m,its.length-j=m+1:=⟨its.length-j-1,by exact ag 2 0 (aa (ak ab af) (ax (bb af ab) (aj (bb (bb af ab) aC) aC))) (by kd_p) qP⟩
   rw[hm]at hq wY;have hq:its[its.length-1-m]?=some q:=hq;have wY:∀dj,Dy G W s5 dj→lP.Goes (model G.prog G.w) A.in1 (RP W) (YP G W its) m (.send .none) dj:=wY;rw[show its.length-1-m=j by exact ag 3 0 (aa (ak ab au) (aa (ax (bb au ab) (aj af aC)) (ax (bb (bb au aC) af) ab))) (by kd_p) qP hm]at hq
   have RH:Rest s2 (s5.setGen gn lP):=restOf s5 lP s5.heap hb L7;have P6:aG G (fa G env own) B2 aV s2 B' aH ar (s5.setGen gn lP):=P'.lQ (W':=W) (fun a m=>iC a (.tail _ m)) (fun a m=>⟨(om a (.tail _ m)).1,(om a (.tail _ m)).2,wX a (.tail _ m),Fm a (.tail _ m)⟩) uR RH;have F6:bt G env B' aH ao s5.heap:=F'.lQ DB DC uR;refine PG (P6.inv.L5 (T:=T) (vs:=[.int q.1 ta,.str q.2 tb]) (k:=k) hT fun z=>by
    rcases VQ with y|y
    ·exact absurd (I'.base.off z) y
    ·exact⟨I'.fJ y,I'.i5 y⟩) ?_;intro B6 VS VT OQ I6
   have neT:∀ {a o},s5.heap.get? a=some o→(∀vs n,o.data≠.seq vs n)→a≠T:=fun e hd z=>by
    rw[z]at e;have:some _=some _:=hT.symm.trans e;cases Option.some.inj this;exact hd _ _ rfl
   have yI:∀ {a},B' a=none→a≠T→B6 a=none:=fun{a} h1 h2=>by
    cases z:B6 a with
    |none=>rfl
    |some o=>
     rcases OQ a (by rw[z];simp) with y|y
     ·exact absurd h1 y
     ·exact absurd y h2
   have RI:aG G (fa G env own) B2 aV s2 B6 aH ar (s5.setGen gn lP):=⟨P6.le.trans VS,P6.pre,I6,P6.keep,P6.bL,P6.rest,fun a ha=>by
    cases z:B' a with
    |some o=>exact P6.dF a (by rw[z];simp)
    |none=>
     rcases OQ a ha with y|y
     ·exact absurd z y
     ·subst y
      rcases VQ with y|y
      ·exact absurd (I'.base.off z) y
      ·exact .inr (.inr (P'.back y)),P6.da⟩
   have ZP:bt G env B6 aH ao s5.heap:=F6.le VS (by
    refine aW F6.ns ?_;intro zz z1;obtain⟨o,es,ep,e,hd,_⟩:=z1;intro zz;exact yI F6.cV.1 (neT e fun vs n' z=>by rw[hd]at z;cases z)) fun n' c mc hc=>by
     refine cw (F6.dI n' c mc) ?_;intro zz zz zz zz v o e hd;exact yI hc (neT e fun vs n' z=>by rw[hd]at z;cases z)
   have vr:VR B6 aH (.tuple [.int q.1,.str q.2]) (.ref T):=.tuple VT rfl (aB.cons .int (.cons .str .nil)).2;refine br BS ?_;clear BS;intro og ZQ ZR ZS VU RJ ZT;have DE:s5.heap.get? ga=some og:=uR ga og L6 ZS;refine GY Fc ?_;clear Fc;intro xa xb xc z1;subst z1;refine hS _ _ fun E hE Qn Qo=>?_;unfold letOwnedTupleGo;refine wpAny_bind (wpAny_load DE ?_);rw[VU,RJ];refine wpAny_pure ?_;have IL:(its.map kN).drop j=.tuple [.int q.1,.str q.2]::(its.map kN).drop (j+1):=by
    rw[List.drop_eq_getElem_cons (by simpa using qP)]
    congr 1
    rw[List.getElem_map];rw[List.getElem?_eq_getElem qP]at hq;cases Option.some.inj hq;rfl
   rw[IL]at qg;refine wpAny_mono (qg A hA B6 aH (s5.setGen gn lP) (.ref T) I6 ZP vr) ?_ fun zz zz x=>x;rintro zz s7 ⟨Hl,Qv,B7,D6,h7,P7,F7⟩;refine wpAny_mono (h7 A hA B7 D6 s7 P7.inv F7) ?_ fun zz zz x=>x;rintro fl s8 ⟨r,yJ,L8,B8,D7,q8,P8,F8,r8⟩;have vY:=P7.trans P8;have ZU:∀a∈ga::W,∃o,s5.heap.get? a=some o∧a≠T:=fun a m=>by
    rcases List.mem_cons.mp m with rfl|m
    ·exact⟨og,DE,neT DE fun vs n' z=>by rw[RJ]at z;cases z⟩
    ·obtain⟨o,e⟩:=bL a m;exact⟨o,e,fun z=>ZO (z▸m)⟩
   have DF:∀a∈ga::W,∀o,s5.heap.get? a=some o→s8.heap.get? a=some o:=fun a m o e=>vY.kept e (Fm a m) (om a m).2 (wX a m);have VV:∀a∈ga::W,B8 a=none∧a∉D7:=fun a m=>by
    refine aW (ZU a m) ?_;intro o e ht;exact⟨vY.eZ (s:=s5.setGen gn lP) e (yI (om a m).1 ht) (om a m).2,vY.fJ (s:=s5.setGen gn lP) e (om a m).2⟩
   have RK:(s5.setGen gn lP).gens[gn]?=some lP:=uQ (L7.gens gn .running (uQ OO));have RL:s8.gens[gn]?=some lP:=vY.rest.gens gn lP RK;have RM:oT G s8.heap:=⟨fun a o e=>vY.inv.holds a o (vY.inv.base a o e),fun a m=>vY.inv.there (List.mem_append_right _ m)⟩;have next:forL (rb G (n+8) env own (.Tuple xa xb xc) body) ((its.map kN).drop (j+1)) yJ L8 Q→E .next s8∧E .cont s8:=fun q9=>
    hE _ _ (by rw[xJ];exact ag 3 0 (aa (ak af au) (aa (ax (bb au af) (aj ab aC)) (ak (bb au (aj af aC)) (bb au af)))) (by kd_p) qP hm) (.mk (j+1) yJ L8 B8 D7 lP qP rfl (RI.trans vY) F8 ⟨og,ZQ,ZR,DF ga (.head _) og DE,VU,RJ,ZT⟩ RL (by
     rw[show its.length-(j+1)=m by exact ag 3 0 (aa (ak af au) (aa (ax (bb au af) (aj ab aC)) (ax (bb au (aj af aC)) ab))) (by kd_p) qP hm]
     exact wY _ ⟨fun a ma o e=>DF a (.tail _ ma) o e,RM⟩) VV q9)
   cases r8 with
   |next=>exact(next q8).1
   |cont=>exact(next q8).2
   |brk=>exact Qn _ ⟨.next,yJ,L8,B8,D7,q8,RI.trans vY,F8,.next⟩
   |ret r=>exact Qo _ _ ⟨.ret _,yJ,L8,B8,D7,q8,RI.trans vY,F8,.ret r⟩
  ·have h0:its.length-j=0:=by exact ag 2 0 (aa (ae ab af) (aa (dJ (ak ab af)) (ax (bb af ab) b6))) (by kd_p) hj qP
   rw[h0]at wY;exact(wY s5 ⟨fun zz zz zz e=>e,RG⟩).elim
 ·refine qe hp ?_;clear hp;intro Rm uR L7
  have uR:∀b o,b∉W→s'.heap.get? b=some o→s5.heap.get? b=some o:=uR;have ZV:j=its.length:=by exact ag 2 0 (aa (ae af ab) (aa (ax (bb ab af) b6) (ax af ab))) (by kd_p) hj Rm
  subst ZV;have EE:∀b o,b∉W→s'.heap.get? b=some o→h'.get? b=some o:=fun b o hb e=>gL b o (uR b o hb e);refine hN _ ?_;rw[show(its.map kN).drop its.length=[] by rw[List.drop_eq_nil_iff];simp]at qg
  exact⟨.next,ao,ar,B',aH,qg,P'.lQ (W':=W) (fun a m=>iC a (.tail _ m)) (fun a m=>⟨(om a (.tail _ m)).1,(om a (.tail _ m)).2,wX a (.tail _ m),Fm a (.tail _ m)⟩) EE (restOf s5 .finished h' rfl L7),F'.lQ DB DC EE,.next⟩
theorem Fn(hG:bx G)(dW:∀a∈tabs,G.Bs a=none){n:Nat}{env:Env}{own:List Nat}{U:aw}{O:Mu}{Q:Fl→aw→Mu→Prop}{target:Expr}{f a:Expr}{p0 pos:Pos}{body:List Stmt}{x:Str}
  (he:eval (.Call f [a] [] p0) env=(do callWith p0 (←eval f env) [] (backTo p0 (starEach [a] env)) (backToKw p0 (keywordEach [] env))))(hp:eJ [a] env)(hf:∀x,foldedSetIterable (.Call f [a] [] p0) env x=pure x)(Fc:∃a b c,target=.Tuple a b c)(hx:x.cps.all (· < 128)=true)
  (h:bz G (n+8) env (eval f env) U O fun fv aA=>fv=.raw (.ref 28)∧e7 G (n+8) env (spliced (backTo p0 (starEach [a] env))) U aA fun vs aZ=>vs=[.str x] ∧
   forL (rb G (n+8) env own target body) ((fO x).map kN) U aZ Q):
  cn G (n+8) env own (exec (.For target (.Call f [a] [] p0) body [] pos) env) U O Q:=by
 intro A hA B Z s I F;refine wpAny_For ?_ hf;rw[he];refine wpAny_bind (wpAny_mono (h A hA B Z s I F) ?_ fun _ _ x=>x);rintro fx s1 ⟨fv,aA,B1,aE,⟨rfl,bf⟩,P1,r1⟩;have F1:=F.same P1;refine VR.j2 r1 ?_;refine callWith_of (P:=fV G (.ref 28)) (by rw[plain_any hp,nu _ _ _ rfl];rfl) (fun _ x=>x) (iE (kws:=[]) hp rfl ?_)
 refine wpAny_mono (bf A hA B1 aE s1 P1.inv F1) ?_ fun _ _ x=>x;rintro xs s2 ⟨vs,aZ,B2,aV,⟨rfl,hL⟩,P2,r2⟩;refine kwAll_nil ⟨keeps_K (hG.keep (fun P=>by kd_p)) _ P2.inv.jV,?_⟩
 refine aB.aO r2 ?_;intro y _ ry r;refine aB.bE r ?_;refine VR.fQ ry ?_;intro _;rename_i t;have I2:=P2.inv;have F2:=F1.same P2;have D8:=P1.trans P2;refine Fi hG dW (hA.le (by exact ag 1 0 (ae (nk 8) (aj ab (nk 8))) (by kd_p)):bY 8 A) I2 fun ga lj g p sc tk T0 H dP RD RN hk l9 hs ok hc fr fb OR=>?_
 refine wpAny_pyIter_gen (s:={s2 with gens:=s2.gens.push (.fresh (.func (g.body p) lj)),toks:=tk,heap:=H}) l9 ?_
 refine br (id l9) ?_;intro oga nga qga ZW cga dga sga;have OS:ga<H.objs.size:=Heap.lt_size ZW;have ZX:oT G H:=⟨fun a o e=>hk a o (I2.holds a o (I2.base a o e)),fun a m=>by obtain⟨o,e⟩:=I2.there (List.mem_append_right _ m);exact⟨o,hk a o e⟩⟩
 have DD:(GenState.fresh (.func (g.body p) lj)).Goes (model G.prog G.w) A.in1 (RP [lj.locals,H.objs.size+1,H.objs.size]) (YP G [lj.locals,H.objs.size+1,H.objs.size] (fO x)) (fO x).length (.send .none)
   ((({s2 with gens:=s2.gens.push (.fresh (.func (g.body p) lj)),toks:=tk,heap:=H}:Shared)).setGen s2.gens.size .running):=
  ⟨rfl,BR hG dW (A:=A.in1) (s:=(({s2 with gens:=s2.gens.push (.fresh (.func (g.body p) lj)),toks:=tk,heap:=H}:Shared)).setGen s2.gens.size .running) ((hA.le (by exact ag 1 0 (ae (nk 7) (aj ab (nk 8))) (by kd_p)):bY 7 A).in1) hs ok hc ZX fr (I2.base.off (I2.eZ RN)) (I2.i5 RN) hx⟩
 have iC:∀a∈ga::[lj.locals,H.objs.size+1,H.objs.size],s2.heap.get? a=none:=fun a m=>by
  simp only[List.mem_cons,List.not_mem_nil,or_false]at m;rcases m with rfl|rfl|rfl|rfl
  ·exact RD
  ·exact RN
  ·exact fA (Nat.le_succ_of_le OR)
  ·exact fA OR
 have L6:ga∉[lj.locals,H.objs.size+1,H.objs.size]:=fun m=>by
  simp only[List.mem_cons,List.not_mem_nil,or_false]at m;rcases m with rfl|rfl|rfl
  ·exact fb rfl
  ·exact Nat.lt_irrefl _ (Nat.lt_of_succ_lt OS)
  ·exact Nat.lt_irrefl _ OS
 generalize [lj.locals,H.objs.size+1,H.objs.size]=W at DD iC L6;have wX:∀a∈ga::W,a∉tabs:=fun a m=>I2.i5 (iC a m);have Fm:∀a∈ga::W,a∉fa G env own:=fun a m q=>by obtain⟨o,e⟩:=F2.bL a q;rw[iC a m]at e;exact bk e
 have DB:env.locals∉W:=fun m=>Fm _ (.tail _ m) (.head _);have DC:∀n c,(n,c)∈env.cells→c∉W:=fun n' c m q=>by refine cw (F2.dI n' c m) ?_;intro _ _ _ _ v o e _;rw[iC c (.tail _ q)]at e;exact bk e
 have RO:Rest s2 {s2 with gens:=s2.gens.push (.fresh (.func (g.body p) lj)),toks:=tk,heap:=H}:=⟨rfl,fun b=>b.push rfl,fun k y e=>by
  show(s2.gens.push _)[k]?=some y;rw[Array.getElem?_push,if_neg (Nat.ne_of_lt (Array.getElem?_eq_some_iff.mp e).1)];exact e⟩
 have P3:aG G (fa G env own) B2 aV s2 B2 aV aZ {s2 with gens:=s2.gens.push (.fresh (.func (g.body p) lj)),toks:=tk,heap:=H}:=(aG.refl I2 F2.bL).lQ (W':=[]) (fun _ m=>nomatch m) (fun _ m=>nomatch m) (fun b o _ e=>hk b o e) RO
 have F3:bt G env B2 aV U H:=F2.lQ (W':=[]) (fun m=>nomatch m) (fun _ _ _ m=>nomatch m) fun b o _ e=>hk b o e;have Je:(s2.gens.push (GenState.fresh (.func (g.body p) lj)))[s2.gens.size]?=some (.fresh (.func (g.body p) lj)):=by rw[Array.getElem?_push_size]
 refine codeAny_mono (Fj hA (Err:=fun e s'=>cameBackBy (model G.prog G.w) A env bM e s') Fc I2 iC L6 wX Fm DB DC P3 F3 (by rw[Array.getElem?_eq_none (Nat.le_refl _)]) l9 Je DD hL) fun r s' hr=>?_
 cases r with
 |ok f=>exact PS.after (D8.wide F) hr
 |error e=>exact hr
theorem uS(x:Str)(lo hi:Option Int):(dO x lo hi).length≤x.length:=by
 unfold dO;simp only[];split
 ·exact Nat.le_refl _
 ·have h1:((Builtin.Str.strSliceIndices lo hi 1 x.length).filterMap (x.cps[·]?)).length≤(Builtin.Str.strSliceIndices lo hi 1 x.length).length:=List.length_filterMap_le _ _
  have h2:=sliceIndices_le lo hi x.length;show((Builtin.Str.strSliceIndices lo hi 1 x.length).filterMap (x.cps[·]?)).toArray.size≤_
  simp only[List.size_toArray];exact ag 3 0 (aa (ae au ab) (aa (ae ab af) (ae au af))) (by kd_p) h1 h2
noncomputable def L9:Str:=⟨#[34]⟩
noncomputable def c8(x:Str):List (Int×Str)→Int→Option Int→List Str→Int×List Str
 |[],s,_,r=>(s,r)
 |(p,c)::es,s,o,r=>if c=L9 then(match o with
   |none=>c8 x es s (some p) r
   |some q=>c8 x es (p+1) none (if s=q then r else r++[dO x (some s) (some q)])) else c8 x es s o r
noncomputable def fU(x:Str):Str:=if decide (34∈x.cps.toList) then
  (let r:=c8 x (fO x) 0 none []
  Txt.join ⟨#[]⟩ (if r.1<x.length then r.2++[dO x (some r.1) none] else r.2)) else x
noncomputable def wZ:Tg:=.g9 (.name d6) (.name fq)
noncomputable def ZY:E:=.call (.glob dq) (.cons (.var eK) .nil)
noncomputable abbrev OT(b:Ss)(y:Stmt):Stmt:=.For (gV aI wZ (sk 0 y)) (bH aI ZY (sk 1 y)) (dS aI b (sb 0 y)) [] y.pos
structure Jf(sc:Scope)(B:List Stmt)(k:Nat)(pre b post:Ss)(own:List Nat):Prop where
 eq:B=dS aI pre B++OT b (B.getD k default)::dS aI post (B.drop (k+1))
 a:cX aI pre sc own B=true
 t:jD aI sc own wZ (sk 0 (B.getD k default))=true
 g:bP aI (.glob dq) sc (bj 0 (sk 1 (B.getD k default)))=true
 b:cX aI b sc own (sb 0 (B.getD k default))=true
 c:cX aI post sc own (B.drop (k+1))=true
theorem w0(hG:bx G)(dW:∀a∈tabs,G.Bs a=none){n:Nat}{env:Env}{sc:Scope}{B rest:List Stmt}{k:Nat}{pre b post:Ss}{own:List Nat}{U:aw}{O:Mu}{Q:Fl→aw→Mu→Prop}{x:Str}(F:Jf sc B k pre b post own)(hs:env.scope=sc)(hk:sc.kind=.function)(hx:x.cps.all (· < 128)=true)(hg:get U eK=some (.str x))
  (h:forL (fun v U O k=>qx G bX (n+8) wZ v U O fun ao ar=>aX G bX (n+8) b ao ar k) ((fO x).map kN) U O (Go (G:=G) (n+8) env own rest Q)):cn G (n+8) env own (execs (OT b (B.getD k default)::rest) env) U O Q:=by
 refine j5 (cn.mono (Q:=Go (G:=G) (n+8) env own rest Q) (Fn (n:=n) (target:=gV aI wZ (sk 0 (B.getD k default))) (f:=bH aI (.glob dq) (bj 0 (sk 1 (B.getD k default)))) (a:=bH aI (.var eK) (Et (ks (sk 1 (B.getD k default))).tail)) hG dW rfl
  (eF (es:=.cons (.var eK) .nil) (xs:=(ks (sk 1 (B.getD k default))).tail)) (fun zz=>rfl) ⟨_,_,_,rfl⟩ hx ?_) fun f ao ar q=>?_)
 ·refine dG hG.nm hG.gl (.glob dq) F.g hs (wy rfl ⟨rfl,?_⟩)
  refine kW hG.nm hG.gl (.cons (.var eK) .nil) (ys:=(ks (sk 1 (B.getD k default))).tail) rfl hs ?_;refine gk (bU hg (kT ⟨rfl,?_⟩));exact ly (st':=fun v U O ZZ=>gF G (n+8) env own (assign (gV aI wZ (sk 0 (B.getD k default))) env) v U O fun ao ar=>cn G (n+8) env own (execs (dS aI b (sb 0 (B.getD k default))) env) ao ar ZZ) (fun v U O k gL=>gF.mono (x9 hG.nm hG.gl wZ F.t hs gL) fun ao ar q=>eP hG.nm hG.gl b hk F.b hs q) (fun v U O k k' EE fZ=>gF.mono fZ fun ao ar pq=>cn.mono pq EE) h
 ·cases f with
  |next=>exact q
  |brk=>exact q
  |cont=>exact q
  |ret v=>exact q
theorem Z0(P:Params):Jf (ba (KP P) 35).scope (dy (ba (KP P) 35).body) 4 oM uq oN cT:=⟨by kd_p,by kd_p,by kd_p,by kd_p,by kd_p,by kd_p⟩
theorem Z1(P:Params):Jf (ba (KP P) 42).scope (dy (ba (KP P) 42).body) 2 oO ur oP dU:=⟨by kd_p,by kd_p,by kd_p,by kd_p,by kd_p,by kd_p⟩
theorem oo(x:Str)(p:Int)(c:Str)(es:List (Int×Str))(s:Int)(o:Option Int)(r:List Str):c8 x ((p,c)::es) s o r=if c=L9 then(match o with
   |none=>c8 x es s (some p) r
   |some q=>c8 x es (p+1) none (if s=q then r else r++[dO x (some s) (some q)])) else c8 x es s o r:=rfl
noncomputable def OU:Option Int→V
 |none=>.none
 |some p=>.int p
theorem lR:∀ (cs:List Nat) (i:Nat) (e:Bool),(cD i e cs).length≤cs.length+1
 |[],i,e=>by unfold cD;split<;>simp
 |c::cs,i,true=>by unfold cD;have:=lR cs (i+1) false;simp;omega
 |c::cs,i,false=>by
  unfold cD;split
  ·have:=lR cs (i+1) true;simp;exact za this
  ·have:=lR cs (i+1) false;simp;omega
theorem ko{M:Nat}:∀ (r:List Str),(∀y∈r,y.length≤M)→(r.map (·.length)).sum≤r.length*M
 |[],_=>by simp
 |y::r,h=>by
  have h1:=h y (.head _);have h2:=ko r fun z m=>h z (.tail _ m);simp only[List.map_cons,List.sum_cons,List.length_cons,Nat.add_mul,Nat.one_mul];exact ag 4 0 (aa (ae aM ab) (aa (ae au af) (ae (aj aM au) (aj af ab)))) (by kd_p) h1 h2
theorem kr{its:List (Int×Str)}{i:Nat}{v:V}(h:(its.map kN)[i]?=some v):∃hi:i<its.length,v=kN its[i]:=by
 have hi:i<its.length:=by have:=(List.getElem?_eq_some_iff.mp h).1;simpa using this
 rw[List.getElem?_map,List.getElem?_eq_getElem hi]at h;exact⟨hi,by simpa using h.symm⟩
theorem Fo(hG:bx G)(dW:∀a∈tabs,G.Bs a=none){n:Nat}{O:Mu}{Q:V→Mu→Prop}{x:Str}(hx:x.cps.all (· < 128)=true)(hl:x.length≤1000)(q:Q (.str (fU x)) O):aU G (n+9) (.ref 35) [.str x] [] O Q:=by
 refine lG hG (n:=n+8) (own:=cT) [(eK,.str x)] (fun P ys ks B Z r rk=>?_) (fun P env hP hs hc zW hk=>?_)
 ·refine aB.aO r ?_;intro y zz r1 r
  refine aB.bE r ?_;refine aB.bE rk ?_;exact⟨[y],.cons r1 .nil,fun S=>by kd_p⟩
 ·have F:=Z0 P
  rw[F.eq];refine qB hG.nm hG.gl hk hs oM F.a ?_;unfold oM;k_upd;show bW G _ .NotIn (.str (⟨#[34]⟩:Str)) (.str x) _ _;refine Ed ?_;rw[PySem.StrLaws.found_one];k_upd
  by_cases hq:34∈x.cps.toList
  ·rw[show(!decide (34∈x.cps.toList))=false by simp[hq]]
   k_upd;refine⟨.of (by decide),(fun zz m=>nomatch m),?_⟩
   k_upd;show cn G (n+8) env cT _ _ _ _;have es:fU x=(let r:=c8 x (fO x) 0 none []
     Txt.join ⟨#[]⟩ (if r.1<x.length then r.2++[dO x (some r.1) none] else r.2)):=by unfold fU;rw[if_pos (by simpa using hq)]
   have Ma:(fO x).length≤1001:=by
    have:=lR x.cps.toList 0 false;have h9:x.cps.toList.length=x.length:=by simp[Str.length]
    unfold fO;exact ag 3 0 (aa (ae af bw) (aa (ae au (aj ab aC)) (aa (ax ab af) (ae au (nk 1001))))) (by kd_p) hl this h9
   refine w0 hG dW F hs hk hx rfl ?_;refine dA (fun i ao ar=>∃ (s:Int) (o:Option Int) (r:List Str),c8 x ((fO x).drop i) s o r=c8 x (fO x) 0 none []∧ar=O++[some (r.map .str)]∧get ao 2=some (.str x)∧get ao 5=some (.int s)∧get ao 7=some (OU o)∧get ao 4=some (.ml O.length)∧r.length≤i∧∀y∈r,y.length≤x.length)
    (fun i v ao ar k hv hJ jL kI vT=>?_) (fun ao ar hJ=>?_) ⟨0,none,[],rfl,rfl,rfl,rfl,rfl,rfl,Nat.zero_le _,fun zz m=>nomatch m⟩
   ·obtain⟨hi,rfl⟩:=kr hv
    refine pj hJ ?_;clear hJ;intro s o rr b7 z1;subst z1;intro g2 g5 g7 g4 pT BU;rw[List.drop_eq_getElem_cons hi]at b7;generalize (fO x)[i]=ev at b7;obtain⟨pp,c⟩:=ev;refine nB rfl (gx (gx ?_));have k2:get (set (set ao d6 (.int pp)) fq (.str c)) 2=some (.str x):=by rw[get_set,get_set];exact g2
    have k5:get (set (set ao d6 (.int pp)) fq (.str c)) 5=some (.int s):=by rw[get_set,get_set];exact g5
    have k7:get (set (set ao d6 (.int pp)) fq (.str c)) 7=some (OU o):=by rw[get_set,get_set];exact g7
    have k4:get (set (set ao d6 (.int pp)) fq (.str c)) 4=some (.ml O.length):=by rw[get_set,get_set];exact g4
    have k1:get (set (set ao d6 (.int pp)) fq (.str c)) 1=some (.int pp):=by rw[get_set,get_set];rfl
    have k3:get (set (set ao d6 (.int pp)) fq (.str c)) 3=some (.str c):=gs;generalize set (set ao d6 (.int pp)) fq (.str c)=a9 at k1 k2 k3 k4 k5 k7;unfold uq;k_upd
    by_cases Mb:c=L9
    ·rw[show(c==Str.ofString "\"")=true by rw[Mb];rfl]
     k_upd;rw[oo,if_pos Mb]at b7;cases o with
     |none=>
      change get a9 7=some .none at k7;show bW G (n+8) .Is V.none V.none _ _;k_upd;exact jL _ _ ⟨s,some pp,rr,b7,rfl,gn k2,gn k5,gs,gn k4,by exact AU pT,BU⟩
     |some w=>
      change get a9 7=some (.int w) at k7;show bW G (n+8) .Is (V.int w) V.none _ _;k_upd
      by_cases zw:s=w
      ·rw[show(s !=w)=false by simp[zw]]
       k_upd;simp only[zw,if_true]at b7;exact jL _ _ ⟨pp+1,none,rr,b7,rfl,by rw[get_set,get_set];exact k2,by rw[get_set,get_set];rfl,gs,by rw[get_set,get_set];exact k4,by exact AU pT,BU⟩
      ·rw[show(s !=w)=true by simp[zw]]
       simp only[zw,if_false]at b7;k_upd;refine bB (bU k4 ?_);refine⟨_,fC (xs:=rr.map V.str) (by simp),?_⟩
       k_upd;have BL:=uS x (some s) (some w);refine HO (.of (by exact NB hl BL)) ?_
       k_upd;refine fD (xs:=rr.map V.str) (by simp) (by simp;rw[sizeLine_eq];exact ag 3 0 (aa (ae af (nk 1001)) (aa (ak ab af) (aa (ae au ab) (ae au bq)))) (by kd_p) Ma hi pT) .str ?_
       k_upd;refine jL _ _ ⟨pp+1,none,rr++[dO x (some s) (some w)],b7,by simp,by rw[get_set,get_set];exact k2,by rw[get_set,get_set];rfl,gs,by rw[get_set,get_set];exact k4,by simp;omega,fun y m=>?_⟩
       rcases List.mem_append.mp m with m|m
       ·exact BU y m
       ·rw[List.mem_singleton.mp m];exact BL
    ·rw[show(c==Str.ofString "\"")=false by apply beq_eq_false_iff_ne.mpr;exact Mb]
     k_upd;rw[oo,if_neg Mb]at b7;exact jL _ _ ⟨s,o,rr,b7,rfl,k2,k5,k7,k4,by exact AU pT,BU⟩
   ·refine pj hJ ?_;clear hJ;intro s o rr b7 z1;subst z1;intro g2 g5 g7 g4 pT BU
    rw[List.length_map]at b7 pT;rw[List.drop_length]at b7;have b7:(s,rr)=c8 x (fO x) 0 none []:=b7;rw[es,←b7]at q;simp only[]at q;show cn G (n+8) env cT _ _ _ _;refine eP hG.nm hG.gl oN hk F.c hs ?_;unfold oN;k_upd;refine zC (cp.of (by exact tA hl)).ok ?_
    k_upd;have tk:∀ (ys:List Str),List.take O.length (O++[some (ys.map V.str)])=O:=fun ys=>by simp
    by_cases zl:s<(x.length:Int)
    ·rw[if_pos zl]at q
     rw[show decide (s<(x.length:Int))=true by simpa using zl]
     k_upd;refine bB (bU g4 ?_);refine⟨_,fC (xs:=rr.map V.str) (by simp),?_⟩
     k_upd;have BL:=uS x (some s) none;refine HO (.of (by exact NB hl BL)) ?_
     k_upd;refine fD (xs:=rr.map V.str) (by simp) (by simp;rw[sizeLine_eq];exact ag 2 0 (aa (ae ab (nk 1001)) (aa (ae af ab) (ae af bq))) (by kd_p) Ma pT) .str ?_
     k_upd;refine bB ?_;k_upd;refine⟨_,oH,?_⟩;k_upd;refine n9 (ys:=rr++[dO x (some s) none]) (by simp) ?_ ?_
     ·have:=ko (M:=1000) (rr++[dO x (some s) none]) fun y m=>by
       rcases List.mem_append.mp m with m|m
       ·have:=BU y m;exact GL hl this
       ·rw[List.mem_singleton.mp m];exact GL hl BL
      have e0:(Str.ofString "").length=0:=rfl;rw[e0];simp only[List.length_append,List.length_singleton]at this ⊢;have:(rr.length+1)*1000≤1002*1000:=Nat.mul_le_mul_right _ (by exact ag 2 0 (aa (ae ab (nk 1001)) (aa (ae af ab) (ae (aj af aC) (nk 1002)))) (by kd_p) Ma pT)
      exact ag 2 0 (aa (ae af (sj (aj ab aC) 1000)) (aa (ae (sj (aj ab aC) 1000) (cZ 1002 bw)) (ae (aj af (sj (aj ab aC) 0)) bq))) (by kd_p) (by assumption) this
     ·refine⟨_,.cl .str,?_⟩
      have:((O++[some (rr.map V.str)]).set O.length (some (rr.map V.str++[V.str (dO x (some s) none)])))=O++[some ((rr++[dO x (some s) none]).map V.str)]:=by simp
      rw[this,tk];exact q
    ·rw[if_neg zl]at q
     rw[show decide (s<(x.length:Int))=false by simpa using zl]
     k_upd;refine bB ?_;k_upd;refine⟨_,oH,?_⟩;k_upd;refine n9 (ys:=rr) (by simp) ?_ ?_
     ·have:=ko (M:=1000) rr fun y m=>by have:=BU y m;exact GL hl this
      have e0:(Str.ofString "").length=0:=rfl;rw[e0];have:rr.length*1000≤1001*1000:=Nat.mul_le_mul_right _ (by exact ag 2 0 (aa (ae ab (nk 1001)) (aa (ae af ab) (ae af (nk 1001)))) (by kd_p) Ma pT)
      exact ag 2 0 (aa (ae af (sj ab 1000)) (aa (ae (sj ab 1000) (cZ 1001 bw)) (ae (aj af (sj ab 0)) bq))) (by kd_p) (by assumption) this
     ·refine⟨_,.cl .str,?_⟩
      rw[tk];exact q
  ·rw[show(!decide (34∈x.cps.toList))=true by simp[hq]]
   k_upd;refine⟨_,.cl .str,?_⟩;rw[List.take_length];have es:fU x=x:=by unfold fU;rw[if_neg (by simpa using hq)]
   rw[es]at q;exact q
noncomputable def Mc:Str:=⟨#[40]⟩
noncomputable def cls:Str:=⟨#[41]⟩
noncomputable def dk:List (Int×Str)→Int→Bool
 |[],o=>o==0
 |(_,c)::es,o=>if c=Mc then dk es (o+1) else if c=cls then(if o-1<0 then false else dk es (o-1)) else dk es o
theorem vZ(p:Int)(c:Str)(es:List (Int×Str))(o:Int):dk ((p,c)::es) o=if c=Mc then dk es (o+1) else if c=cls then(if o-1<0 then false else dk es (o-1)) else dk es o:=rfl
noncomputable def checkOf(x:Str):Bool:=dk (fO (fU x)) 0
theorem Fp(hG:bx G)(dW:∀a∈tabs,G.Bs a=none){n:Nat}{O:Mu}{Q:V→Mu→Prop}{x:Str}(hx:x.cps.all (· < 128)=true)(hl:x.length≤1000)(Z2:(fU x).cps.all (· < 128)=true)(q:Q (.bool (checkOf x)) O):aU G (n+10) (.ref 42) [.str x] [] O Q:=by
 refine lG hG (n:=n+1+8) (own:=dU) [(eK,.str x)] (fun P ys ks B Z r rk=>?_) (fun P env hP hs hc zW hk=>?_)
 ·refine aB.aO r ?_;intro y zz r1 r
  refine aB.bE r ?_;refine aB.bE rk ?_;exact⟨[y],.cons r1 .nil,fun S=>by kd_p⟩
 ·have F:=Z1 P
  rw[F.eq];refine qB hG.nm hG.gl hk hs oO F.a ?_;unfold oO;k_upd;refine CK hG (Fo hG dW (n:=n) hx hl ?_);k_upd;show cn G (n+1+8) env dU _ _ _ _;refine w0 hG dW F hs hk Z2 rfl ?_;generalize VW:fO (fU x)=Jg;have q:Q (.bool (dk Jg 0)) O:=VW▸q;refine dA (fun i ao ar=>∃o:Int,dk (Jg.drop i) o=dk Jg 0∧ar=O∧get ao 8=some (.int o)) (fun i v ao ar k hv hJ jL kI vT=>?_) (fun ao ar hJ=>?_) ⟨0,rfl,rfl,rfl⟩
  ·obtain⟨hi,rfl⟩:=kr hv
   refine gJ hJ ?_;clear hJ;intro o b7 z1;subst z1;intro g8;rw[List.drop_eq_getElem_cons hi]at b7;generalize Jg[i]=ev at b7;obtain⟨pp,c⟩:=ev;refine nB rfl (gx (gx ?_));have k8:get (set (set ao d6 (.int pp)) fq (.str c)) 8=some (.int o):=by rw[get_set,get_set];exact g8
   have k3:get (set (set ao d6 (.int pp)) fq (.str c)) 3=some (.str c):=gs;generalize set (set ao d6 (.int pp)) fq (.str c)=a9 at k3 k8;rw[vZ]at b7;unfold ur;k_upd
   by_cases ho:c=Mc
   ·rw[show(c==Str.ofString "(")=true by rw[ho];rfl]
    rw[if_pos ho]at b7;k_upd;exact jL _ _ ⟨o+1,b7,rfl,gs⟩
   ·rw[show(c==Str.ofString "(")=false by apply beq_eq_false_iff_ne.mpr;exact ho]
    rw[if_neg ho]at b7;k_upd
    by_cases cj:c=cls
    ·rw[show(c==Str.ofString ")")=true by rw[cj];rfl]
     rw[if_pos cj]at b7;k_upd;have i8:get (set a9 8 (.int (o-1))) 8=some (.int (o-1)):=gs
     by_cases j7:o-1<0
     ·rw[if_pos j7]at b7
      k_upd;rw[show decide (o-1<0)=true by simpa using j7]
      k_upd;refine vT _ _ _ ⟨_,.cl .bool,?_⟩;rw[List.take_length,b7];exact q
     ·rw[if_neg j7]at b7
      k_upd;rw[show decide (o-1<0)=false by simpa using j7]
      k_upd;exact jL _ _ ⟨o-1,b7,rfl,i8⟩
    ·rw[show(c==Str.ofString ")")=false by apply beq_eq_false_iff_ne.mpr;exact cj]
     rw[if_neg cj]at b7;k_upd;exact jL _ _ ⟨o,b7,rfl,k8⟩
  ·refine gJ hJ ?_;clear hJ;intro o b7 z1;subst z1;intro g8
   rw[List.length_map,List.drop_length]at b7;show cn G (n+1+8) env dU _ _ _ _;refine eP hG.nm hG.gl oP hk F.c hs ?_;unfold oP;k_upd;refine⟨_,.cl .bool,?_⟩;rw[List.take_length];have b7:(o==0)=dk Jg 0:=b7;rw[b7];exact q
noncomputable def gD:List Nat→List Int→Nat→Nat→Nat→List Int×Nat×Nat×Nat
 |[],cs,b,n,nt=>(cs,b,n,nt)
 |c::r,cs,b,n,nt=>if c=32 then gD r cs (b+1) (n+1) nt else if c=9 then
   (let Jh:=if cs.length≤b then cs++List.replicate (b-cs.length+1) 0 else cs
   gD r (Jh.set b (Jh.getD b 0+1)) 0 (n+1) (nt+1)) else(cs,b,n,nt)
theorem o7(c:Nat)(r:List Nat)(cs:List Int)(b n nt:Nat):gD (c::r) cs b n nt=if c=32 then gD r cs (b+1) (n+1) nt else if c=9 then
   (let Jh:=if cs.length≤b then cs++List.replicate (b-cs.length+1) 0 else cs
   gD r (Jh.set b (Jh.getD b 0+1)) 0 (n+1) (nt+1)) else(cs,b,n,nt):=rfl
noncomputable def Aa(s:Str):List V:=match gD s.cps.toList [] 0 0 0 with
 |(cs,b,n,nt)=>[.str s,.int n,.int nt,.tuple [.tuple (cs.map .int),.int b],.bool (decide ((cs.length:Int)≤1))]
noncomputable def th(K:Frag)(nm s:Str):Bool:=match typeIn K (.ref 173) with
 |some mc=>readsIn K 173 mc&&(match findCls K (.ref 173) mc nm with|some (.val (.str x _))=>x==s|_=>false)
 |none=>false
theorem VX(P:Params):th (KP P) "S" " "=true:=by kd_p
theorem VY(P:Params):th (KP P) "T" "\t"=true:=by kd_p
theorem xd(hG:bx G){n:Nat}{O:Mu}{Q:V→Mu→Prop}{nm s:Str}(hc:∀P,th (KP P) nm s=true)(q:Q (.str s) O):s9 G n nm (.raw (.ref 173)) O Q:=by
 obtain⟨P,hP⟩:=hG.K;intro A hA B Z st x I r;refine VR.j2 r ?_;have X:(KP P).In st.heap:=hP▸I.jV;have h:=hc P;unfold th at h;split at h
 ·rename_i mc hm
  simp only[Bool.and_eq_true]at h;obtain⟨h1,h2⟩:=h;split at h2
  ·rename_i y t hf
   have:=eq_of_beq h2;subst this;exact cls_value X h1 hf rfl (PV.here I .str q)
  ·exact iO h2
 ·exact iO h
noncomputable abbrev Ji:S:=.kE [46,47] (.tup (.cons (.attr (.glob 50) "S") (.cons (.attr (.glob 50) "T") .nil)))
noncomputable abbrev Jj:S:=.asg (.name 48) (.list true .nil)
noncomputable abbrev RQ:S:=.Dl (.name 18) (.name 21) (.name 49) (.int 0)
noncomputable abbrev xe(nm:Str)(e:E)(y:Stmt):Stmt:=.Assign [.Attribute (.Name (aI dH) (bj 0 (sk 1 y)).pos) nm (sk 1 y).pos] (bH aI e (sk 0 y)) y.pos
noncomputable abbrev forA(b:Ss)(y:Stmt):Stmt:=.For (gV aI (.name fq) (sk 0 y)) (.Attribute (.Name (aI dH) (bj 0 (sk 1 y)).pos) "raw" (sk 1 y).pos) (dS aI b (sb 0 y)) [] y.pos
noncomputable abbrev cc(K:Frag)(i:Nat):Stmt:=(dy (ba K 128).body).getD i default
theorem VZ(P:Params):dy (ba (KP P) 128).body=[xe "raw" (.var rt) (cc (KP P) 0),pE aI Ji (cc (KP P) 1),pE aI Jj (cc (KP P) 2),pE aI RQ (cc (KP P) 3),forA kY (cc (KP P) 4),xe "n" (.var jY) (cc (KP P) 5),xe "nt" (.var Il) (cc (KP P) 6),xe "norm" mM (cc (KP P) 7),xe "is_simple" jF (cc (KP P) 8)]:=by kd_p
theorem V0(P:Params):(t5 aI Ji (ba (KP P) 128).scope di (cc (KP P) 1)&&t5 aI Jj (ba (KP P) 128).scope di (cc (KP P) 2)&&t5 aI RQ (ba (KP P) 128).scope di (cc (KP P) 3) &&
 bP aI mM (ba (KP P) 128).scope (sk 0 (cc (KP P) 7))&&bP aI jF (ba (KP P) 128).scope (sk 0 (cc (KP P) 8))&&jW aI (ba (KP P) 128).scope di fq&&cX aI kY (ba (KP P) 128).scope di (sb 0 (cc (KP P) 4)))=true:=by kd_p
theorem pU(c d:Nat):((⟨#[c]⟩:Str)==⟨#[d]⟩)=decide (c=d):=by
 by_cases h:c=d
 ·subst h;simp
 ·have:((⟨#[c]⟩:Str)==⟨#[d]⟩)=false:=by
   apply beq_eq_false_iff_ne.mpr;intro e;simp at e;exact h e
  rw[this];simp[h]
structure rR(x:Addr)(O:Mu)(ao:aw)(ar:Mu)(cs:List Int)(b n nt j:Nat):Prop where
 ml:(ar[j]?:Option (Option (List V)))=some (some (cs.map .int))
 jl:O.length≤j
 tk:ar.take O.length=O
 self:get ao 45=some (.raw (.ref x))
 S:get ao 46=some (.str ⟨#[32]⟩)
 T:get ao 47=some (.str ⟨#[9]⟩)
 c:get ao 48=some (.ml j)
 b':get ao 18=some (.int b)
 n':get ao 21=some (.int n)
 V1:get ao 49=some (.int nt)
theorem yK{ar O:Mu}{j:Nat}{a:Option (List V)}(h:ar.take O.length=O)(hj:O.length≤j):(ar.set j a).take O.length=O:=by
 rw[List.take_set_of_le hj];exact h
theorem v5{ar O:Mu}{a:Option (List V)}(h:ar.take O.length=O):(ar++[a]).take O.length=O:=by
 have hl:O.length≤ar.length:=by
  have:=congrArg List.length h;simp at this;exact GN this
 rw[List.take_append_of_le_length hl];exact h
theorem BV{n:Nat}{x:Addr}{O ar:Mu}{ao:aw}{cs:List Int}{b m nt j c:Nat}{k:Fl→aw→Mu→Prop}(W:rR x O ao ar cs b m nt j)(hb:b≤1000)(cj:cs.length≤2000)
  (h1:c=32→∀a9,rR x O a9 ar cs (b+1) (m+1) nt j→k .next a9 ar)
  (h2:c≠32→c=9→∀a9 aA j1,rR x O a9 aA ((if cs.length≤b then cs++List.replicate (b-cs.length+1) 0 else cs).set b ((if cs.length≤b then cs++List.replicate (b-cs.length+1) 0 else cs).getD b 0+1)) 0 (m+1) (nt+1) j1→k .next a9 aA)
  (h3:c≠32→c≠9→∀a9,rR x O a9 ar cs b m nt j→k .brk a9 ar):aX G bX n kY (set ao 3 (.str ⟨#[c]⟩)) ar k:=by
 have zT:(2:Int) ^ 63=9223372036854775808:=by decide
 have EH:(2:Nat) ^ 24=16777216:=by decide
 have W1:rR x O (set ao 3 (.str ⟨#[c]⟩)) ar cs b m nt j:=⟨W.ml,W.jl,W.tk,gn W.self,gn W.S,gn W.T,gn W.c,gn W.b',gn W.n',gn W.V1⟩;have g3:get (set ao 3 (.str ⟨#[c]⟩)) 3=some (.str ⟨#[c]⟩):=gs;generalize set ao 3 (.str ⟨#[c]⟩)=U at W1 g3;obtain⟨w1,w2,w3,w4,w5,w6,w7,w8,w9,RR⟩:=W1;unfold kY;k_upd;rw[pU]
 by_cases hc:c=32
 ·rw[show decide (c=32)=true by simpa using hc]
  k_upd;have i18:get (set U 21 (.int ((m:Int)+1))) 18=some (.int b):=gn w8;k_upd;refine h1 hc _ ⟨w1,w2,w3,?_,?_,?_,?_,?_,?_,?_⟩
  ·rw[get_set,get_set];exact w4
  ·rw[get_set,get_set];exact w5
  ·rw[get_set,get_set];exact w6
  ·rw[get_set,get_set];exact w7
  ·rw[get_set];rfl
  ·rw[get_set,get_set];rfl
  ·rw[get_set,get_set];exact RR
 ·rw[show decide (c=32)=false by simpa using hc]
  k_upd;rw[pU]
  by_cases Jk:c=9
  ·rw[show decide (c=9)=true by simpa using Jk]
   k_upd;have Z3:get (set U 21 (.int ((m:Int)+1))) 49=some (.int nt):=gn RR;k_upd;generalize rS:set (set U 21 (.int ((m:Int)+1))) 49 (.int ((nt:Int)+1))=b9;have V2:get b9 45=some (.raw (.ref x)):=by rw[←rS,get_set,get_set];exact w4
   have V3:get b9 46=some (.str ⟨#[32]⟩):=by rw[←rS,get_set,get_set];exact w5
   have V4:get b9 47=some (.str ⟨#[9]⟩):=by rw[←rS,get_set,get_set];exact w6
   have Z4:get b9 48=some (.ml j):=by rw[←rS,get_set,get_set];exact w7
   have V5:get b9 18=some (.int b):=by rw[←rS,get_set,get_set];exact w8
   have V6:get b9 21=some (.int ((m+1:Nat):Int)):=by rw[←rS,get_set,get_set];rfl
   have V7:get b9 49=some (.int ((nt+1:Nat):Int)):=by rw[←rS,get_set];rfl
   clear Z3 rS;have tail:∀ (gG:aw) (dN:Mu) (ds:List Int) (j3:Nat),get gG 45=some (.raw (.ref x))→get gG 46=some (.str ⟨#[32]⟩)→get gG 47=some (.str ⟨#[9]⟩)→get gG 48=some (.ml j3)→get gG 18=some (.int b)→get gG 21=some (.int ((m+1:Nat):Int))→get gG 49=some (.int ((nt+1:Nat):Int))→
     (dN[j3]?:Option (Option (List V)))=some (some (ds.map .int))→O.length≤j3→dN.take O.length=O→b<ds.length→ds.length≤5000→(∀a9 aA j1,rR x O a9 aA (ds.set b (ds.getD b 0+1)) 0 (m+1) (nt+1) j1→k .next a9 aA)→
     aX G bX n (.cons (.asg (.sub (.var 48) (.var 18)) (.bin .Add (.sub (.var 48) (.var 18)) (.int 1))) (.cons (.asg (.name 18) (.int 0)) .nil)) gG dN fun f a9 aA=>match f with
      |.next=>aX G bX n .nil a9 aA fun f a9 aA=>match f with | .next=>aX G bX n .nil a9 aA k|f=>k f a9 aA
      |f=>match f with | .next=>aX G bX n .nil a9 aA k|f=>k f a9 aA:=by
    intro gG dN ds j3 Z5 Z6 Z7 Z8 a18 Z9 a49 RS Jl htk nY V8 hk;have hv:(ds.map V.int)[cF ((b:Nat):Int) (ds.map V.int).length]?=some (.int (ds.getD b 0)):=by
     unfold cF;rw[if_neg (by exact ag 1 0 (aa (ae ab bw) (dJ (aK (az ab) aJ))) (by kd_p) hb)]
     simp[nY]
    k_upd;refine xZ RS hv (by exact ag 2 0 (aa (ae ab bw) (ai (cI (az af)) (az ab))) (by kd_p) hb) (.of (by simp;exact NC V8)) ?_
    k_upd;refine x3 RS (by exact Int.natCast_nonneg _) (by simp;omega) (.of (by simp;exact NC V8)) .int ?_
    k_upd;refine hk _ _ j3 ⟨?_,Jl,yK htk Jl,?_,?_,?_,?_,?_,?_,?_⟩
    ·have bA:j3<dN.length:=(List.getElem?_eq_some_iff.mp RS).1
     rw[List.getElem?_set_self bA,List.map_set]
     rfl
    ·rw[get_set];exact Z5
    ·rw[get_set];exact Z6
    ·rw[get_set];exact Z7
    ·rw[get_set];exact Z8
    ·rw[get_set];rfl
    ·rw[get_set];exact Z9
    ·rw[get_set];exact a49
   k_upd;refine fj w1 (cp.of (by simp;exact GO cj)).ok ?_
   k_upd;rw[List.length_map]
   by_cases hle:cs.length≤b
   ·rw[show decide ((cs.length:Int)≤(b:Int))=true by simp;omega]
    k_upd;refine⟨.of (by simp),bK ?_⟩
    k_upd;refine fj w1 (cp.of (by simp;exact GO cj)).ok ?_
    k_upd;rw[List.length_map];refine lx ⟨by exact ag 2 0 (aa (ae ab af) (ai (cI (zk (2 ^ 63))) (bh (bR (az af) (az ab)) bV))) (by kd_p) hle,by exact ag 2 0 (aa (ae af bw) (aa (ae ab (nk 2000)) (aK (bh (bR (az af) (az ab)) bV) (zk (2 ^ 63))))) (by kd_p) hb cj,by simp;exact ag 2 0 (aa (ae af bw) (aa (ae ab (nk 2000)) (ai (bh (bR (az af) (az ab)) bV) (zk 16777216)))) (by kd_p) hb cj⟩ ?_
    rw[eO,show((b:Int)-(cs.length:Int)+1).toNat=b-cs.length+1 by exact ag 2 0 (aa (ae ab af) (ax (dB (bh (bR (az af) (az ab)) bV)) (aj (bb af ab) aC))) (by kd_p) hle]
    show cB G n .Add (.ml j) (.list (List.replicate (b-cs.length+1) (V.int 0))) ar _;refine HF w1 (fun y m=>by rw[List.eq_of_mem_replicate m];exact .int) (by simp;rw[sizeLine_eq];exact ag 2 0 (aa (ae ab bw) (aa (ae af ab) (ae (aj af (aj (bb ab af) aC)) bq))) (by kd_p) hb hle) ?_
    refine eG ?_;have V9:O.length≤ar.length:=by
     have:=congrArg List.length w3;simp at this;exact GN this
    refine tail _ _ (cs++List.replicate (b-cs.length+1) 0) ar.length ?_ ?_ ?_ ?_ ?_ ?_ ?_ (by simp) V9 (v5 w3) (by simp;exact ag 2 0 (aa (ae ab af) (ak af (aj ab (aj (bb af ab) aC)))) (by kd_p) hle) (by simp;exact ag 2 0 (aa (ae ab bw) (aa (ae af ab) (ae (aj af (aj (bb ab af) aC)) (nk 5000)))) (by kd_p) hb hle) fun a9 aA j1 w=>h2 hc Jk a9 aA j1 (by rw[if_pos hle];exact w)
    ·rw[get_set];exact V2
    ·rw[get_set];exact V3
    ·rw[get_set];exact V4
    ·rw[get_set];rfl
    ·rw[get_set];exact V5
    ·rw[get_set];exact V6
    ·rw[get_set];exact V7
   ·rw[show decide ((cs.length:Int)≤(b:Int))=false by simp;exact ND hle]
    refine eG ?_;exact tail _ _ cs j V2 V3 V4 Z4 V5 V6 V7 w1 w2 w3 (by exact ND hle) (by exact ag 1 0 (aa (ae ab (nk 2000)) (ae ab (nk 5000))) (by kd_p) cj) fun a9 aA j1 w=>h2 hc Jk a9 aA j1 (by rw[if_neg hle];exact w)
  ·rw[show decide (c=9)=false by simpa using Jk]
   k_upd;exact h3 hc Jk _ ⟨w1,w2,w3,w4,w5,w6,w7,w8,w9,RR⟩
theorem mV:∀ (l:List Nat) (cs:List Int) (b n nt M:Nat),b≤M→cs.length≤M+1→(gD l cs b n nt).1.length≤M+l.length+1∧(gD l cs b n nt).2.1≤M+l.length
 |[],cs,b,n,nt,M,h1,h2=>⟨by simp[gD];omega,by simp[gD];omega⟩
 |c::r,cs,b,n,nt,M,h1,h2=>by
  rw[o7]
  by_cases h:c=32
  ·rw[if_pos h]
   have:=mV r cs (b+1) (n+1) nt (M+1) (by exact Gx h1) (by exact za h2)
   simp only[List.length_cons];exact NF this
  ·rw[if_neg h]
   by_cases h':c=9
   ·rw[if_pos h']
    simp only[];have:=mV r ((if cs.length≤b then cs++List.replicate (b-cs.length+1) 0 else cs).set b ((if cs.length≤b then cs++List.replicate (b-cs.length+1) 0 else cs).getD b 0+1)) 0 (n+1) (nt+1) (M+1) (by exact Nat.zero_le _) (by
     rw[List.length_set];split
     ·simp;exact NG h1 (by assumption)
     ·exact za h2)
    simp only[List.length_cons];exact NF this
   ·rw[if_neg h']
    simp only[List.length_cons];exact⟨by exact ag 3 0 (aa (ae au (aj af aC)) (ae au (aj (aj af (aj ab aC)) aC))) (by kd_p) h2,by exact ag 3 0 (aa (ae au af) (ae au (aj af (aj ab aC)))) (by kd_p) h1⟩
noncomputable def iL(st:Str)(cs:List Int)(b n nt:Nat):List (Str×V):=[("is_simple",.bool (decide ((cs.length:Int)≤1))),("norm",.tuple [.tuple (cs.map .int),.int b]),("nt",.int nt),("n",.int n),("raw",.str st)]
theorem BW(hG:bx G){n:Nat}{env:Env}{x dx:Addr}{O:Mu}{st:Str}{Q:Fl→aw→Mu→List (Str×V)→Prop}{P:Params}(hs:env.scope=(ba (KP P) 128).scope)(hk:(ba (KP P) 128).scope.kind=.function)(fZ:st.length≤900)
  (q:∀ao ar cs b m nt,(cs,b,m,nt)=gD st.cps.toList [] 0 0 0→ar.take O.length=O→Q .next ao ar (iL st cs b m nt)):
  yk G n env di x dx (execs (dy (ba (KP P) 128).body) env) (bc [] [(dH,.raw (.ref x)),(rt,.str st)]) O [] Q:=by
 have c:=V0 P;have d1:=aL (aL (aL (aL (aL (aL c)))));have d2:=aR (aL (aL (aL (aL (aL c)))));have d3:=aR (aL (aL (aL (aL c))));have l7:=aR (aL (aL (aL c)));have l8:=aR (aL (aL c));have f3:=aR (aL c);have f4:=aR c;have RT:aI dH=G.nm dH:=(hG.nm _).symm;rw[VZ P];unfold xe forA;rw[RT];refine jh (uC hG rfl (by simp[fNames]) (by simp) (by simp) (dG hG.nm hG.gl (.var rt) (y:=sk 0 (cc (KP P) 0)) rfl hs (bU rfl ⟨.str,?_⟩)) (du rfl _ _ _))
 refine jh (Dv (tf hG.nm hG.gl Ji hk d1 hs ?_));k_upd;refine xd hG VX ?_;k_upd;refine xd hG VY ?_;k_upd;refine⟨.of (by simp),?_⟩
 k_upd;refine jh (Dv (tf hG.nm hG.gl Jj hk d2 hs ?_));k_upd;refine⟨.of (by simp),(fun zz m=>nomatch m),?_⟩
 k_upd;refine jh (Dv (tf hG.nm hG.gl RQ hk d3 hs ?_));k_upd;refine jh (Rc (t:=st) hG rfl (by simp[fNames]) (by simp) rfl (fun zz zz=>rfl) ?_)
 generalize hw:gD st.cps.toList [] 0 0 0=w;have hlen:st.cps.toList.length=st.length:=by simp[Str.length]
 have fin:∀ao ar cs b m nt j,rR x O ao ar cs b m nt j→(cs,b,m,nt)=w→cs.length≤2000→
   yk G n env di x dx (execs [.Assign [.Attribute (.Name (G.nm dH) (bj 0 (sk 1 (cc (KP P) 5))).pos) "n" (sk 1 (cc (KP P) 5)).pos] (bH aI (.var jY) (sk 0 (cc (KP P) 5))) (cc (KP P) 5).pos,.Assign [.Attribute (.Name (G.nm dH) (bj 0 (sk 1 (cc (KP P) 6))).pos) "nt" (sk 1 (cc (KP P) 6)).pos] (bH aI (.var Il) (sk 0 (cc (KP P) 6))) (cc (KP P) 6).pos,.Assign [.Attribute (.Name (G.nm dH) (bj 0 (sk 1 (cc (KP P) 7))).pos) "norm" (sk 1 (cc (KP P) 7)).pos] (bH aI mM (sk 0 (cc (KP P) 7))) (cc (KP P) 7).pos,.Assign [.Attribute (.Name (G.nm dH) (bj 0 (sk 1 (cc (KP P) 8))).pos) "is_simple" (sk 1 (cc (KP P) 8)).pos] (bH aI jF (sk 0 (cc (KP P) 8))) (cc (KP P) 8).pos] env) ao ar [("raw",.str st)] Q:=by
  intro ao ar cs b m nt j W vM cj;refine jh (uC hG W.self (by simp[fNames]) (by simp only[List.map_cons,List.map_nil];decide) (by simp) (dG hG.nm hG.gl (.var jY) (y:=sk 0 (cc (KP P) 5)) rfl hs (bU W.n' ⟨.int,?_⟩)) (du rfl _ _ _))
  refine jh (uC hG W.self (by simp[fNames]) (by simp only[List.map_cons,List.map_nil];decide) (by simp) (dG hG.nm hG.gl (.var Il) (y:=sk 0 (cc (KP P) 6)) rfl hs (bU W.V1 ⟨.int,?_⟩)) (du rfl _ _ _))
  have w1:=W.ml;have w7:=W.c;have w8:=W.b';refine jh (uC hG W.self (by simp[fNames]) (by simp only[List.map_cons,List.map_nil];decide) (by simp) (dG hG.nm hG.gl mM l7 hs ?_) (du rfl _ _ _))
  unfold mM;k_upd;refine EG w1 (by simp;rw[sizeLine_eq];exact ag 1 0 (aa (ae ab (nk 2000)) (ae ab bq)) (by kd_p) cj) ?_
  k_upd;refine⟨.of (by simp),.tuple,?_⟩
  refine jh (uC hG W.self (by simp[fNames]) (by simp only[List.map_cons,List.map_nil];decide) (by simp) (dG hG.nm hG.gl jF l8 hs ?_) (du rfl _ _ _))
  unfold jF;k_upd;refine fj w1 (cp.of (by simp;exact GO cj)).ok ?_
  k_upd;refine⟨.bool,Rb ?_⟩;rw[List.length_map];exact q ao ar cs b m nt (hw▸vM) W.tk
 refine dA (fun i ao ar=>∃cs b m nt j,rR x O ao ar cs b m nt j∧gD (st.cps.toList.drop i) cs b m nt=w∧b≤i∧cs.length≤i+1) (fun i v ao ar k hv hJ jL kI vT=>?_) (fun ao ar hJ=>?_)
  ⟨[],0,0,0,O.length,⟨by simp,Nat.le_refl _,by simp,rfl,rfl,rfl,rfl,rfl,rfl,rfl⟩,hw,Nat.le_refl _,by simp⟩
 ·refine tE hJ ?_;clear hJ;intro cs b m nt j W b7 hb cj
  have hi:i<st.cps.toList.length:=by have:=(List.getElem?_eq_some_iff.mp hv).1;simpa using this
  have hve:v=.str ⟨#[st.cps.toList[i]]⟩:=by
   rw[List.getElem?_map,List.getElem?_eq_getElem hi]at hv;simpa using hv.symm
  subst hve;rw[List.drop_eq_getElem_cons hi,o7]at b7;generalize st.cps.toList[i]=c at b7;refine x9 hG.nm hG.gl (.name fq) (y:=sk 0 (cc (KP P) 4)) f3 hs (gx ?_);refine eP hG.nm hG.gl kY hk f4 hs ?_;refine BV W (by exact ag 4 0 (aa (ae au d4) (aa (ax af au) (aa (ae aM ab) (aa (ak ab af) (ae aM bw))))) (by kd_p) fZ hlen hb hi) (by exact NH fZ hlen cj hi) (fun h a9 W'=>?_) (fun h h' a9 aA j1 W'=>?_) (fun h h' a9 W'=>?_)
  ·rw[if_pos h]at b7
   exact jL _ _ ⟨cs,b+1,m+1,nt,j,W',b7,by exact Gx hb,by exact za cj⟩
  ·rw[if_neg h,if_pos h']at b7
   refine jL _ _ ⟨_,0,m+1,nt+1,j1,W',b7,by exact Nat.zero_le _,?_⟩
   rw[List.length_set];split
   ·simp;exact NG hb (by assumption)
   ·exact za cj
  ·rw[if_neg h,if_neg h']at b7
   exact kI _ _ (fin _ _ cs b m nt j W' b7 (by exact NH fZ hlen cj hi))
 ·refine tE hJ ?_;clear hJ;intro cs b m nt j W b7 hb cj
  rw[List.length_map]at b7 hb cj;rw[List.drop_length]at b7;exact fin _ _ cs b m nt j W b7 (by exact ag 3 0 (aa (ae af d4) (aa (ax ab af) (aa (ae au (aj ab aC)) (ae au (nk 2000))))) (by kd_p) fZ hlen cj)
theorem Fq(P:Params):makesIn (KP P) 173=true:=by kd_p
theorem Jm(P:Params):findIn (KP P) (.ref 173) "__init__"=some (some (.ref 128)):=by kd_p
theorem RU(P:Params):typeIn (KP P) (.ref 128)=some (.type "function"):=by kd_p
theorem Md(P:Params):vL (KP P) 128=true:=by kd_p
theorem Jn(P:Params)(y z:Value):∀S,peek (KP P) S (bindArgs (ba (KP P) 128) ⟨[y,z],[]⟩)=some [(aI dH,y),(aI rt,z)]:=fun S=>by kd_p
theorem RV(P:Params):[dH,rt].all (jW aI (ba (KP P) 128).scope di)=true:=by kd_p
theorem Fs{n:Nat}{A:Around}(hA:bY (n+1) A)(C:Addr)(rest:List Value):bY n (A.under (.builtin "type.__call__" ⟨.ref C::rest,[]⟩)):=by
 refine⟨hA.handled,?_,?_,?_⟩
 ·have:=hA.depth
  show A.depth+Code.weight (.builtin "type.__call__" ⟨.ref C::rest,[]⟩)+n≤900;have:Code.weight (.builtin "type.__call__" ⟨.ref C::rest,[]⟩)=1:=rfl;exact ag 3 0 (aa (ae (aj au (aj ab aC)) d4) (aa (ax af aC) (ae (aj (aj au af) ab) d4))) (by kd_p) (by assumption) this
 ·have:=hA.units
  show A.units+Code.cUnits (.builtin "type.__call__" ⟨.ref C::rest,[]⟩)+16*n≤9000;have:Code.cUnits (.builtin "type.__call__" ⟨.ref C::rest,[]⟩)≤4:=Nat.le_of_ble_eq_true rfl;exact ag 3 0 (aa (ae (aj au (cZ 16 (aj ab aC))) c9) (aa (ae af (nk 4)) (ae (aj (aj au af) (cZ 16 ab)) c9))) (by kd_p) (by assumption) this
 ·show pushGuards (Code.guards (.builtin "type.__call__" ⟨.ref C::rest,[]⟩)) A.guards=some []
  rw[hA.guards];rfl
theorem uT(hG:bx G){n:Nat}{O:Mu}{Q:V→Mu→Prop}{st:Str}(fZ:st.length≤900)(q:Q (.obj (Aa st)) O):aU G (n+3) (.ref 173) [.str st] [] O Q:=by
 intro A hA B Z s xs ks I rv rk;refine aB.aO rv ?_;intro y _ r1 r;refine aB.bE r ?_;refine aB.bE rk ?_;refine VR.fQ r1 ?_;intro _;rename_i t;obtain⟨P,hP⟩:=hG.K;have X:(KP P).In s.heap:=hP▸I.jV;obtain⟨h,g,d,tk,os⟩:=s;refine wpAny_call (make_core (init:=.ref 128) (kw:=[]) (makes_of X (Fq P)) (looks_findIn X (Jm P)) (fun self=>bind_fn X self (RU P)) (.inl rfl) ?_);have LX:bY (n+2) (A.under (.builtin "type.__call__" ⟨[.ref 173,.str st t],[]⟩)):=Fs hA 173 [.str st t];have k0:∀b o,h.get? b=some o→((h.push emptyDict).push (instObj 173 h.objs.size)).get? b=some o:=fun b o e=>Heap.get?_push_of_some _ (Heap.get?_push_of_some _ e);have ex:((h.push emptyDict).push (instObj 173 h.objs.size)).get? (h.objs.size+1)=some (instObj 173 h.objs.size):=by
  have:=Heap.get?_push_size (h.push emptyDict) (o:=instObj 173 h.objs.size) rfl;rw[Heap.size_push]at this;exact this
 have ed:((h.push emptyDict).push (instObj 173 h.objs.size)).get? h.objs.size=some (dictOf [] 0):=Heap.get?_push_of_some _ (Heap.get?_push_size _ rfl);generalize hH:(h.push emptyDict).push (instObj 173 h.objs.size)=H at k0 ex ed;generalize Wa:h.objs.size=dx at ex ed hH;have Jo:h.get? dx=none:=by rw[←Wa];exact cx h
 have nx:h.get? (dx+1)=none:=by rw[←Wa];exact fA (Nat.le_succ _)
 have Ih:Inv G B Z O h:=I;have I1:Inv G B Z O H:=Ih.keeps k0;have I2:Inv G (B.add (dx+1) (instObj 173 dx)) Z O H:=I1.adopt ⟨Ih.eZ nx,Ih.fJ nx,Ih.i5 nx⟩ ex;have leB:ay.le B (B.add (dx+1) (instObj 173 dx)):=ay.iA (Ih.eZ nx);have Wb:(B.add (dx+1) (instObj 173 dx)) dx=none:=by unfold ay.add;rw[if_neg (Nat.ne_of_lt (Nat.lt_succ_self dx))];exact Ih.eZ Jo
 have X1:(KP P).In H:=hP▸I2.jV;have hf:=Md P;unfold vL at hf;split at hf
 ·rename_i oc od fd osl e
  have lH:ba (KP P) 128=fd:=by unfold ba;rw[e]
  simp only[Bool.and_eq_true,Bool.not_eq_true']at hf;obtain⟨⟨⟨⟨⟨⟨⟨f1,f2⟩,f3⟩,f4⟩,f5⟩,f6⟩,f7⟩,f8⟩:=hf;have ft:fd.body=.stmts (dy fd.body):=by
   cases q:fd.body<;>first|rfl|(rw[q]at f1;cases f1)
  have hk:fd.scope.kind=.function:=eq_of_beq f8;have hb:=Jn P (.ref (dx+1)) (.str st t);rw[lH]at hb;refine codeAny_call_function (s:=⟨H,g,d,tk,os⟩) LX.room (X1 _ _ e) rfl f6 f7 ft (codeRec_of X1 f2) (kp_binds (s:=⟨H,g,d,tk,os⟩) X1 hb _ _ _ _ ?_);rw[List.isEmpty_iff.mp f3,eq_of_beq f4,eq_of_beq f5];refine dr ?_;have k1:=bN H {cls:=.type "frame",data:=.dict #[]};have k2:=pushCells_keeps fd.scope.names (H.push {cls:=.type "frame",data:=.dict #[]});have k:∀b o,H.get? b=some o→(pushCells (H.push {cls:=.type "frame",data:=.dict #[]}) fd.scope.names).get? b=some o:=fun b o e=>k2 b o (k1 b o e);have F:=bt.fresh (scope:=fd.scope) (cl:=[]) (fo:={cls:=.type "frame",data:=.dict #[]})
   (env:=newEnv fd.scope H.objs.size mainGlobals (cellsFrom (H.objs.size+1) fd.scope.names []) (fd.qualname++".<locals>.") (some 128) fd.code none builtinsNs) I2 ⟨_,rfl⟩ ⟨(fun _ _ m=>nomatch m),.nil⟩ (fun _ _=>trivial) rfl rfl rfl hk rfl rfl
  have sG:=RV P;rw[lH]at sG;have Wc:∀p∈[(dH,V.raw (.ref (dx+1))),(rt,.str st)],nV G (newEnv fd.scope H.objs.size mainGlobals (cellsFrom (H.objs.size+1) fd.scope.names []) (fd.qualname++".<locals>.") (some 128) fd.code none builtinsNs) di p.1:=fun p hp=>by
   refine fB (G:=G) rfl hG.nm (List.all_eq_true.mp sG p.1 ?_);simp only[List.mem_cons,List.not_mem_nil,or_false]at hp;rcases hp with rfl|rfl<;>simp
  have kI:gb (G:=G) (B.add (dx+1) (instObj 173 dx)) Z [(aI dH,.ref (dx+1)),(aI rt,.str st t)] [(dH,V.raw (.ref (dx+1))),(rt,.str st)]:=by
   rw[←hG.nm,←hG.nm];exact .cons .raw (.cons .str .nil)
  refine jq (s:={(⟨H,g,d,tk,os⟩:Shared) with heap:=_}) kI Wc (I2.keeps k) F ?_
  intro bf Fg F1 P1;refine⟨P1.inv.noLimit,codeAny_func ?_⟩;have Wd:∀ {a o},H.get? a=some o→a<H.objs.size:=fun e=>Heap.lt_size e;have We:∀a∈fa G (newEnv fd.scope H.objs.size mainGlobals (cellsFrom (H.objs.size+1) fd.scope.names []) (fd.qualname++".<locals>.") (some 128) fd.code none builtinsNs) di,H.get? a=none:=fun a' m=>by
   rcases ez m with e|⟨n',eA⟩
   ·rw[e];exact cx _
   ·have m':(n',a')∈cellsFrom (H.objs.size+1) fd.scope.names []:=mem_of_lookup eA
    have ok:=cK fd.scope.names (H.push {cls:=.type "frame",data:=.dict #[]}) (H.objs.size+1) [] [] (fun _ _ m=>nomatch m) (fun _ _ m=>nomatch m) .nil (by rw[Heap.size_push];exact Nat.le_refl _)
    rw[Heap.size_push]at ok;rcases ok.1 n' a' m' with z|z
    ·cases z
    ·exact fA (by omega)
  have Wf:∀n' c,(n',c)∈(newEnv fd.scope H.objs.size mainGlobals (cellsFrom (H.objs.size+1) fd.scope.names []) (fd.qualname++".<locals>.") (some 128) fd.code none builtinsNs).cells→c≠dx:=fun n' c m z=>by
   have m':(n',c)∈cellsFrom (H.objs.size+1) fd.scope.names []:=m;have ok:=cK fd.scope.names (H.push {cls:=.type "frame",data:=.dict #[]}) (H.objs.size+1) [] [] (fun _ _ m=>nomatch m) (fun _ _ m=>nomatch m) .nil (by rw[Heap.size_push];exact Nat.le_refl _)
   rw[Heap.size_push]at ok;rcases ok.1 n' c m' with y|y
   ·cases y
   ·have h2:=Wd ed
    have h3:H.objs.size+1≤c:=y.2;rw[z]at h3;exact Nat.lt_irrefl _ (Nat.lt_of_lt_of_le h2 (Nat.le_of_succ_le h3))
  have v7:uB G (newEnv fd.scope H.objs.size mainGlobals (cellsFrom (H.objs.size+1) fd.scope.names []) (fd.qualname++".<locals>.") (some 128) fd.code none builtinsNs) di (B.add (dx+1) (instObj 173 dx)) Z (dx+1) dx:=
   ⟨ay.dc ..,Wb,Ih.fJ Jo,Ih.i5 Jo,(fun m=>by have:=We dx m;rw[ed]at this;exact ff this),(fun z=>Nat.lt_irrefl _ (show H.objs.size<H.objs.size from by have h9:=Wd ed;rw[←show H.objs.size=dx from z]at h9;exact h9)),Wf⟩
  have Wg:bf.get? dx=some (dictOf [] 0):=P1.kept (k _ _ ed) v7.f v7.a v7.t;have ii:kJ (B.add (dx+1) (instObj 173 dx)) Z bf dx []:=⟨[],0,Wg,(fun _ m=>nomatch m),Nat.le_refl _,(fun _ m=>nomatch m),fun _ _=>rfl⟩;have body:=BW hG (n:=n+1) (env:=newEnv fd.scope H.objs.size mainGlobals (cellsFrom (H.objs.size+1) fd.scope.names []) (fd.qualname++".<locals>.") (some 128) fd.code none builtinsNs) (x:=dx+1) (dx:=dx) (O:=O) (st:=st) (P:=P)
   (Q:=fun r ao ar L=>r=.next∧ar.take O.length=O∧∃cs b m nt,(cs,b,m,nt)=gD st.cps.toList [] 0 0 0∧L=iL st cs b m nt) (by rw[lH];rfl) (by rw[lH];exact hk) fZ (fun ao ar cs b m nt hw ht=>⟨rfl,ht,cs,b,m,nt,hw,rfl⟩)
  rw[lH]at body;refine wpAny_mono (body _ (LX.deeper _) _ Z _ P1.inv F1 v7 ii) ?_ fun _ _ x=>x.elim;rintro fl s' ⟨r,ao,ar,L,B',aH,⟨rfl,ht,cs,b,m,nt,hw,rfl⟩,P',F',i',r'⟩;cases r';have P:=(P1.more (k _ _ ed) v7.f v7.a v7.t).trans P';have len:Z.length=O.length:=I.len;have hWn:∀a∈dx::fa G (newEnv fd.scope H.objs.size mainGlobals (cellsFrom (H.objs.size+1) fd.scope.names []) (fd.qualname++".<locals>.") (some 128) fd.code none builtinsNs) di,h.get? a=none:=fun a m=>by
   rcases List.mem_cons.mp m with rfl|m
   ·exact Jo
   ·have:=We a m
    cases z:h.get? a with
    |none=>rfl
    |some o=>rw[k0 a o z]at this;exact ff this
  have out:=aG.outside (s:=⟨h,g,d,tk,os⟩) I.ey.1 (fun b o eb=>k b o (k0 b o eb)) .heap P hWn;rw[len,ht]at out;refine mw i'.ex ?_;intro es kk e2 hsk hl h1 h2;have bx':B' (dx+1)=some (instObj 173 dx):=P.le _ _ (ay.dc ..);have Wh:B' dx=none:=P.eZ (k _ _ ed) Wb v7.a;have I3:Inv G (B'.add dx (dictOf es kk)) Z O s'.heap:=out.inv.adopt ⟨Wh,v7.a,v7.t⟩ e2;have Ft:ay.le B' (B'.add dx (dictOf es kk)):=ay.iA Wh;refine gJ (h1 ("raw",.str st) (by simp[iL])) ?_;intro u0 a0 v0 c0
  refine gJ (h1 ("n",.int m) (by simp[iL])) ?_;intro u1 a1 v1 c1
  refine gJ (h1 ("nt",.int nt) (by simp[iL])) ?_;intro u2 a2 v2 c2
  refine gJ (h1 ("norm",.tuple [.tuple (cs.map .int),.int b]) (by simp[iL])) ?_;intro u3 a3 v3 c3
  refine gJ (h1 ("is_simple",.bool (decide ((cs.length:Int)≤1))) (by simp[iL])) ?_;intro u4 a4 v4 c4
  have clt:Cl (.tuple [.tuple (cs.map .int),.int b]):=.tuple fun x m=>by
   simp only[List.mem_cons,List.not_mem_nil,or_false]at m;rcases m with rfl|rfl
   ·exact .tuple fun y hy=>by refine aW (List.mem_map.mp hy) ?_;intro i _ z1;subst z1;exact .int
   ·exact .int
  have hwF:Aa st=[.str st,.int m,.int nt,.tuple [.tuple (cs.map .int),.int b],.bool (decide ((cs.length:Int)≤1))]:=by unfold Aa;rw[←hw]
  have vr:VR (B'.add dx (dictOf es kk)) Z (.obj (Aa st)) (.ref (dx+1)):=by
   rw[hwF];have ne:dx+1≠dx:=Nat.succ_ne_self dx;have fx:(B'.add dx (dictOf es kk)) (dx+1)=some (instObj 173 dx):=by unfold ay.add;rw[if_neg ne];exact bx'
   have all:aB (B'.add dx (dictOf es kk)) Z [.str st,.int m,.int nt,.tuple [.tuple (cs.map .int),.int b],.bool (decide ((cs.length:Int)≤1))] [u0,u1,u2,u3,u4]:=
    .cons ((v0.mono Ft (List.prefix_refl _)).clean .str Z) (.cons ((v1.mono Ft (List.prefix_refl _)).clean .int Z) (.cons ((v2.mono Ft (List.prefix_refl _)).clean .int Z) (.cons ((v3.mono Ft (List.prefix_refl _)).clean clt Z) (.cons ((v4.mono Ft (List.prefix_refl _)).clean .bool Z) .nil))))
   refine .obj (es:=es) (vs:=[u0,u1,u2,u3,u4]) fx (ay.dc ..) ⟨fun i nm hi=>?_,fun nm hm=>h2 nm ?_⟩ rfl all.2
   ·match i,hi with
    |0,hi=>cases hi;exact⟨u0,rfl,a0,c0⟩
    |1,hi=>cases hi;exact⟨u1,rfl,a1,c1⟩
    |2,hi=>cases hi;exact⟨u2,rfl,a2,c2⟩
    |3,hi=>cases hi;exact⟨u3,rfl,a3,c3⟩
    |4,hi=>cases hi;exact⟨u4,rfl,a4,c4⟩
    |i+5,hi=>cases hi
   ·simp only[iL,List.map_cons,List.map_nil]
    simp only[sZ,List.mem_cons,List.not_mem_nil,or_false]at hm;rcases hm with rfl|rfl|rfl<;>decide
  have Wi:aG G [] B Z ⟨h,g,d,tk,os⟩ (B'.add dx (dictOf es kk)) Z O s':=⟨(leB.trans out.le).trans Ft,List.prefix_refl _,I3,out.keep,out.bL,out.rest,fun a ha=>by
   by_cases z:a=dx
   ·subst z;exact .inr (.inr Jo)
   ·have BD:B' a≠none:=by unfold ay.add at ha;rw[if_neg z]at ha;exact ha
    rcases out.dF a BD with y|y
    ·by_cases z2:a=dx+1
     ·subst z2;exact .inr (.inr nx)
     ·exact .inl (by unfold ay.add at y;rw[if_neg z2]at y;exact y)
    ·exact .inr y,out.da⟩
  exact⟨rfl,.obj (Aa st),O,_,Z,q,Wi,vr⟩
 ·exact iO hf
structure mW where
 raw:Str
 n:Int
 nt:Int
 cs:List Int
 b:Int
 s:Bool
noncomputable def mW.v(w:mW):List V:=[.str w.raw,.int w.n,.int w.nt,.tuple [.tuple (w.cs.map .int),.int w.b],.bool w.s]
structure mW.Ok(w:mW):Prop where
 cl:w.cs.length≤950
 c0:∀c∈w.cs,0≤c∧c≤1000
 b0:0≤w.b∧w.b≤950
 nt0:0≤w.nt∧w.nt≤1000
noncomputable def mW.long(w:mW):Int:=max ((w.cs.length:Int)-1) w.b
noncomputable def mX(cs:List Int)(ts:Nat):Nat→Int
 |0=>0
 |k+1=>mX cs ts k+(((ts+k)/ts:Nat):Int)*cs.getD (ts+k) 0
noncomputable def mW.ind(w:mW)(ts:Nat):Int:=w.b+ts*(mX w.cs ts (w.cs.length-ts)+w.nt)
theorem rT{cs:List Int}{ts:Nat}(Wj:1≤ts)(h:∀c∈cs,0≤c∧c≤1000):∀k,ts+k≤1001→0≤mX cs ts k∧mX cs ts k≤k*1001000
 |0,_=>⟨Int.le_refl _,by simp[mX]⟩
 |k+1,hk=>by
  obtain⟨i1,i2⟩:=rT Wj h k (by exact NI hk)
  have h1:(ts+k)/ts≤1001:=Nat.le_trans (Nat.div_le_self _ _) (by exact NI hk)
  have h2:0≤cs.getD (ts+k) 0∧cs.getD (ts+k) 0≤1000:=by
   rw[List.getD_eq_getElem?_getD];cases q:cs[ts+k]? with
   |none=>simp
   |some c=>exact h c (List.mem_of_getElem? q)
  have h3:(((ts+k)/ts:Nat):Int)*cs.getD (ts+k) 0≤1001*1000:=Int.mul_le_mul (by exact_mod_cast h1) h2.2 h2.1 (by decide)
  have h4:0≤(((ts+k)/ts:Nat):Int)*cs.getD (ts+k) 0:=Int.mul_nonneg (Int.natCast_nonneg _) h2.1;unfold mX;generalize (((ts+k)/ts:Nat):Int)*cs.getD (ts+k) 0=z at h3 h4;constructor
  ·exact ag 2 2 (aa (ae aC af) (aa (ae (aj af (aj ab aC)) (nk 1001)) (aa (ai aJ aN) (aa (ai aN (Pr (az ab) 1001000)) (aa (ai aq (xG 1001 (zk 1000))) (aa (ai aJ aq) (ai aJ (bh aN aq)))))))) (by kd_p) Wj hk i1 i2 h3 h4
  ·have:(((k+1:Nat)):Int)*1001000=k*1001000+1001000:=by rw[Int.natCast_add,Int.add_mul];rfl
   exact ag 1 2 (aa (ai aN (Pr (az ab) 1001000)) (aa (ai aq (xG 1001 (zk 1000))) (aa (ai aJ aq) (ai (bh aN aq) (Pr (az (aj ab aC)) 1001000))))) (by kd_p) i2 h3 h4
theorem rU(hG:bx G){n:Nat}{O:Mu}{Q:V→Mu→Prop}{w:mW}(hw:w.Ok)(q:Q (.int w.long) O):aU G (n+1) (.ref 135) [.obj w.v] [] O Q:=by
 refine fN hG (st:=fR) (own:=kG) [(dH,.obj w.v)] (fun P ys ks B Z r rk=>?_) ?_
 ·refine aB.aO r ?_;intro y zz r1 r
  refine aB.bE r ?_;refine aB.bE rk ?_;exact⟨[y],.cons r1 .nil,fun S=>by kd_p⟩
 ·unfold fR
  k_upd;refine fF hG 3 rfl rfl ?_;k_upd;have:=hw.cl;refine n8 (cp.of (by simp;exact GP this)).ok ?_
  k_upd;refine zD ?_;refine⟨.int,?_⟩;rw[List.take_length,List.length_map];exact q
theorem uU(hG:bx G){n:Nat}{O:Mu}{Q:V→Mu→Prop}{w:mW}{ts:Nat}(hw:w.Ok)(h1:1≤ts)(h2:ts≤1000)(q:Q (.int (w.ind ts)) O):aU G (n+1) (.ref 142) [.obj w.v,.int ts] [] O Q:=by
 refine fN hG (st:=l5) (own:=sC) [(dH,.obj w.v),(Bl,.int ts)] (fun P ys ks B Z r rk=>?_) ?_
 ·refine aB.aO r ?_;intro y zz r1 r
  refine aB.aO r ?_;intro z zz r2 r;refine aB.bE r ?_;refine aB.bE rk ?_;exact⟨[y,z],.cons r1 (.cons r2 .nil),fun S=>by kd_p⟩
 ·have cj:=hw.cl
  unfold l5;k_upd;refine fF hG 3 rfl rfl ?_;k_upd;try refine gN ?_
  k_upd;refine n8 (cp.of (by simp;exact GP cj)).ok ?_
  k_upd;rw[List.length_map];refine oG ?_;refine⟨_,Iter.gE (eN (by exact ag 1 0 (aa (ae aC ab) (aa (ae ab bw) (ai (zk (-1000000)) (az ab)))) (by kd_p) h1 h2) (by exact ag 1 0 (aa (ae aC ab) (aa (ae ab bw) (ai (az ab) (zk 1000000)))) (by kd_p) h1 h2) (by exact ag 1 0 (aa (ae ab (nk 950)) (ai (zk (-1000000)) (az ab))) (by kd_p) cj) (by exact ag 1 0 (aa (ae ab (nk 950)) (ai (az ab) (zk 1000000))) (by kd_p) cj)),?_⟩
  refine dA (fun i ao ar=>ar=O∧get ao 55=some (.int (mX w.cs ts i))∧get ao 54=some (.int ts)∧get ao 48=some (.tuple (w.cs.map .int))∧get ao 53=some (.int w.b)∧get ao 45=some (.obj w.v)) (fun i x ao ar k hx hJ jL kI vT=>?_) (fun ao ar hJ=>?_) ⟨rfl,rfl,rfl,rfl,rfl,rfl⟩
  ·refine sX hJ ?_;clear hJ;intro z1;subst z1;intro RW Wl Wm Wn Jp
   have hi:i<(cJ (ts:Int) (w.cs.length:Int)).length:=(List.getElem?_eq_some_iff.mp hx).1;have hlen:(cJ (ts:Int) (w.cs.length:Int)).length=w.cs.length-ts:=by simp[cJ]<;>omega
   have yx:x=.int ((ts+i:Nat):Int):=by
    unfold cJ at hx;rw[List.getElem?_map]at hx;rw[List.getElem?_range (by unfold cJ at hi;simpa using hi)]at hx
    simp at hx;rw[←hx];simp
   subst yx;rw[hlen]at hi;have k56:get (set ao 56 (.int ((ts+i:Nat):Int))) 56=some (.int ((ts+i:Nat):Int)):=gs;have k55:get (set ao 56 (.int ((ts+i:Nat):Int))) 55=some (.int (mX w.cs ts i)):=gn RW;have k54:get (set ao 56 (.int ((ts+i:Nat):Int))) 54=some (.int ts):=gn Wl;have k48:get (set ao 56 (.int ((ts+i:Nat):Int))) 48=some (.tuple (w.cs.map .int)):=gn Wm;have k53:get (set ao 56 (.int ((ts+i:Nat):Int))) 53=some (.int w.b):=gn Wn;have Me:get (set ao 56 (.int ((ts+i:Nat):Int))) 45=some (.obj w.v):=gn Jp;first|show aX _ _ _ _ _ _ _|show eh _ _ _ _ _ _ _|skip
   generalize set ao 56 (.int ((ts+i:Nat):Int))=a9 at *;k_upd;have Wo:((ts:Int)).natAbs.log2<9000:=by
    rw[Int.natAbs_natCast];have:=(Nat.log2_lt (by exact ag 1 0 (aa (ae aC ab) (aa (ae ab bw) (Gs ab b6))) (by kd_p) h1 h2:ts≠0)).mpr (show ts<2 ^ 10 by exact ag 1 0 (aa (ae aC ab) (aa (ae ab bw) (ak ab (nk (2 ^ 10))))) (by kd_p) h1 h2)
    exact ag 1 0 (aa (ak ab fe) (ak ab c9)) (by kd_p) this
   refine dR ⟨by exact ag 1 0 (aa (ae aC ab) (aa (ae ab bw) (fI (az ab) aJ))) (by kd_p) h1 h2,Wo⟩ ?_
   rw[show((ts+i:Nat):Int).fdiv (ts:Int)=(((ts+i)/ts:Nat):Int) by rw[Int.fdiv_eq_ediv_of_nonneg _ (by exact Int.natCast_nonneg _)];simp]
   k_upd;have hv:(w.cs.map V.int)[((ts+i:Nat):Int).toNat]?=some (.int (w.cs.getD (ts+i) 0)):=by
    rw[Int.toNat_natCast];have:ts+i<w.cs.length:=by exact ag 4 0 (aa (ak au (bb af aM)) (aa (ax ab (bb af aM)) (ak (aj aM au) af))) (by kd_p) hi hlen
    simp[this]
   refine jz hv (by exact Int.natCast_nonneg _) (.of (by simp;exact GP cj)) ?_
   have hd:(ts+i)/ts≤1001:=Nat.le_trans (Nat.div_le_self _ _) (by exact ag 4 0 (aa (ae af (nk 950)) (aa (ak au (bb af aM)) (aa (ax ab (bb af aM)) (ae (aj aM au) (nk 1001))))) (by kd_p) cj hi hlen)
   have Jq:0≤w.cs.getD (ts+i) 0∧w.cs.getD (ts+i) 0≤1000:=by
    rw[List.getD_eq_getElem?_getD];cases q:w.cs[ts+i]? with
    |none=>simp
    |some c=>exact hw.c0 c (List.mem_of_getElem? q)
   refine gh (gZ.sz (j:=10) (k:=10) (kK (m:=1002) (Int.lt_of_lt_of_le (by decide) (Int.natCast_nonneg _)) (by exact_mod_cast Nat.lt_succ_of_le hd) (by decide)) (kK (m:=1001) (by exact ag 0 1 (aa (aT (ai aJ aq) (ai aq (zk 1000))) (aK (cI (az (nk 1001))) aq)) (by kd_p) Jq) (by exact ag 0 1 (aa (aT (ai aJ aq) (ai aq (zk 1000))) (aK aq (az (nk 1001)))) (by kd_p) Jq) (by decide)) (by decide)) ?_
   k_upd;exact jL _ _ ⟨rfl,gs,gn k54,gn k48,gn k53,gn Me⟩
  ·refine sX hJ ?_;clear hJ;intro z1;subst z1;intro RW Wl Wm Wn Jp
   have hlen:(cJ (ts:Int) (w.cs.length:Int)).length=w.cs.length-ts:=by simp[cJ]<;>omega
   rw[hlen]at RW;k_upd;refine fF hG 2 rfl rfl ?_;k_upd;have Wq:=hw.nt0;obtain⟨b1,b2⟩:0≤mX w.cs ts (w.cs.length-ts)∧mX w.cs ts (w.cs.length-ts)≤1001*1001000:=by
    by_cases hle:ts≤w.cs.length
    ·obtain⟨a,b⟩:=rT h1 hw.c0 (w.cs.length-ts) (by exact ag 2 0 (aa (ae ab (nk 950)) (aa (ae af ab) (ae (aj af (bb ab af)) (nk 1001)))) (by kd_p) cj hle)
     refine⟨a,Int.le_trans b (Int.mul_le_mul_of_nonneg_right (by exact ag 2 0 (aa (ae aC ab) (aa (ae ab bw) (aa (ae af (nk 950)) (aa (ae ab af) (ai (az (bb af ab)) (zk 1001)))))) (by kd_p) h1 h2 cj hle) (by decide))⟩
    ·rw[show w.cs.length-ts=0 by exact ag 3 0 (aa (ax ab (bb au af)) (aa (dJ (ae af au)) (ax (bb au af) b6))) (by kd_p) hlen hle];exact⟨Int.le_refl _,by simp[mX]⟩
   refine gh (gZ.sz (j:=10) (k:=40) (kK (m:=1001) (by exact ag 1 0 (aa (ae aC ab) (aa (ae ab bw) (aK (cI (az (nk 1001))) (az ab)))) (by kd_p) h1 h2) (by exact ag 1 0 (aa (ae aC ab) (aa (ae ab bw) (aK (az ab) (az (nk 1001))))) (by kd_p) h1 h2) (by decide)) (kK (m:=1099511627776) (by exact ag 0 2 (aa (aT (ai aJ aq) (ai aq (zk 1000))) (aa (ai aJ aN) (aa (ai aN (xG 1001 (zk 1001000))) (aK (cI (az (nk 1099511627776))) (bh aN aq))))) (by kd_p) Wq b1 b2) (by exact ag 0 2 (aa (aT (ai aJ aq) (ai aq (zk 1000))) (aa (ai aJ aN) (aa (ai aN (xG 1001 (zk 1001000))) (aK (bh aN aq) (az (nk 1099511627776)))))) (by kd_p) Wq b1 b2) (by decide)) (by decide)) ?_
   k_upd;refine⟨.int,?_⟩;rw[List.take_length];exact q
noncomputable def sN(s:Str):mW:=match gD s.cps.toList [] 0 0 0 with
 |(cs,b,n,nt)=>⟨s,n,nt,cs,b,decide ((cs.length:Int)≤1)⟩
theorem qQ:∀ (l:List Nat) (cs:List Int) (b n nt M:Nat),b≤M→nt≤M→(∀c∈cs,0≤c∧c≤M)→(∀c∈(gD l cs b n nt).1,0≤c∧c≤((M+l.length:Nat):Int))∧(gD l cs b n nt).2.1≤M+l.length∧(gD l cs b n nt).2.2.2≤M+l.length
 |[],cs,b,n,nt,M,h1,h2,h3=>⟨h3,h1,h2⟩
 |c::r,cs,b,n,nt,M,h1,h2,h3=>by
  rw[o7];have e:M+(c::r).length=(M+1)+r.length:=by simp;exact ag 2 0 (ax (aj af (aj ab aC)) (aj (aj af aC) ab)) (by kd_p)
  rw[e]
  by_cases h:c=32
  ·rw[if_pos h]
   exact qQ r cs (b+1) (n+1) nt (M+1) (by exact Gx h1) (by exact AU h2) fun c m=>by have:=h3 c m;exact NJ this
  ·rw[if_neg h]
   by_cases h':c=9
   ·rw[if_pos h']
    simp only[];refine qQ r _ 0 (n+1) (nt+1) (M+1) (by exact Nat.zero_le _) (by exact Gx h2) fun d m=>?_
    have Jr:∀d∈(if cs.length≤b then cs++List.replicate (b-cs.length+1) 0 else cs),0≤d∧d≤(M:Int):=by
     intro d m;split at m
     ·rcases List.mem_append.mp m with m|m
      ·exact h3 d m
      ·rw[List.eq_of_mem_replicate m];exact ag 1 0 (aT (ai aJ aJ) (ai aJ (az ab))) (by kd_p)
     ·exact h3 d m
    generalize (if cs.length≤b then cs++List.replicate (b-cs.length+1) 0 else cs)=ds at m Jr
    have hg:0≤ds.getD b 0∧ds.getD b 0≤(M:Int):=by
     rw[List.getD_eq_getElem?_getD];cases q:ds[b]? with
     |none=>simp
     |some c=>exact Jr c (List.mem_of_getElem? q)
    rcases List.mem_or_eq_of_mem_set m with m|m
    ·have:=Jr d m;exact NJ this
    ·rw[m];exact ag 1 2 (aa (aT (ai aJ aN) (ai aN (az ab))) (aa (aS aq (bh aN bV)) (aT (ai aJ (bh aN bV)) (ai (bh aN bV) (az (aj ab aC)))))) (by kd_p) hg m
   ·rw[if_neg h']
    exact⟨fun d m=>by have:=h3 d m;exact ag 2 1 (aa (aT (ai aJ aq) (ai aq (az af))) (aT (ai aJ aq) (ai aq (az (aj (aj af aC) ab))))) (by kd_p) this,by simp only[];exact NK h1,by simp only[];exact NK h2⟩
theorem DG{s:Str}(h:s.length≤900):(sN s).Ok:=by
 have hl:s.cps.toList.length=s.length:=by simp[Str.length]
 have h1:=mV s.cps.toList [] 0 0 0 0 (Nat.le_refl _) (by simp)
 have h2:=qQ s.cps.toList [] 0 0 0 0 (Nat.le_refl _) (Nat.le_refl _) (fun zz m=>nomatch m);unfold sN;generalize gD s.cps.toList [] 0 0 0=w at h1 h2;obtain⟨cs,b,n,nt⟩:=w;simp only[]at h1 h2;exact⟨by show cs.length≤950;exact ag 4 0 (aa (ae au d4) (aa (ax af au) (aa (aT (ae aM (aj (aj b6 af) aC)) (ae ab (aj b6 af))) (ae aM (nk 950))))) (by kd_p) h hl h1,fun c m=>by have:=h2.1 c m;exact ag 2 1 (aa (ae af d4) (aa (ax ab af) (aa (aT (ai aJ aq) (ai aq (az (aj b6 ab)))) (aT (ai aJ aq) (ai aq (zk 1000)))))) (by kd_p) h hl this,⟨by show(0:Int)≤(b:Int);exact Int.natCast_nonneg _,by show(b:Int)≤950;exact ag 4 0 (aa (ae au d4) (aa (ax af au) (aa (aT (ae ab (aj (aj b6 af) aC)) (ae aM (aj b6 af))) (ai (az aM) (zk 950))))) (by kd_p) h hl h1⟩,⟨by show(0:Int)≤(nt:Int);exact Int.natCast_nonneg _,by show(nt:Int)≤1000;omega⟩⟩
noncomputable def pV(u w:mW):Bool:=if w.n≤u.n then false else if u.s&&w.s then decide (u.nt≤w.nt) else(List.range (max u.long w.long).toNat).all fun j=>decide (u.ind (2+j)<w.ind (2+j))
theorem Js(hG:bx G){n:Nat}{O:Mu}{Q:V→Mu→Prop}{u w:mW}(hu:u.Ok)(hw:w.Ok)(q:Q (.bool (pV u w)) O):aU G (n+2) (.ref 163) [.obj u.v,.obj w.v] [] O Q:=by
 refine fN hG (n:=n+1) (st:=Dp) (own:=Ly) [(dH,.obj u.v),(zG,.obj w.v)] (fun P ys ks B Z r rk=>?_) ?_
 ·refine aB.aO r ?_;intro y zz r1 r
  refine aB.aO r ?_;intro z zz r2 r;refine aB.bE r ?_;refine aB.bE rk ?_;exact⟨[y,z],.cons r1 (.cons r2 .nil),fun S=>by kd_p⟩
 ·have ul:=hu.cl
  have wl:=hw.cl;have ub:=hu.b0;have wb:=hw.b0;unfold Dp;k_upd;refine fF hG 1 rfl rfl ?_;k_upd;refine fF hG 1 rfl rfl ?_;k_upd;unfold pV at q
  by_cases hn:w.n≤u.n
  ·rw[show decide (w.n≤u.n)=true by simpa using hn]
   rw[if_pos hn]at q;k_upd;exact⟨.bool,by rw[List.take_length];exact q⟩
  ·rw[show decide (w.n≤u.n)=false by simpa using hn]
   rw[if_neg hn]at q;k_upd;refine fF hG 4 rfl rfl ?_;have rest:(if(u.s&&w.s)=true then True else aX G bX (n+1) (.cons (.asg (.name 21) (.bin .Add (.call (.glob 52) (.cons (.cA (.var 45) "longest_run_of_spaces" .nil) (.cons (.cA (.var 59) "longest_run_of_spaces" .nil) .nil))) (.int 1))) (.cons (.for 58 (.call (.glob 57) (.cons (.int 2) (.cons (.bin .Add (.var 21) (.int 1)) .nil))) (.cons (.iff (.cmp .GtE (.cA (.var 45) "indent_level" (.cons (.var 58) .nil)) (.cA (.var 59) "indent_level" (.cons (.var 58) .nil))) (.cons (.ret (.bool false)) .nil) .nil) .nil)) (.cons (.ret (.bool true)) .nil)))
     (bc [] [(dH,.obj u.v),(zG,.obj w.v)]) O (qE O Q)):=by
    by_cases RX:(u.s&&w.s)=true
    ·rw[if_pos RX];trivial
    ·rw[if_neg RX]
     rw[if_neg RX]at q;k_upd;refine bB ?_;k_upd;refine⟨_,la hG (p:=(Str.ofString "longest_run_of_spaces",135)) (by simp[lK]),?_⟩
     k_upd;refine rU hG hu ?_;k_upd;refine bB ?_;k_upd;refine⟨_,la hG (p:=(Str.ofString "longest_run_of_spaces",135)) (by simp[lK]),?_⟩
     k_upd;refine rU hG hw ?_;k_upd;refine zD ?_;k_upd;have hM:0≤max u.long w.long∧max u.long w.long≤950:=by unfold mW.long;exact ag 2 2 (aa (ae af (nk 950)) (aa (ae ab (nk 950)) (aa (aT (ai aJ aN) (ai aN (zk 950))) (aa (aT (ai aJ aq) (ai aq (zk 950))) (aT (ai aJ (xF (xF (bR (az af) bV) aN) (xF (bR (az ab) bV) aq))) (ai (xF (xF (bR (az af) bV) aN) (xF (bR (az ab) bV) aq)) (zk 950))))))) (by kd_p) ul wl ub wb
     generalize max u.long w.long=M at hM q;try refine gN ?_
     k_upd;refine oG ?_;refine⟨_,Iter.gE (eN (by decide) (by decide) (by exact ag 0 1 (aa (aT (ai aJ aq) (ai aq (zk 950))) (ai (zk (-1000000)) (bh (bh aq bV) bV))) (by kd_p) hM) (by exact ag 0 1 (aa (aT (ai aJ aq) (ai aq (zk 950))) (ai (bh (bh aq bV) bV) (zk 1000000))) (by kd_p) hM)),?_⟩
     have hlen:(cJ 2 (M+1+1)).length=M.toNat:=by simp[cJ]<;>exact ag 0 1 (aa (aT (ai aJ aq) (ai aq (zk 950))) (ax (dB (bR (bh (bh aq bV) bV) jT)) (dB aq))) (by kd_p) hM
     refine dA (fun i ao ar=>ar=O∧(∀j,j<i→u.ind (2+j)<w.ind (2+j))∧get ao 45=some (.obj u.v)∧get ao 59=some (.obj w.v)) (fun i x ao ar k hx hJ jL kI vT=>?_) (fun ao ar hJ=>?_) ⟨rfl,fun j h=>(nomatch h),rfl,rfl⟩
     ·refine wg hJ ?_;clear hJ;intro z1;subst z1;intro lZ Jp Wr
      have hi:i<(cJ 2 (M+1+1)).length:=(List.getElem?_eq_some_iff.mp hx).1;have yx:x=.int ((2+i:Nat):Int):=by
       unfold cJ at hx;rw[List.getElem?_map,List.getElem?_range (by unfold cJ at hi;simpa using hi)]at hx
       simp at hx;rw[←hx];simp
      subst yx;rw[hlen]at hi;have k58:get (set ao 58 (.int ((2+i:Nat):Int))) 58=some (.int ((2+i:Nat):Int)):=gs;have Me:get (set ao 58 (.int ((2+i:Nat):Int))) 45=some (.obj u.v):=gn Jp;have Ws:get (set ao 58 (.int ((2+i:Nat):Int))) 59=some (.obj w.v):=gn Wr;first|show aX _ _ _ _ _ _ _|show eh _ _ _ _ _ _ _|skip
      generalize set ao 58 (.int ((2+i:Nat):Int))=a9 at *;k_upd;refine bB (bU Me ?_);refine⟨_,la hG (p:=(Str.ofString "indent_level",142)) (by simp[lK]),?_⟩
      k_upd;refine uU hG hu (by exact NL) (by exact NM hM hi) ?_
      k_upd;refine bB (bU Ws ?_);refine⟨_,la hG (p:=(Str.ofString "indent_level",142)) (by simp[lK]),?_⟩
      k_upd;refine uU hG hw (by exact NL) (by exact NM hM hi) ?_
      k_upd
      by_cases bA:w.ind (2+i)≤u.ind (2+i)
      ·rw[show decide (w.ind (2+i)≤u.ind (2+i))=true by simpa using bA]
       k_upd;refine vT _ _ _ ⟨.bool,?_⟩;rw[List.take_length];have:((List.range M.toNat).all fun j=>decide (u.ind (2+j)<w.ind (2+j)))=false:=by
        rw[List.all_eq_false];exact⟨i,List.mem_range.mpr hi,by simp;omega⟩
       rw[this]at q;exact q
      ·rw[show decide (w.ind (2+i)≤u.ind (2+i))=false by simpa using bA]
       k_upd;refine jL _ _ ⟨rfl,fun j hj=>?_,Me,Ws⟩;rcases Nat.lt_succ_iff_lt_or_eq.mp hj with h|rfl
       ·exact lZ j h
       ·exact ag 0 2 (aa (dJ (ai aq aN)) (aK aN aq)) (by kd_p) bA
     ·refine wg hJ ?_;clear hJ;intro z1;subst z1;intro lZ Jp Wr
      rw[hlen]at lZ;k_upd;refine⟨.bool,?_⟩;rw[List.take_length];have:((List.range M.toNat).all fun j=>decide (u.ind (2+j)<w.ind (2+j)))=true:=by
       rw[List.all_eq_true];intro j hj;simpa using lZ j (List.mem_range.mp hj)
      rw[this]at q;exact q
   cases RY:u.s with
   |false=>
    rw[RY]at rest;simp only[Bool.false_and,Bool.false_eq_true,if_false]at rest;refine iB (eG rest)
   |true=>
    refine iB ?_;k_upd;refine fF hG 4 rfl rfl ?_;cases lS:w.s with
    |false=>
     rw[RY,lS]at rest;simp only[Bool.and_false,Bool.false_eq_true,if_false]at rest;refine iB (eG rest)
    |true=>
     rw[RY,lS]at q;simp only[Bool.and_self,if_true]at q;refine iB ?_;k_upd;refine fF hG 2 rfl rfl ?_;k_upd;refine fF hG 2 rfl rfl ?_;k_upd;exact⟨.bool,by rw[List.take_length];exact q⟩
noncomputable def i4(low l:Int):Str:=Txt.mul (Str.ofString " ") (low+l)++Str.ofString "\t"
noncomputable def gQ(col:List Int)(low blanks:Int):Str:=Txt.join (Str.ofString "") (col.map (i4 low))++Txt.mul (Str.ofString " ") blanks++Str.ofString "x\t "
theorem BX{low l:Int}(h1:0≤low∧low≤10)(h2:0≤l∧l≤10):(i4 low l).length≤21:=by
 unfold i4;rw[strLen_append];have:(Txt.mul (Str.ofString " ") (low+l)).length=(low+l).toNat:=lg 32 (low+l);rw[this];have:(Str.ofString "\t").length=1:=rfl;exact ag 1 2 (aa (aT (ai aJ aN) (ai aN (zk 10))) (aa (aT (ai aJ aq) (ai aq (zk 10))) (aa (ax ab aC) (ae (aj (dB (bh aN aq)) ab) (nk 21))))) (by kd_p) h1 h2 this
theorem Mf(s:Str):Cl (.obj (Aa s)):=by
 refine .obj fun x m=>?_;unfold Aa at m;generalize gD s.cps.toList [] 0 0 0=w at m;obtain⟨cs,b,n,nt⟩:=w;simp only[List.mem_cons,List.not_mem_nil,or_false]at m;rcases m with rfl|rfl|rfl|rfl|rfl
 ·exact .str
 ·exact .int
 ·exact .int
 ·refine .tuple fun y hy=>?_
  simp only[List.mem_cons,List.not_mem_nil,or_false]at hy;rcases hy with rfl|rfl
  ·exact .tuple fun z hz=>by refine aW (List.mem_map.mp hz) ?_;intro i zz z1;subst z1;exact .int
  ·exact .int
 ·exact .bool
theorem pW(hG:bx G){n:Nat}{O:Mu}{Q:V→Mu→Prop}{col:List Int}{low blanks:Int}(uV:0≤low∧low≤10)(nY:0≤blanks∧blanks≤20)(hc:∀l∈col,0≤l∧l≤10)(cj:col.length≤10)(qP:(Txt.join (Str.ofString "") (col.map (i4 low))).length≤300)
  (q:Q (.obj (Aa (gQ col low blanks))) O):aU G (n+4) (.ref 196) [.list (col.map .int),.int low,.int blanks] [] O Q:=by
 refine fN hG (n:=n+3) (st:=rz) (own:=zH) [(EI,.list (col.map .int)),(QO,.int low),(EJ,.int blanks)] (fun P ys ks B Z r rk=>?_) ?_
 ·refine aB.aO r ?_;intro y zz r1 r
  refine aB.aO r ?_;intro z zz r2 r;refine aB.aO r ?_;intro u zz r3 r;refine aB.bE r ?_;refine aB.bE rk ?_;exact⟨[y,z,u],.cons r1 (.cons r2 (.cons r3 .nil)),fun S=>by kd_p⟩
 ·unfold rz
  k_upd;refine bB ?_;k_upd;refine⟨_,oH,?_⟩;k_upd;refine dE ?_;k_upd;refine⟨_,Iter.list,?_⟩
  let g:V→List V:=fun v=>match v with | .int l=>[.str (i4 low l)]|_=>[]
  refine kl (J:=fun ao=>get ao 70=some (.int low)) (M:=col.length) g (fun x=>by cases x<;>simp[g]) (fun x hx ao acc K hJ hM hK=>?_) rfl (by simp) (fun ao hJ=>?_)
  ·refine aW (List.mem_map.mp hx) ?_;intro l hl z1;subst z1
   have RZ:=hc l hl;have k71:get (set ao 71 (.int l)) 71=some (.int l):=gs;have k70:get (set ao 71 (.int l)) 70=some (.int low):=gn hJ;first|show aX _ _ _ _ _ _ _|show eh _ _ _ _ _ _ _|skip
   generalize set ao 71 (.int l)=a9 at *;refine cR ?_;k_upd;refine tc (tX.small (by decide) (by exact ag 0 2 (aa (aT (ai aJ aN) (ai aN (zk 10))) (aa (aT (ai aJ aq) (ai aq (zk 10))) (ai (zk (-1000)) (bh aN aq)))) (by kd_p) uV RZ) (by exact ag 0 2 (aa (aT (ai aJ aN) (ai aN (zk 10))) (aa (aT (ai aJ aq) (ai aq (zk 10))) (ai (bh aN aq) (zk 1000)))) (by kd_p) uV RZ)) ?_
   k_upd;have hm:(Txt.mul (Str.ofString " ") (low+l)).length=(low+l).toNat:=lg 32 (low+l);refine jc (l4.small (by exact ag 1 2 (aa (aT (ai aJ aN) (ai aN (zk 10))) (aa (aT (ai aJ aq) (ai aq (zk 10))) (aa (ax ab (dB (bh aN aq))) (ae ab aQ)))) (by kd_p) uV RZ hm) (by decide)) ?_
   exact⟨.of (by exact ag 2 0 (aa (ae ab fe) (aa (ak af ab) (ae (aj af aC) aQ))) (by kd_p) cj hM),hK a9 k70⟩
  ·refine bK ?_
   have e:([]:List V)++(col.map V.int).flatMap g=(col.map (i4 low)).map .str:=by
    rw[List.nil_append,List.flatMap_map,List.map_map];clear qP q cj hc
    induction col with
    |nil=>rfl
    |cons l r ih=>rw[List.flatMap_cons,List.map_cons,ih];rfl
   rw[e];k_upd;have hs:=ko (M:=21) (col.map (i4 low)) fun y m=>by refine aW (List.mem_map.mp m) ?_;intro l hl z1;subst z1;exact BX uV (hc l hl)
   refine Bk (ys:=col.map (i4 low)) (by
    have e0:(Str.ofString "").length=0:=rfl;rw[e0];rw[List.length_map]at hs ⊢;have:col.length*21≤10*21:=Nat.mul_le_mul_right _ cj;exact ag 2 0 (aa (ae ab fe) (aa (ae af (sj ab 21)) (ae (aj af (sj ab 0)) bq))) (by kd_p) cj hs) ?_
   k_upd;refine tc (tX.small (by decide) (by exact ag 0 1 (aa (aT (ai aJ aq) (ai aq dC)) (ai (zk (-1000)) aq)) (by kd_p) nY) (by exact ag 0 1 (aa (aT (ai aJ aq) (ai aq dC)) (ai aq (zk 1000))) (by kd_p) nY)) ?_
   have gP:(Txt.mul (Str.ofString " ") blanks).length=blanks.toNat:=lg 32 blanks;refine jc (l4.small (by exact CX qP) (by exact ag 1 1 (aa (aT (ai aJ aq) (ai aq dC)) (aa (ax ab (dB aq)) (ae ab aQ))) (by kd_p) nY gP)) ?_
   k_upd;refine jc (l4.small (by rw[strLen_append];exact ag 2 1 (aa (aT (ai aJ aq) (ai aq dC)) (aa (ae af cS) (aa (ax ab (dB aq)) (ae (aj af ab) aQ)))) (by kd_p) nY qP gP) (by decide)) ?_
   k_upd;refine CK hG (uT hG (n:=n) (st:=gQ col low blanks) ?_ ?_)
   ·unfold gQ
    rw[strLen_append,strLen_append];have:(Str.ofString "x\t ").length=3:=rfl;exact ag 3 1 (aa (aT (ai aJ aq) (ai aq dC)) (aa (ae au cS) (aa (ax af (dB aq)) (aa (ax ab cm) (ae (aj (aj au af) ab) d4))))) (by kd_p) nY qP gP this
   ·exact⟨Mf _,by rw[List.take_length];exact q⟩
noncomputable def qR:Ss:=(.cons (.asg (.g9 (.name 83) (.name 82)) (.tup (.cons (.sub (.sub (.var 86) (.sub (.var 76) (.bin .Sub (.var 75) (.int 1)))) (.bin .FloorDiv (.var 80) (.int 3))) (.cons (.sub (.sub (.var 86) (.sub (.var 76) (.var 75))) (.bin .Mod (.var 80) (.int 3))) .nil)))) (.cons (.asg (.name 81) (.cA (.sub (.var 84) (.bin .FloorDiv (.var 80) (.int 3))) "less" (.cons (.sub (.var 85) (.bin .Mod (.var 80) (.int 3))) .nil))) (.cons (.iff (.cmp .IsNot (.var 81) (.cmp .Eq (.eB false (.var 56) 56 (.call (.glob 57) (.cons (.call (.glob 6) (.cons (.var 82) .nil)) .nil)) (.cons (.cmp .Gt (.sub (.var 83) (.var 56)) (.sub (.var 82) (.var 56))) .nil) [83,82] [56]) (.list false .nil))) (.cons (.ret (.list false .nil)) .nil) .nil) (.cons (.iff (.val (.var 81)) (.cons (.expr (.cA (.var 79) "append" (.cons (.tup (.cons (.var 83) (.cons (.var 82) .nil))) .nil))) .nil) .nil) .nil))))
noncomputable def gq:List (List (List Int)):=[[],[[1],[2],[3]],[[1,2],[1,3],[2,3]]]
noncomputable def gR:V:=.list (gq.map fun cs=>.list (cs.map fun c=>.list (c.map .int)))
noncomputable def bo(a i:Nat):List Int:=(gq.getD a []).getD i []
noncomputable def fw(l r:List Int):Bool:=(List.range r.length).all fun i=>decide (l.getD i 0≤r.getD i 0)
structure dd(U:aw)(low blanks extra:Int)(ah:List Nat)(F:V):Prop where
 c:get U 86=some gR
 l:get U 76=some (.list (ah.map fun(n:Nat)=>V.int n))
 lo:get U 70=some (.int low)
 bl:get U 73=some (.int blanks)
 ex:get U 88=some (.int extra)
 f:get U 74=some F
theorem dd.set{U:aw}{low blanks extra:Int}{ah:List Nat}{F:V}(h:dd U low blanks extra ah F){x:Nat}{v:V}(hx:x=75∨x=89∨x=84∨x=85∨x=79∨x=80∨x=83∨x=82∨x=81):dd (bg.set U x v) low blanks extra ah F:=by
 rcases hx with rfl|rfl|rfl|rfl|rfl|rfl|rfl|rfl|rfl<;>exact⟨gn h.c,gn h.l,gn h.lo,gn h.bl,gn h.ex,gn h.f⟩
theorem gS{τ:Type}(xs:List τ)(i:Nat):xs[cF (i:Int) xs.length]?=xs[i]?:=by
 unfold cF;rw[if_neg (by exact xH)]
 rfl
theorem Jt(xs:List Int):dQ 50 (.list (xs.map .int)) (.list [])=some (decide (xs=[])):=by
 cases xs with
 |nil=>rfl
 |cons x r=>unfold dQ;simp
theorem jN{ah:List Nat}{i a:Nat}(h:ah[i]?=some a):(ah.map fun(n:Nat)=>V.int n)[cF (i:Int) (ah.map fun(n:Nat)=>V.int n).length]?=some (.int (a:Nat)):=by
 rw[gS,List.getElem?_map,h];rfl
theorem mY{a:Nat}(ha:a=1∨a=2):(gq.map fun cs=>V.list (cs.map fun c=>.list (c.map .int)))[cF (a:Int) (gq.map fun cs=>V.list (cs.map fun c=>.list (c.map .int))).length]?=some (.list ((gq.getD a []).map fun c=>.list (c.map .int))):=by
 rcases ha with rfl|rfl<;>rfl
theorem DH{a i:Nat}(ha:a=1∨a=2)(hi:i<3):((gq.getD a []).map fun c=>V.list (c.map .int))[cF (i:Int) ((gq.getD a []).map fun c=>V.list (c.map .int)).length]?=some (.list ((bo a i).map .int)):=by
 match i,hi with
 |0,_=>rcases ha with rfl|rfl<;>rfl
 |1,_=>rcases ha with rfl|rfl<;>rfl
 |2,_=>rcases ha with rfl|rfl<;>rfl
theorem jO{a i:Nat}(ha:a=1∨a=2)(hi:i<3):(bo a i).length=a:=by
 match i,hi with
 |0,_=>rcases ha with rfl|rfl<;>rfl
 |1,_=>rcases ha with rfl|rfl<;>rfl
 |2,_=>rcases ha with rfl|rfl<;>rfl
theorem xf{a:Nat}(ha:a=1∨a=2):(gq.getD a []).length=3:=by rcases ha with rfl|rfl<;>rfl
theorem BY(hG:bx G){n:Nat}{U:aw}{O:Mu}{K:Fl→aw→Mu→Prop}{low blanks extra:Int}{ah:List Nat}{F:V}{j a b k m:Nat}{eY dY:List mW}{fits:List V}
  (hF:dd U low blanks extra ah F)(h75:get U 75=some (.int ((j+1:Nat):Int)))(ha:ah[j]?=some a)(hb:ah[j+1]?=some b)(mZ:a=1∨a=2)(jZ:b=1∨b=2)(uW:b≤a)(hlen:ah.length≤100)
  (h84:get U 84=some (.list (eY.map fun w=>.obj w.v)))(h85:get U 85=some (.list (dY.map fun w=>.obj w.v)))(h79:get U 79=some (.ml m))(hm:(O[m]?:Option (Option (List V)))=some (some fits))(yL:fits.length≤100)
  (hk:k<9){u w:mW}(hu:eY[k/3]?=some u)(hw:dY[k%3]?=some w)(yz:eY.length≤10)(pT:dY.length≤10)(ou:u.Ok)(ow:w.Ok)(R0:pV u w=fw (bo a (k/3)) (bo b (k%3)))
  (hK:∀ao,dd ao low blanks extra ah F→get ao 75=some (.int ((j+1:Nat):Int))→get ao 84=some (.list (eY.map fun w=>.obj w.v))→get ao 85=some (.list (dY.map fun w=>.obj w.v))→get ao 79=some (.ml m)→
   K .next ao (if fw (bo a (k/3)) (bo b (k%3)) then O.set m (some (fits++[.tuple [.list ((bo a (k/3)).map .int),.list ((bo b (k%3)).map .int)]])) else O)):
  aX G bX (n+2) qR (set U 80 (.int k)) O K:=by
 have L0:k/3<3:=by exact NN hk
 have Wt:k%3<3:=by exact NO
 have BZ:dd (set U 80 (.int k)) low blanks extra ah F:=hF.set (by simp)
 have k80:get (set U 80 (.int k)) 80=some (.int k):=gs;have R1:get (set U 80 (.int k)) 75=some (.int ((j+1:Nat):Int)):=gn h75;have k84:get (set U 80 (.int k)) 84=some (.list (eY.map fun w=>.obj w.v)):=gn h84;have k85:get (set U 80 (.int k)) 85=some (.list (dY.map fun w=>.obj w.v)):=gn h85;have k79:get (set U 80 (.int k)) 79=some (.ml m):=gn h79;generalize set U 80 (.int k)=a9 at *;have f1:=BZ.c;have f2:=BZ.l;have oq:cp (ah.map fun(n:Nat)=>V.int n).length:=.of (by simp;exact GA hlen)
 have e3:((k:Int)).fdiv 3=((k/3:Nat):Int):=by rw[Int.fdiv_eq_ediv_of_nonneg _ (by decide)];rfl
 have m3:((k:Int)).fmod 3=((k%3:Nat):Int):=by rw[Int.fmod_eq_emod_of_nonneg _ (by decide)];rfl
 have ej:((j+1:Nat):Int)-1=(j:Int):=by exact NP
 unfold qR;k_upd;rw[ej];refine V_at (jN ha) (by exact wd) oq ?_
 show gg _ _ gR _ _ _;refine V_at (mY mZ) (by rcases mZ with rfl|rfl<;>decide) (.of (by decide)) ?_
 k_upd;refine dR ⟨by decide,by decide +kernel⟩ ?_
 rw[e3];refine V_at (DH mZ L0) (by exact NQ hk e3 m3) (.of (by rw[List.length_map,xf mZ];decide)) ?_
 k_upd;refine V_at (jN hb) (by exact GQ) oq ?_
 show gg _ _ gR _ _ _;refine V_at (mY jZ) (by rcases jZ with rfl|rfl<;>decide) (.of (by decide)) ?_
 k_upd;refine dD (by decide) ?_
 rw[m3];refine V_at (DH jZ Wt) (by exact NR e3 m3) (.of (by rw[List.length_map,xf jZ];decide)) ?_
 k_upd;refine⟨.of (by simp),?_⟩
 k_upd;generalize hl:bo a (k/3)=left at *;generalize hr:bo b (k%3)=right at *;have ll:left.length=a:=by rw[←hl];exact jO mZ L0
 have rl:right.length=b:=by rw[←hr];exact jO jZ Wt
 have B9:dd (set (set a9 83 (.list (left.map .int))) 82 (.list (right.map .int))) low blanks extra ah F:=(BZ.set (by simp)).set (by simp)
 have i83:get (set (set a9 83 (.list (left.map .int))) 82 (.list (right.map .int))) 83=some (.list (left.map .int)):=by rw[get_set,get_set];rfl
 have i82:get (set (set a9 83 (.list (left.map .int))) 82 (.list (right.map .int))) 82=some (.list (right.map .int)):=gs;have i80:get (set (set a9 83 (.list (left.map .int))) 82 (.list (right.map .int))) 80=some (.int k):=by rw[get_set,get_set];exact k80
 have R2:get (set (set a9 83 (.list (left.map .int))) 82 (.list (right.map .int))) 75=some (.int ((j+1:Nat):Int)):=by rw[get_set,get_set];exact R1
 have i84:get (set (set a9 83 (.list (left.map .int))) 82 (.list (right.map .int))) 84=some (.list (eY.map fun w=>.obj w.v)):=by rw[get_set,get_set];exact k84
 have i85:get (set (set a9 83 (.list (left.map .int))) 82 (.list (right.map .int))) 85=some (.list (dY.map fun w=>.obj w.v)):=by rw[get_set,get_set];exact k85
 have i79:get (set (set a9 83 (.list (left.map .int))) 82 (.list (right.map .int))) 79=some (.ml m):=by rw[get_set,get_set];exact k79
 generalize set (set a9 83 (.list (left.map .int))) 82 (.list (right.map .int))=b9 at *;refine bB ?_;k_upd;refine dR ⟨by decide,by decide +kernel⟩ ?_
 rw[e3];refine V_at (v:=.obj u.v) (by rw[gS,List.getElem?_map,hu];rfl) (by exact NQ hk e3 m3) (.of (by simp;exact we yz)) ?_
 refine⟨_,la hG (p:=(Str.ofString "less",163)) (by simp[lK]),?_⟩
 k_upd;refine dD (by decide) ?_
 rw[m3];refine V_at (v:=.obj w.v) (by rw[gS,List.getElem?_map,hw];rfl) (by exact NR e3 m3) (.of (by simp;exact we pT)) ?_
 k_upd;refine Js hG ou ow ?_;rw[R0];k_upd;have yM:dd (set b9 81 (.bool (fw left right))) low blanks extra ah F:=B9.set (by simp)
 have Wu:get (set b9 81 (.bool (fw left right))) 81=some (.bool (fw left right)):=gs;have j83:get (set b9 81 (.bool (fw left right))) 83=some (.list (left.map .int)):=gn i83;have j82:get (set b9 81 (.bool (fw left right))) 82=some (.list (right.map .int)):=gn i82;have Mg:get (set b9 81 (.bool (fw left right))) 75=some (.int ((j+1:Nat):Int)):=gn R2;have Mh:get (set b9 81 (.bool (fw left right))) 84=some (.list (eY.map fun w=>.obj w.v)):=gn i84;have Wv:get (set b9 81 (.bool (fw left right))) 85=some (.list (dY.map fun w=>.obj w.v)):=gn i85;have R3:get (set b9 81 (.bool (fw left right))) 79=some (.ml m):=gn i79;generalize set b9 81 (.bool (fw left right))=gG at *;k_upd;refine dE ?_;k_upd;refine cN (cp.of (by simp;exact NS jZ rl)).ok ?_
 k_upd;refine d5 ?_;rw[List.length_map];refine⟨_,Iter.gE (eN (by decide) (by decide) (by exact ag 2 0 (aa (ax af ab) (ai (zk (-1000000)) (az af))) (by kd_p) rl) (by exact ag 2 0 (aa (lpo (ax ab aC) (ax ab gU)) (aa (ax af ab) (ai (az af) (zk 1000000)))) (by kd_p) jZ rl)),?_⟩
 let g:V→List V:=fun v=>match v with | .int i=>if right.getD i.toNat 0<left.getD i.toNat 0 then[.int i] else[]|_=>[]
 have IS:cz gG [83,82]=[(83,.list (left.map .int)),(82,.list (right.map .int))]:=by unfold cz;rw[j83];simp only[];unfold cz;rw[j82];rfl
 refine kl (J:=fun ao=>get ao 83=some (.list (left.map .int))∧get ao 82=some (.list (right.map .int))) (M:=10) g (fun x=>?_) (fun x hx ao acc K' hJ hM fP=>?_) (by rw[IS];exact⟨rfl,rfl⟩) (by simp[cJ];exact ag 2 0 (aa (lpo (ax ab aC) (ax ab gU)) (aa (ax af ab) (ae af fe))) (by kd_p) jZ rl) (fun ao hJ=>?_)
 ·cases x<;>simp only[g,List.length_nil,Nat.zero_le]
  split<;>simp
 ·unfold cJ at hx
  refine aW (List.mem_map.mp hx) ?_;intro i hi z1;subst z1;have hi:i<right.length:=by have:=List.mem_range.mp hi;exact ag 3 0 (aa (ax af ab) (aa (ak au (dB (bR (az af) aJ))) (ak au af))) (by kd_p) rl this
  simp only[Int.zero_add]at *;have Ww:get (set ao 56 (.int (i:Int))) 83=some (.list (left.map .int)):=gn hJ.1;have Wx:get (set ao 56 (.int (i:Int))) 82=some (.list (right.map .int)):=gn hJ.2;have l56:get (set ao 56 (.int (i:Int))) 56=some (.int (i:Int)):=gs;first|show aX _ _ _ _ _ _ _|show eh _ _ _ _ _ _ _|skip
  generalize set ao 56 (.int (i:Int))=pv at *;refine kU ?_;k_upd;have hil:i<left.length:=by exact ag 5 0 (aa (ae au af) (aa (ax aM af) (aa (ax ab au) (aa (ak de ab) (ak de aM))))) (by kd_p) uW ll rl hi
  refine V_at (v:=.int (left.getD i 0)) (by rw[gS];simp[hil]) (by exact wd) (.of (by simp;exact ag 3 0 (aa (lpo (ax af aC) (ax af gU)) (aa (lpo (ax ab aC) (ax ab gU)) (aa (ax au af) (ae au aQ)))) (by kd_p) mZ jZ ll)) ?_
  k_upd;refine V_at (v:=.int (right.getD i 0)) (by rw[gS];simp[hi]) (by exact wd) (.of (by simp;exact NS jZ rl)) ?_
  k_upd
  by_cases sO:right.getD i 0<left.getD i 0
  ·rw[show decide (right.getD i 0<left.getD i 0)=true by simpa using sO]
   k_upd;refine⟨.of (by exact ag 1 0 (aa (ak ab fe) (ae (aj ab aC) aQ)) (by kd_p) hM),?_⟩
   have:=fP pv ⟨Ww,Wx⟩;simp only[g,Int.toNat_natCast,if_pos sO]at this;exact this
  ·rw[show decide (right.getD i 0<left.getD i 0)=false by simpa using sO]
   have:=fP pv ⟨Ww,Wx⟩;simp only[g,Int.toNat_natCast,if_neg sO,List.append_nil]at this;exact this
 ·refine bK ?_
  have el:([]:List V)++(cJ 0 (right.length:Int)).flatMap g=((List.range right.length).filterMap fun i=>if right.getD i 0<left.getD i 0 then some (i:Int) else none).map .int:=by
   rw[List.nil_append];unfold cJ;rw[show((right.length:Int)-0).toNat=right.length by exact ag 2 0 (aa (ax af ab) (ax (dB (bR (az af) aJ)) af)) (by kd_p) rl]
   generalize right.length=z
   induction z with
   |zero=>rfl
   |succ z ih=>
    rw[List.range_succ,List.map_append,List.flatMap_append,ih,List.filterMap_append,List.map_append]
    congr 1
    simp only[List.map_cons,List.map_nil,List.flatMap_cons,List.flatMap_nil,List.append_nil,Int.zero_add,g,Int.toNat_natCast,List.filterMap_cons,List.filterMap_nil]
    by_cases sO:right.getD z 0<left.getD z 0
    ·rw[if_pos sO,if_pos sO];rfl
    ·rw[if_neg sO,if_neg sO];rfl
  rw[el];k_upd;refine⟨.of (by simp),bK ?_⟩
  refine Ba (Jt _) ?_;have eb:decide ((List.range right.length).filterMap (fun i=>if right.getD i 0<left.getD i 0 then some (i:Int) else none)=[])=fw left right:=by
   unfold fw
   by_cases lZ:((List.range right.length).all fun i=>decide (left.getD i 0≤right.getD i 0))=true
   ·rw[lZ]
    simp only[decide_eq_true_eq,List.filterMap_eq_nil_iff];intro i hi;have:=List.all_eq_true.mp lZ i hi;rw[if_neg (by simpa using this)]
   ·rw[show((List.range right.length).all fun i=>decide (left.getD i 0≤right.getD i 0))=false by simpa using lZ]
    simp only[decide_eq_false_iff_not,List.filterMap_eq_nil_iff];intro hn;apply lZ;rw[List.all_eq_true];intro i hi;have:=hn i hi
    by_cases sO:right.getD i 0<left.getD i 0
    ·rw[if_pos sO]at this;exact ff this
    ·simpa using sO
  rw[eb];k_upd;rw[show(fw left right !=fw left right)=false by simp]
  k_upd;cases hle:fw left right with
  |true=>
   rw[hle]at hK Wu;k_upd;refine bB (bU R3 ?_);refine⟨_,fC hm,?_⟩;k_upd;refine⟨.of (by simp),?_⟩
   k_upd;refine fD hm (by rw[sizeLine_eq];exact NT yL) (.tuple fun y hy=>?_) ?_
   ·simp only[List.mem_cons,List.not_mem_nil,or_false]at hy
    rcases hy with rfl|rfl<;>exact jJ _
   ·k_upd
    exact hK _ yM Mg Mh Wv R3
  |false=>
   rw[hle]at hK Wu;k_upd;exact hK _ yM Mg Mh Wv R3
theorem dZ{τ:Type}{turn:V→aw→Mu→List V→(aw→Mu→List V→Prop)→Prop}{J:aw→Prop}{O:Mu}{M:Nat}(f:τ→V)(h:τ→List V):
  ∀ {ys:List τ} (step:∀y∈ys,∀U acc k,J U→acc.length+(h y).length≤M→(∀ao,J ao→k ao O (acc++h y))→turn (f y) U O acc k) {U:aw} {acc:List V} {k:aw→Mu→List V→Prop},J U→acc.length+(ys.flatMap h).length≤M→(∀ao,J ao→k ao O (acc++ys.flatMap h))→cb turn (ys.map f) U O acc k
 |[],_,U,acc,k,hJ,_,hk=>by
  have:=hk U hJ;rw[List.flatMap_nil,List.append_nil]at this;exact this
 |y::ys,step,U,acc,k,hJ,hM,hk=>by
  rw[List.flatMap_cons,List.length_append]at hM;refine step y (.head _) U acc _ hJ (by exact ag 4 0 (aa (ae (aj aM (aj au ab)) af) (ae (aj aM au) af)) (by kd_p) hM) fun ao Rq=>?_
  refine dZ f h (fun y hy=>step y (.tail _ hy)) Rq ?_ fun fK IP=>?_
  ·rw[List.length_append];exact ag 4 0 (aa (ae (aj aM (aj au af)) ab) (ae (aj (aj aM au) af) ab)) (by kd_p) hM
  ·have:=hk fK IP
   rw[List.flatMap_cons,←List.append_assoc]at this;exact this
theorem pX(k:Nat)(a b:Int):dQ (k+1) (.int a) (.int b)=some (decide (a=b)):=rfl
theorem xg(xs ys:List Int):dQ 50 (.list (xs.map .int)) (.list (ys.map .int))=some (decide (xs=ys)):=by
 have z:∀ (xs ys:List Int),xs.length=ys.length→gw (List.zipWith (dQ 49) (xs.map .int) (ys.map .int))=some (decide (xs=ys)):=by
  intro xs
  induction xs with
  |nil=>intro ys h;cases ys with
   |nil=>rfl
   |cons _ _=>cases h
  |cons x xs ih=>intro ys h;cases ys with
   |nil=>cases h
   |cons y ys=>
    have h':xs.length=ys.length:=by simpa using h
    rw[List.map_cons,List.map_cons,List.zipWith_cons_cons,pX];have:=ih ys h';generalize List.zipWith (dQ 49) (xs.map V.int) (ys.map V.int)=l at *
    by_cases sq:x=y
    ·simp[gw,this,sq]
    ·simp[gw,this,sq]
 unfold dQ;simp only[List.length_map]
 by_cases h:xs.length=ys.length
 ·rw[if_pos h];exact z xs ys h
 ·rw[if_neg h]
  have:xs≠ys:=fun e=>h (by rw[e])
  simp[this]
noncomputable def kO(a b k:Nat):List (List Int×List Int):=(List.range k).filterMap fun k=>if fw (bo a (k/3)) (bo b (k%3)) then some (bo a (k/3),bo b (k%3)) else none
noncomputable def hO(p:List Int×List Int):V:=.tuple [.list (p.1.map .int),.list (p.2.map .int)]
noncomputable def Ju(F:List (List (List Int)))(a b:Nat):List (List (List Int)):=F.flatMap fun f=>(kO a b 9).flatMap fun p=>if p.1=f.getLastD [] then[f++[p.2]] else[]
noncomputable def b5:List Nat→Nat→List (List (List Int))
 |ah,0=>(gq.getD (ah.getD 0 0) []).map fun c=>[c]
 |ah,j+1=>Ju (b5 ah j) (ah.getD j 0) (ah.getD (j+1) 0)
noncomputable def cG(F:List (List (List Int))):V:=.list (F.map cH)
noncomputable def DI(a b i:Nat)(low blanks extra:Int):Str:=gQ (bo b i++List.replicate (a-b) 4) low (blanks+extra)
def xh(low blanks extra:Int):Prop:=∀a<3,∀b<3,1≤b→b≤a→∀i<3,∀j<3,pV (sN (gQ (bo a i) low blanks)) (sN (DI a b j low blanks extra))=fw (bo a i) (bo b j)
theorem Ab(a b k:Nat):kO a b (k+1)=kO a b k++(if fw (bo a (k/3)) (bo b (k%3)) then[(bo a (k/3),bo b (k%3))] else[]):=by
 unfold kO;rw[List.range_succ,List.filterMap_append]
 congr 1
 by_cases h:fw (bo a (k/3)) (bo b (k%3))=true
 ·simp[h]
 ·simp[h]
theorem uX(a b k:Nat):(kO a b k).length≤k:=by
 unfold kO;refine Nat.le_trans (List.length_filterMap_le _ _) ?_;simp
theorem Jv:∀low∈[(1:Int),2],∀a<3,∀b<3,∀i<3,1≤b→b≤a→(Txt.join (Str.ofString "") ((bo b i++List.replicate (a-b) 4).map (i4 low))).length≤60:=by decide +kernel
theorem Ca:∀a<3,∀b<3,∀i<3,1≤b→b≤a→((bo b i++List.replicate (a-b) 4).all fun l=>decide (0≤l∧l≤10))=true:=by decide +kernel
theorem Ac{b:Nat}(hb:1≤b)(o8:b<3):gq.getD b []=(List.range 3).map (bo b):=by
 have:∀b<3,1≤b→gq.getD b []=(List.range 3).map (bo b):=by decide +kernel
 exact this b o8 hb
theorem uY{col:List Int}{low blanks:Int}(h:(Txt.join (Str.ofString "") (col.map (i4 low))).length≤60)(hb:blanks≤20):(gQ col low blanks).length≤900:=by
 unfold gQ;rw[strLen_append,strLen_append];have:(Str.ofString "x\t ").length=3:=rfl;have gP:(Txt.mul (Str.ofString " ") blanks).length=blanks.toNat:=lg 32 blanks;exact ag 3 1 (aa (ae au (nk 60)) (aa (ai aq dC) (aa (ax ab cm) (aa (ax af (dB aq)) (ae (aj (aj au af) ab) d4))))) (by kd_p) h hb this gP
theorem sP(n:Nat):List.replicate n (V.int 4)=(List.replicate n (4:Int)).map V.int:=by rw[List.map_replicate]
noncomputable def qS:Ss:=(.cons (.asg (.name 89) (.bin .Mult (.list false (.cons (.int 4) .nil)) (.bin .Sub (.sub (.var 76) (.bin .Sub (.var 75) (.int 1))) (.sub (.var 76) (.var 75))))) (.cons (.asg (.name 84) (.eB false (.call (.glob 87) (.cons (.var 72) (.cons (.var 70) (.cons (.var 73) .nil)))) 72 (.sub (.var 86) (.sub (.var 76) (.bin .Sub (.var 75) (.int 1)))) .nil [70,73] [72])) (.cons (.asg (.name 85) (.eB false (.call (.glob 87) (.cons (.bin .Add (.var 72) (.var 89)) (.cons (.var 70) (.cons (.bin .Add (.var 73) (.var 88)) .nil)))) 72 (.sub (.var 86) (.sub (.var 76) (.var 75))) .nil [89,70,73,88] [72])) (.cons (.asg (.name 79) (.list true .nil)) (.cons (.for 80 (.call (.glob 57) (.cons (.int 9) .nil)) qR) (.su 79 (.cons (.asg (.name 74) (.t4 false (.bin .Add (.var 77) (.list false (.cons (.sub (.var 78) (.int 1)) .nil))) 77 (.var 74) .nil 78 (.var 79) (.cons (.cmp .Eq (.sub (.var 78) (.int 0)) (.sub (.var 77) (.neg (.int 1)))) .nil) [79] [77,78])) .nil)))))))
noncomputable def Ad:Ss:=(.cons (.asg (.name 86) (.list false (.cons (.list false .nil) (.cons (.list false (.cons (.list false (.cons (.int 1) .nil)) (.cons (.list false (.cons (.int 2) .nil)) (.cons (.list false (.cons (.int 3) .nil)) .nil)))) (.cons (.list false (.cons (.list false (.cons (.int 1) (.cons (.int 2) .nil))) (.cons (.list false (.cons (.int 1) (.cons (.int 3) .nil))) (.cons (.list false (.cons (.int 2) (.cons (.int 3) .nil))) .nil)))) .nil))))) (.cons (.asg (.name 74) (.eB false (.list false (.cons (.var 72) .nil)) 72 (.sub (.var 86) (.sub (.var 76) (.int 0))) .nil [] [72])) (.cons (.for 75 (.call (.glob 57) (.cons (.int 1) (.cons (.call (.glob 6) (.cons (.var 76) .nil)) .nil))) qS) (.cons (.ret (.var 74)) .nil))))
theorem qT{xs:List V}{O:Mu}{Q:V→Mu→Prop}(c:∀x∈xs,Cl x)(q:Q (.ml O.length) (O++[some xs])):dg true Q O xs:=⟨c,q⟩
theorem xj{U:aw}{O:Mu}{K:aw→Mu→List V→Prop}{turn:V→aw→Mu→List V→(aw→Mu→List V→Prop)→Prop}{J:aw→Prop}{b:Nat}{g:List Int→mW}(hb:1≤b)(o8:b<3)
  (step:∀i<3,∀ (U:aw) (acc:List V) (K:aw→Mu→List V→Prop),J U→acc.length≤3→(∀ao,J ao→K ao O (acc++[.obj (g (bo b i)).v]))→turn (.list ((bo b i).map .int)) U O acc K)
  (h0:J U)(hK:∀ao,J ao→K ao O (((List.range 3).map fun i=>g (bo b i)).map fun w=>V.obj w.v)):cb turn ((gq.getD b []).map fun c=>V.list (c.map .int)) U O [] K:=by
 rw[Ac hb o8,List.map_map];refine dZ (J:=J) (M:=3) ((fun c=>V.list (c.map .int))∘bo b) (fun i=>[.obj (g (bo b i)).v]) (fun i hi ao acc K' hJ hM fP=>?_) h0 ?_ (fun ao hJ=>?_)
 ·exact step i (List.mem_range.mp hi) ao acc K' hJ (by simp at hM;exact ag 1 0 (aa (ae ab gU) (ae ab cm)) (by kd_p) hM) fP
 ·simp[List.range,List.range.loop]
 ·exact hK ao hJ
structure lT(low blanks extra:Int):Prop where
 lo:low=1∨low=2
 bl:0≤blanks∧blanks≤2
 ex:1≤extra∧extra≤4
 less:xh low blanks extra
theorem lT.mem{low blanks extra:Int}(h:lT low blanks extra):low∈[(1:Int),2]:=by
 rcases h.lo with h|h<;>simp[h]
theorem lT.join{low blanks extra:Int}(h:lT low blanks extra){a b i:Nat}(ha:a<3)(hb:b<3)(hi:i<3)(h1:1≤b)(h2:b≤a):(Txt.join (Str.ofString "") ((bo b i++List.replicate (a-b) 4).map (i4 low))).length≤60:=Jv low h.mem a ha b hb i hi h1 h2
theorem lT.Jw{low blanks extra:Int}(h:lT low blanks extra){b i:Nat}(hb:b<3)(hi:i<3)(h1:1≤b):(Txt.join (Str.ofString "") ((bo b i).map (i4 low))).length≤60:=by
 have:=h.join (a:=b) hb hb hi h1 (Nat.le_refl _);simpa using this
def OV(l:List Int):Prop:=∀x∈l,0≤x∧x≤10
theorem Ae{a b i:Nat}(ha:a<3)(hb:b<3)(hi:i<3)(h1:1≤b)(h2:b≤a):OV (bo b i++List.replicate (a-b) 4):=by
 have:=Ca a ha b hb i hi h1 h2;intro x m;simpa using List.all_eq_true.mp this x m
theorem Fu{b i:Nat}(hb:b<3)(hi:i<3)(h1:1≤b):OV (bo b i):=by
 have:=Ae (a:=b) hb hb hi h1 (Nat.le_refl _);simpa using this
theorem Cb(hG:bx G){n:Nat}{U:aw}{O:Mu}{K:Fl→aw→Mu→Prop}{low blanks extra:Int}{ah:List Nat}{j a b:Nat}
  (hF:dd U low blanks extra ah (cG (b5 ah j)))(ha:ah[j]?=some a)(hb:ah[j+1]?=some b)(mZ:1≤a)(pY:a<3)(jZ:1≤b)(uW:b≤a)(hlen:ah.length≤10)(hU:lT low blanks extra)
  (Ht:∀f∈b5 ah j,f≠[]∧f.length≤10)(hf2:(b5 ah (j+1)).length≤100)
  (hK:∀ao,dd ao low blanks extra ah (cG (b5 ah (j+1)))→∀o,K .next ao (O++[o])):
  aX G bX (n+4) qS (set U 75 (.int ((j+1:Nat):Int))) O K:=by
 have o8:b<3:=by exact ag 2 0 (aa (ae aC ab) (aa (ak ab cm) (aa (ae af ab) (ak af cm)))) (by kd_p) mZ pY uW
 have Mi:a=1∨a=2:=by exact NU mZ pY
 have BH:b=1∨b=2:=by exact NU jZ o8
 have uV:0≤low∧low≤10:=by rcases hU.lo with h|h<;>(first|exact ag 0 1 (aa (aS aq bV) (aT (ai aJ aq) (ai aq (zk 10)))) (by kd_p) h|exact ag 0 1 (aa (aS aq jT) (aT (ai aJ aq) (ai aq (zk 10)))) (by kd_p) h)
 have nY:=hU.bl;have hex:=hU.ex;have BZ:dd (set U 75 (.int ((j+1:Nat):Int))) low blanks extra ah (cG (b5 ah j)):=hF.set (by simp)
 have R1:get (set U 75 (.int ((j+1:Nat):Int))) 75=some (.int ((j+1:Nat):Int)):=gs;generalize set U 75 (.int ((j+1:Nat):Int))=a9 at *;have f1:=BZ.c;have f2:=BZ.l;have oq:cp (ah.map fun(n:Nat)=>V.int n).length:=.of (by simp;exact we hlen)
 have ej:((j+1:Nat):Int)-1=(j:Int):=by exact NP
 unfold qS;k_upd;refine⟨.of (by simp),bK ?_⟩
 k_upd;rw[ej];refine V_at (jN ha) (by exact wd) oq ?_
 k_upd;refine V_at (jN hb) (by exact GQ) oq ?_
 k_upd;refine lx ⟨by exact ag 2 0 (aa (ae ab af) (ai (cI (zk (2 ^ 63))) (bR (az af) (az ab)))) (by kd_p) uW,by exact ag 2 0 (aa (ae aC af) (aa (ak af cm) (aa (ae aC ab) (aa (ak ab cm) (aK (bR (az af) (az ab)) (zk (2 ^ 63))))))) (by kd_p) mZ pY jZ o8,by simp;exact ag 2 0 (aa (ae aC af) (aa (ak af cm) (aa (ae aC ab) (aa (ak ab cm) (ae af (aj bq ab)))))) (by kd_p) mZ pY jZ o8⟩ ?_
 rw[show(a:Int)-(b:Int)=((a-b:Nat):Int) by exact ag 2 0 (aa (ae ab af) (aS (bR (az af) (az ab)) (az (bb af ab)))) (by kd_p) uW,eO,Int.toNat_natCast,sP]
 generalize Jx:List.replicate (a-b) (4:Int)=iz;k_upd;have B9:dd (set a9 89 (.list (iz.map .int))) low blanks extra ah (cG (b5 ah j)):=BZ.set (by simp)
 have R2:get (set a9 89 (.list (iz.map .int))) 75=some (.int ((j+1:Nat):Int)):=gn R1;have i89:get (set a9 89 (.list (iz.map .int))) 89=some (.list (iz.map .int)):=gs;generalize set a9 89 (.list (iz.map .int))=b9 at *;have g1:=B9.c;have g2:=B9.l;refine dE ?_;k_upd;rw[ej];refine V_at (jN ha) (by exact wd) oq ?_
 show gg _ _ gR _ _ _;refine V_at (mY Mi) (by rcases Mi with rfl|rfl<;>decide) (.of (by decide)) ?_
 refine⟨_,Iter.list,?_⟩;have ec1:cz b9 [70,73]=[(70,.int low),(73,.int blanks)]:=by unfold cz;rw[B9.lo];simp only[];unfold cz;rw[B9.bl];rfl
 refine xj (g:=fun c=>sN (gQ c low blanks)) (J:=fun ao=>get ao 70=some (.int low)∧get ao 73=some (.int blanks)) mZ pY (fun i hi ao acc K' hJ hM fP=>?_) (by rw[ec1];exact⟨rfl,rfl⟩) (fun ao hJ=>?_)
 ·have R4:get (set ao 72 (.list ((bo a i).map .int))) 70=some (.int low):=gn hJ.1
  have R5:get (set ao 72 (.list ((bo a i).map .int))) 73=some (.int blanks):=gn hJ.2;have l72:get (set ao 72 (.list ((bo a i).map .int))) 72=some (.list ((bo a i).map .int)):=gs;first|show aX _ _ _ _ _ _ _|show eh _ _ _ _ _ _ _|skip
  generalize set ao 72 (.list ((bo a i).map .int))=pv at *;refine cR ?_;k_upd;refine CK hG (pW hG (n:=n) uV ⟨nY.1,by exact NV nY⟩ (Fu pY hi mZ) (by rw[jO Mi hi];exact ag 1 0 (aa (ae aC ab) (aa (ak ab cm) (ae ab fe))) (by kd_p) mZ pY) (Nat.le_trans (hU.Jw pY hi mZ) (by decide)) ?_)
  exact⟨.of (by exact GG hM),fP pv ⟨R4,R5⟩⟩
 refine bK ?_;generalize yz:(List.range 3).map (fun i=>sN (gQ (bo a i) low blanks))=eY;k_upd;have yM:dd (set b9 84 (.list (eY.map fun w=>V.obj w.v))) low blanks extra ah (cG (b5 ah j)):=B9.set (by simp)
 have Mg:get (set b9 84 (.list (eY.map fun w=>V.obj w.v))) 75=some (.int ((j+1:Nat):Int)):=gn R2;have j89:get (set b9 84 (.list (eY.map fun w=>V.obj w.v))) 89=some (.list (iz.map .int)):=gn i89;have Mh:get (set b9 84 (.list (eY.map fun w=>V.obj w.v))) 84=some (.list (eY.map fun w=>V.obj w.v)):=gs;generalize set b9 84 (.list (eY.map fun w=>V.obj w.v))=gG at *;have h1:=yM.c;have h2:=yM.l;refine dE ?_;k_upd;refine V_at (jN hb) (by exact GQ) oq ?_
 show gg _ _ gR _ _ _;refine V_at (mY BH) (by rcases BH with rfl|rfl<;>decide) (.of (by decide)) ?_
 refine⟨_,Iter.list,?_⟩;have ec2:cz gG [89,70,73,88]=[(89,.list (iz.map .int)),(70,.int low),(73,.int blanks),(88,.int extra)]:=by unfold cz;rw[j89];simp only[];unfold cz;rw[yM.lo];simp only[];unfold cz;rw[yM.bl];simp only[];unfold cz;rw[yM.ex];rfl
 refine xj (g:=fun c=>sN (gQ (c++iz) low (blanks+extra))) (J:=fun ao=>get ao 89=some (.list (iz.map .int))∧get ao 70=some (.int low)∧get ao 73=some (.int blanks)∧get ao 88=some (.int extra)) jZ o8 (fun i hi ao acc K' hJ hM fP=>?_) (by rw[ec2];exact⟨rfl,rfl,rfl,rfl⟩) (fun ao hJ=>?_)
 ·have l89:get (set ao 72 (.list ((bo b i).map .int))) 89=some (.list (iz.map .int)):=gn hJ.1
  have R4:get (set ao 72 (.list ((bo b i).map .int))) 70=some (.int low):=gn hJ.2.1;have R5:get (set ao 72 (.list ((bo b i).map .int))) 73=some (.int blanks):=gn hJ.2.2.1;have l88:get (set ao 72 (.list ((bo b i).map .int))) 88=some (.int extra):=gn hJ.2.2.2;have l72:get (set ao 72 (.list ((bo b i).map .int))) 72=some (.list ((bo b i).map .int)):=gs;first|show aX _ _ _ _ _ _ _|show eh _ _ _ _ _ _ _|skip
  generalize set ao 72 (.list ((bo b i).map .int))=pv at *;refine cR ?_;k_upd;have OW:iz.length≤2:=by rw[←Jx,List.length_replicate];exact ag 2 0 (aa (ae aC af) (aa (ak af cm) (aa (ae aC ab) (aa (ae ab af) (aa (ak ab cm) (ae (bb af ab) gU)))))) (by kd_p) mZ pY jZ uW o8
  refine td ⟨by rw[sizeLine_eq];simp;rw[jO BH hi];exact ag 2 0 (aa (ae aC af) (aa (ak af cm) (aa (ae ab gU) (ae (aj af ab) bq)))) (by kd_p) jZ o8 OW⟩ ?_
  rw[←List.map_append];k_upd;refine CK hG (pW hG (n:=n) uV ⟨by exact ag 0 2 (aa (aT (ai aJ aN) (ai aN jT)) (aa (aT (ai bV aq) (ai aq (zk 4))) (ai aJ (bh aN aq)))) (by kd_p) nY hex,by exact NW nY hex⟩ (by rw[←Jx];exact Ae pY o8 hi jZ uW) (by rw[List.length_append,jO BH hi];exact ag 2 0 (aa (ae aC af) (aa (ak af cm) (aa (ae ab gU) (ae (aj af ab) fe)))) (by kd_p) jZ o8 OW) (by rw[←Jx];exact Nat.le_trans (hU.join pY o8 hi jZ uW) (by decide)) ?_)
  exact⟨.of (by exact GG hM),fP pv ⟨l89,R4,R5,l88⟩⟩
 refine bK ?_;generalize pT:(List.range 3).map (fun i=>sN (gQ (bo b i++iz) low (blanks+extra)))=dY;k_upd;have hF4:dd (set gG 85 (.list (dY.map fun w=>V.obj w.v))) low blanks extra ah (cG (b5 ah j)):=yM.set (by simp)
 have m75:get (set gG 85 (.list (dY.map fun w=>V.obj w.v))) 75=some (.int ((j+1:Nat):Int)):=gn Mg;have m84:get (set gG 85 (.list (dY.map fun w=>V.obj w.v))) 84=some (.list (eY.map fun w=>V.obj w.v)):=gn Mh;have m85:get (set gG 85 (.list (dY.map fun w=>V.obj w.v))) 85=some (.list (dY.map fun w=>V.obj w.v)):=gs;generalize set gG 85 (.list (dY.map fun w=>V.obj w.v))=Fv at *;refine⟨.of (by simp),qT (fun x m=>nomatch m) ?_⟩
 k_upd;have hF5:dd (set Fv 79 (.ml O.length)) low blanks extra ah (cG (b5 ah j)):=hF4.set (by simp)
 have n75:get (set Fv 79 (.ml O.length)) 75=some (.int ((j+1:Nat):Int)):=gn m75;have n84:get (set Fv 79 (.ml O.length)) 84=some (.list (eY.map fun w=>V.obj w.v)):=gn m84;have n85:get (set Fv 79 (.ml O.length)) 85=some (.list (dY.map fun w=>V.obj w.v)):=gn m85;have n79:get (set Fv 79 (.ml O.length)) 79=some (.ml O.length):=gs;generalize set Fv 79 (.ml O.length)=VF at *;try refine gN ?_
 k_upd;refine d5 ?_;refine⟨_,Iter.gE (by decide),?_⟩
 refine dA (fun i ao ar=>ar=O++[some ((kO a b i).map hO)]∧dd ao low blanks extra ah (cG (b5 ah j))∧get ao 75=some (.int ((j+1:Nat):Int))∧get ao 84=some (.list (eY.map fun w=>V.obj w.v))∧get ao 85=some (.list (dY.map fun w=>V.obj w.v))∧get ao 79=some (.ml O.length)) (fun i x ao ar k hx hJ jL kI vT=>?_) (fun ao ar hJ=>?_) ⟨by simp[kO],hF5,n75,n84,n85,n79⟩
 ·refine sX hJ ?_;clear hJ;intro z1;subst z1;intro q0 Wy Wz WA R6
  obtain⟨hi,rfl⟩:=uE (m:=9) x hx;have R7:i/3<3:=by exact NN hi
  have R8:i%3<3:=by exact NO
  have WB:eY.length=3:=by rw[←yz];simp
  have WC:dY.length=3:=by rw[←pT];simp
  refine BY hG (n:=n+2) (fits:=(kO a b i).map hO) q0 Wy ha hb Mi BH uW (by exact NX hlen) Wz WA R6 (by simp) (by rw[List.length_map];have:=uX a b i;exact ag 2 0 (aa (ak ab (nk 9)) (aa (ae af ab) (ae af cy))) (by kd_p) hi this) hi (u:=sN (gQ (bo a (i/3)) low blanks)) (w:=sN (gQ (bo b (i%3)++iz) low (blanks+extra)))
   (by rw[←yz];simp[R7]) (by rw[←pT];simp[R8]) (by exact NY WB) (by exact NY WC) (DG (uY (hU.Jw pY R7 mZ) (by exact NV nY))) (DG (uY (by rw[←Jx];exact hU.join pY o8 R8 jZ uW) (by exact NW nY hex))) (by rw[←Jx];exact hU.less a pY b o8 jZ uW _ R7 _ R8) (fun fK p0 p75 p84 p85 p79=>?_)
  refine jL _ _ ⟨?_,p0,p75,p84,p85,p79⟩;rw[Ab,List.map_append];cases fw (bo a (i/3)) (bo b (i%3)) with
  |true=>simp[hO]
  |false=>simp
 ·refine sX hJ ?_;clear hJ;intro z1;subst z1;intro q0 Wy Wz WA R6
  have e9:(cJ 0 9).length=9:=rfl;rw[e9];generalize WD:kO a b 9=fits;have yL:fits.length≤9:=by rw[←WD];exact uX a b 9
  refine nE R6 (xs:=fits.map hO) (by simp) ?_
  have q1:dd (set ao 79 (.list (fits.map hO))) low blanks extra ah (cG (b5 ah j)):=q0.set (by simp)
  have r79:get (set ao 79 (.list (fits.map hO))) 79=some (.list (fits.map hO)):=gs;first|show aX _ _ _ _ _ _ _|show eh _ _ _ _ _ _ _|skip
  generalize set ao 79 (.list (fits.map hO))=Hl at *;have rf:=q1.f;unfold cG at rf;k_upd;refine zx ?_;k_upd;refine⟨_,Iter.list,?_⟩;have ec:cz Hl [79]=[(79,.list (fits.map hO))]:=by unfold cz;rw[r79];rfl
  rw[ec];have fZ:b5 ah (j+1)=(b5 ah j).flatMap fun f=>fits.flatMap fun p=>if p.1=f.getLastD [] then[f++[p.2]] else[]:=by
   rw[←WD];show Ju (b5 ah j) (ah.getD j 0) (ah.getD (j+1) 0)=_;rw[List.getD_eq_getElem?_getD,List.getD_eq_getElem?_getD,ha,hb]
   rfl
  let h:List (List Int)→List V:=fun f=>fits.flatMap fun p=>if p.1=f.getLastD [] then[cH (f++[p.2])] else[]
  have heq:(b5 ah j).flatMap h=(b5 ah (j+1)).map cH:=by
   rw[fZ,List.map_flatMap]
   congr 1
   funext f
   rw[List.map_flatMap];show fits.flatMap _=_
   congr 1
   funext p
   by_cases c:p.1=f.getLastD []
   ·rw[if_pos c,if_pos c];rfl
   ·rw[if_neg c,if_neg c];rfl
  refine dZ (M:=100) (J:=fun ao=>get ao 79=some (.list (fits.map hO))) cH h (fun f hf yJ acc K' hJ hM fP=>?_) rfl (by rw[heq,List.length_map];simp;omega) (fun yJ hJ=>?_)
  ·have hf:=Ht f hf
   have s79:get (set yJ 77 (cH f)) 79=some (.list (fits.map hO)):=gn hJ;have s77:get (set yJ 77 (cH f)) 77=some (.list (f.map fun c=>.list (c.map .int))):=gs;first|show aX _ _ _ _ _ _ _|show eh _ _ _ _ _ _ _|skip
   generalize set yJ 77 (cH f)=Mj at *;refine cR ?_;k_upd;refine⟨_,Iter.list,?_⟩;refine dZ (M:=100) (J:=fun ao=>get ao 77=some (.list (f.map fun c=>.list (c.map .int)))∧get ao 79=some (.list (fits.map hO))) hO (fun p=>if p.1=f.getLastD [] then[cH (f++[p.2])] else[]) (fun p hp Af WE K2 Jy Cc Fw=>?_) ⟨s77,s79⟩ hM (fun Af Jy=>fP _ Jy.2)
   have WG:get (set Af 78 (hO p)) 79=some (.list (fits.map hO)):=gn Jy.2;have WH:get (set Af 78 (hO p)) 77=some (.list (f.map fun c=>.list (c.map .int))):=gn Jy.1;have t78:get (set Af 78 (hO p)) 78=some (.tuple [.list (p.1.map .int),.list (p.2.map .int)]):=gs;first|show aX _ _ _ _ _ _ _|show eh _ _ _ _ _ _ _|skip
   generalize set Af 78 (hO p)=OX at *;refine kU ?_;k_upd;refine jz (v:=.list (p.1.map .int)) rfl (by decide) (.of (by simp)) ?_
   k_upd;have Ce:f.getLast?=some (f.getLastD []):=by
    rw[List.getLast?_eq_some_getLast hf.1,List.getLastD_eq_getLast?,List.getLast?_eq_some_getLast hf.1];rfl
   have aaf:0<f.length:=List.length_pos_iff.mpr hf.1;refine V_at (v:=.list ((f.getLastD []).map .int)) (by
    unfold cF;rw[if_pos (by decide),List.length_map,show(-1+(f.length:Int)).toNat=f.length-1 by omega,List.getElem?_map,←List.getLast?_eq_getElem?,Ce];rfl) (by rw[List.length_map];omega) (.of (by simp;omega)) ?_
   refine Ba (xg _ _) ?_
   by_cases c:p.1=f.getLastD []
   ·rw[decide_eq_true c]
    k_upd;refine jz (v:=.list (p.2.map .int)) rfl (by decide) (.of (by simp)) ?_
    k_upd;refine⟨.of (by simp),bK ?_⟩
    refine td ⟨by rw[sizeLine_eq];simp;omega⟩ ?_
    rw[if_pos c]at Cc Fw;have:=Fw OX ⟨WH,WG⟩;refine⟨.of (by simp at Cc;exact NZ Cc),?_⟩
    have e:cH (f++[p.2])=.list ((f.map fun c=>V.list (c.map .int))++[.list (p.2.map .int)]):=by unfold cH;rw[List.map_append];rfl
    rw[←e];exact this
   ·rw[decide_eq_false c]
    refine iB ?_;rw[if_neg c]at Cc Fw;have:=Fw OX ⟨WH,WG⟩;rw[List.append_nil]at this;exact this
  ·refine bK ?_
   rw[heq,List.nil_append];k_upd;have WI:dd (set Hl 74 (.list ((b5 ah (j+1)).map cH))) low blanks extra ah (cG (b5 ah (j+1))):=⟨gn q1.c,gn q1.l,gn q1.lo,gn q1.bl,gn q1.ex,gs⟩;have:=hK _ WI none;simpa using this
structure DJ(ah:List Nat):Prop where
 ne:0<ah.length
 le:ah.length≤5
 h0:1≤ah.getD 0 0∧ah.getD 0 0<3
 pair:∀j,j+1<ah.length→1≤ah.getD j 0∧ah.getD j 0<3∧1≤ah.getD (j+1) 0∧ah.getD (j+1) 0≤ah.getD j 0
 fs:∀j<ah.length,(∀f∈b5 ah j,f≠[]∧f.length≤10)∧(b5 ah j).length≤100
noncomputable def fillAll(ah:List Nat):List (List (List Int)):=b5 ah (ah.length-1)
theorem qU(hG:bx G){n:Nat}{O:Mu}{Q:V→Mu→Prop}{low blanks extra:Int}{ah:List Nat}(hl:DJ ah)(hU:lT low blanks extra)
  (q:Q (cG (fillAll ah)) O):aU G (n+5) (.ref 201) [.list (ah.map fun(n:Nat)=>V.int n),.int low,.int blanks,.int extra] [] O Q:=by
 refine yh hG (n:=n+4) (st:=Ad) (own:=sE) [(76,.list (ah.map fun(n:Nat)=>V.int n)),(70,.int low),(73,.int blanks),(88,.int extra)] (fun P ys ks B Z r rk=>?_) ?_
 ·refine aB.aO r ?_;intro y zz r1 r
  refine aB.aO r ?_;intro z zz r2 r;refine aB.aO r ?_;intro u zz r3 r;refine aB.aO r ?_;intro t zz r4 r;refine aB.bE r ?_;refine aB.bE rk ?_;exact⟨[y,z,u,t],.cons r1 (.cons r2 (.cons r3 (.cons r4 .nil))),fun S=>by kd_p⟩
 ·have a76:get (bc [] [(76,.list (ah.map fun(n:Nat)=>V.int n)),(70,.int low),(73,.int blanks),(88,.int extra)]) 76=some (.list (ah.map fun(n:Nat)=>V.int n)):=rfl
  have a70:get (bc [] [(76,.list (ah.map fun(n:Nat)=>V.int n)),(70,.int low),(73,.int blanks),(88,.int extra)]) 70=some (.int low):=rfl;have a73:get (bc [] [(76,.list (ah.map fun(n:Nat)=>V.int n)),(70,.int low),(73,.int blanks),(88,.int extra)]) 73=some (.int blanks):=rfl;have a88:get (bc [] [(76,.list (ah.map fun(n:Nat)=>V.int n)),(70,.int low),(73,.int blanks),(88,.int extra)]) 88=some (.int extra):=rfl;generalize bc [] [(76,.list (ah.map fun(n:Nat)=>V.int n)),(70,.int low),(73,.int blanks),(88,.int extra)]=my at *;have oq:cp (ah.map fun(n:Nat)=>V.int n).length:=.of (by have:=hl.le;simp;exact ag 1 0 (aa (ae ab (nk 5)) (ae ab aQ)) (by kd_p) this)
  have R9:∀ {j:Nat},j<ah.length→ah[j]?=some (ah.getD j 0):=by
   intro j h;rw[List.getD_eq_getElem?_getD,List.getElem?_eq_getElem h];rfl
  have Sa:=hl.h0;unfold Ad;repeat(first|kd_in|refine⟨gM.of (by decide),bK ?_⟩)
  rw[show V.list [V.list [],V.list [V.list [V.int 1],V.list [V.int 2],V.list [V.int 3]],V.list [V.list [V.int 1,V.int 2],V.list [V.int 1,V.int 3],V.list [V.int 2,V.int 3]]]=gR from rfl];have b86:get (set my 86 gR) 86=some gR:=gs;have b76:get (set my 86 gR) 76=some (.list (ah.map fun(n:Nat)=>V.int n)):=gn a76;have Rl:get (set my 86 gR) 70=some (.int low):=gn a70;have b73:get (set my 86 gR) 73=some (.int blanks):=gn a73;have b88:get (set my 86 gR) 88=some (.int extra):=gn a88;generalize set my 86 gR=a9 at *;k_upd;refine dE ?_;k_upd;refine V_at (i:=((0:Nat):Int)) (jN (R9 hl.ne)) (by exact ag 1 0 (ai (cI (az ab)) (az b6)) (by kd_p)) oq ?_
  show gg _ _ gR _ _ _;refine V_at (mY (by exact ag 1 0 (aa (aT (ae aC ab) (ak ab cm)) (lpo (ax ab aC) (ax ab gU))) (by kd_p) Sa)) (by unfold gq;simp) (.of (by decide)) ?_
  refine⟨_,Iter.list,?_⟩;refine dZ (M:=3) (J:=fun zz=>True) (fun c=>.list (c.map .int)) (fun c=>[cH [c]]) (fun c hc ao acc K' hJ hM fP=>?_) trivial ?_ (fun ao hJ=>?_)
  ·have s72:get (set ao 72 (.list (c.map .int))) 72=some (.list (c.map .int)):=gs
   first|show aX _ _ _ _ _ _ _|show eh _ _ _ _ _ _ _|skip
   generalize set ao 72 (.list (c.map .int))=Mj at *;refine cR ?_;k_upd;refine⟨.of (by simp),bK ?_⟩
   exact⟨.of (by simp at hM;exact ag 1 0 (aa (ae ab gU) (ae (aj ab aC) aQ)) (by kd_p) hM),fP Mj trivial⟩
  ·rw[Ac Sa.1 Sa.2];simp[List.range,List.range.loop]
  refine bK ?_;have e0:(V.list ([]++(gq.getD (ah.getD 0 0) []).flatMap fun c=>[cH [c]]))=cG (b5 ah 0):=by
   unfold cG b5;rw[List.nil_append,List.map_map]
   congr 1
   generalize gq.getD (ah.getD 0 0) []=l
   induction l with
   |nil=>rfl
   |cons x r ih=>rw[List.flatMap_cons,ih];rfl
  rw[e0];k_upd;have hF:dd (set a9 74 (cG (b5 ah 0))) low blanks extra ah (cG (b5 ah 0)):=⟨gn b86,gn b76,gn Rl,gn b73,gn b88,gs⟩;generalize set a9 74 (cG (b5 ah 0))=b9 at *;have f2:=hF.l;try refine gN ?_
  k_upd;refine cN oq.ok ?_;k_upd;refine oG ?_;rw[List.length_map];have hle:=hl.le;have fb:=hl.ne;refine⟨_,Iter.gE (eN (by decide) (by decide) (by exact ag 1 0 (aa (ae ab (nk 5)) (aa (ak b6 ab) (ai (zk (-1000000)) (az ab)))) (by kd_p) hle fb) (by exact ag 1 0 (aa (ae ab (nk 5)) (aa (ak b6 ab) (ai (az ab) (zk 1000000)))) (by kd_p) hle fb)),?_⟩
  have DK:(cJ 1 (ah.length:Int)).length=ah.length-1:=by unfold cJ;simp<;>omega
  refine dA (fun i ao ar=>dd ao low blanks extra ah (cG (b5 ah i))∧ar.take O.length=O) (fun i x ao ar k hx hJ jL kI vT=>?_) (fun ao ar hJ=>?_) ⟨hF,by simp⟩
  ·obtain⟨hJ,ht⟩:=hJ
   have hi:i<ah.length-1:=by rw[←DK];exact(List.getElem?_eq_some_iff.mp hx).1
   have yx:x=.int ((i+1:Nat):Int):=by
    unfold cJ at hx;rw[List.getElem?_map,List.getElem?_range (by exact ag 2 0 (aa (ae ab (nk 5)) (aa (ak b6 ab) (aa (ak af (bb ab aC)) (ak af (dB (bR (az ab) bV)))))) (by kd_p) hle fb hi)]at hx
    have:=Option.some.inj hx;rw[←this];have e:(1:Int)+(i:Int)=((i+1:Nat):Int):=by exact ag 1 0 (aS (bh bV (az ab)) (az (aj ab aC))) (by kd_p)
    exact congrArg V.int e
   subst yx;have hp:=hl.pair i (by exact GR hle fb hi)
   refine Cb hG (n:=n) hJ (R9 (by exact N0 hle fb hi)) (R9 (by exact GR hle fb hi)) hp.1 hp.2.1 hp.2.2.1 hp.2.2.2 (by exact ag 1 0 (aa (ae ab (nk 5)) (aa (ak b6 ab) (ae ab fe))) (by kd_p) hle fb) hU (hl.fs i (by exact N0 hle fb hi)).1 (hl.fs (i+1) (by exact GR hle fb hi)).2 fun fK hF' o=>jL _ _ ⟨hF',?_⟩
   rw[List.take_append_of_le_length,ht];have:=congrArg List.length ht;rw[List.length_take]at this;exact GN this
  ·obtain⟨hJ,ht⟩:=hJ
   rw[DK]at hJ;have f74:=hJ.f;k_upd;refine⟨_,.cl (.list fun x m=>?_),?_⟩
   ·refine aW (List.mem_map.mp m) ?_;intro f zz z1;subst z1
    exact .list fun y hy=>by refine aW (List.mem_map.mp hy) ?_;intro c zz z1;subst z1;exact jJ _
   ·rw[ht];exact q
theorem Ag{A:Around}{E:Value→Shared→Prop}{s:Shared}{Q:Bool→Shared→Prop}{B:ay}{Z:List Addr}{O:Mu}{xs ys:List Int}{x y:Value}(I:Inv G B Z O s.heap)(hx:VR B Z (.list (xs.map .int)) x)(hy:VR B Z (.list (ys.map .int)) y)(hu:A.units<cLine)(q:Q (fk xs ys) s):
  wpAny (model G.prog G.w) A (oneLt' true x y) Q E s:=by
 refine br (held I hx) ?_;intro a vs m z1;subst z1;intro g1 r1 e1;refine br (held I hy) ?_;intro a' us m' z1;subst z1;intro g2 r2 e2;refine aW (ints_of r1) ?_;intro jX z1;subst z1;intro z2;subst z2;refine aW (ints_of r2) ?_;intro Lu z1;subst z1;intro z2;subst z2;rw[oneLt'_eq];simp only[if_true];refine wpAny_bind (wpAny_cRoomFor hu ?_);refine wpAny_bind (wpAny_callSpecialIfBound?_slot (T:="list") ⟨_,g1,rfl⟩ F.slot_list_lt (call_meets F.slot_list_lt ⟨_,g1,rfl⟩ F.entry_list_lt (F.args_list_lt_2 _ _) (zE a a' jX Lu m m') ⟨g1,g2,?_⟩));show wpAny _ _ (truthOfDropped (.bool _)) Q E s;exact wpAny_truthy_bool q
noncomputable def v8(p q:List Int×Int):Bool:=if p.1=q.1 then decide (p.2<q.2) else fk p.1 q.1
noncomputable def bT(p:List Int×Int):V:=.tuple [.list (p.1.map .int),.int p.2]
theorem Fx{A:Around}{E:Value→Shared→Prop}{s:Shared}{Q:Bool→Shared→Prop}{B:ay}{Z:List Addr}{O:Mu}{p q:List Int×Int}{x y:Value}(I:Inv G B Z O s.heap)(hx:VR B Z (bT p) x)(hy:VR B Z (bT q) y)(hu:A.units+60<cLine)(h:Q (v8 p q) s):
  wpAny (model G.prog G.w) A (keyLt' (tuples' true) x y) Q E s:=by
 refine br (qq I hx) ?_;intro a vs m z1;subst z1;intro g1 r1 e1;refine br (qq I hy) ?_;intro a' us m' z1;subst z1;intro g2 r2 e2;revert g1 g2;refine aB.aO r1 ?_;intro v1 zz Mk r1;refine aB.aO r1 ?_;intro v2 zz WJ r1;refine aB.bE r1 ?_;refine aB.aO r2 ?_;intro u1 zz WK r2;refine aB.aO r2 ?_;intro u2 zz r22 r2;refine aB.bE r2 ?_;intro g1 g2;refine kat_lt g1 rfl g2 rfl ?_;show KatLex _ _ _ _ _ _ [(v1,u1),(v2,u2)] 0 s;have he:=(pB 50 (A:=A) (xg p.1 q.1) (by exact ag 2 0 (aa (ak (aj af (nk 60)) ab) (ak (aj af (nk 50)) ab)) (by kd_p) hu) I Mk WK).1
 refine kat_cons (he _ _ _ _ ?_);unfold v8 at h
 by_cases c:p.1=q.1
 ·rw[decide_eq_true c]
  rw[if_pos c]at h;refine kat_yes ?_;refine VR.bC WJ ?_;intro zz;refine VR.bC r22 ?_;intro zz;refine kat_cons (wpAny_eqBool_int ?_)
  by_cases z:p.2=q.2
  ·rw[show(p.2==q.2)=true by simpa using z]
   rw[show decide (p.2<q.2)=false by simp[z]]at h
   exact kat_yes (kat_nil h)
  ·rw[show(p.2==q.2)=false by simpa using z]
   exact kat_no (kat_one _ _ (uj h))
 ·rw[decide_eq_false c]
  rw[if_neg c]at h;refine kat_no ?_;exact Ag I Mk WK (by exact ag 2 0 (aa (ak (aj af (nk 60)) ab) (ak af ab)) (by kd_p) hu) h
theorem pZ{cmp:Nat→Nat→(Bool→Shared→Prop)→Shared→Prop}{s:Shared}{p:Array Nat}{Q:Nat→Shared→Prop}:∀ (f n:Nat),(∀i,n≤i→i<n+f→∀C:Bool→Shared→Prop,C false s→cmp (p.getD i 0) (p.getD (i-1) 0) C s)→Q (n+f) s→(kas_asc p f n).kasWp cmp Q s
 |0,n,h,q=>q
 |f+1,n,h,q=>by
  refine h n (Nat.le_refl _) (by exact ag 2 0 (ak af (aj af (aj ab aC))) (by kd_p)) _ ?_
  show(kas_asc p f (n+1)).kasWp cmp Q s;refine pZ f (n+1) (fun i h1 h2=>h i (by exact Pu h1) (by exact ag 3 0 (aa (ak au (aj (aj af aC) ab)) (ak au (aj af (aj ab aC)))) (by kd_p) h2)) ?_
  rw[show n+1+f=n+(f+1) by exact N1];exact q
theorem sQ{cmp:Nat→Nat→(Bool→Shared→Prop)→Shared→Prop}{s:Shared}{n:Nat}{Q:Array Nat→Shared→Prop}(h1:1≤n)(h:∀i,i+1<n→∀C:Bool→Shared→Prop,C false s→cmp (i+1) i C s)
  (q:Q (List.toArray (List.range n)) s):(kas_sort n).kasWp cmp Q s:=by
 unfold kas_sort;rw[KasT.kasWp_bind];unfold kas_count;rw[KasT.kasWp_bind];have hp:∀i,i<n→(List.toArray (List.range n)).getD i 0=i:=by
  intro i hi;simp[Array.getD,hi]
 refine pZ (n-1) 1 (fun i h2 h3 C hC=>?_) ?_
 ·rw[hp i (by exact ag 2 0 (aa (ae aC ab) (aa (ak af (aj aC (bb ab aC))) (ak af ab))) (by kd_p) h1 h3),hp (i-1) (by exact ag 2 0 (aa (ae aC ab) (aa (ae aC af) (aa (ak af (aj aC (bb ab aC))) (ak (bb af aC) ab)))) (by kd_p) h1 h2 h3)]
  have:=h (i-1) (by exact ag 2 0 (aa (ae aC ab) (aa (ae aC af) (aa (ak af (aj aC (bb ab aC))) (ak (aj (bb af aC) aC) ab)))) (by kd_p) h1 h2 h3) C hC
  rw[show i-1+1=i by exact ag 1 0 (aa (ae aC ab) (ax (aj (bb ab aC) aC) ab)) (by kd_p) h2]at this
  exact this
 ·rw[show 1+(n-1)=n by exact ag 1 0 (aa (ae aC ab) (ax (aj aC (bb ab aC)) ab)) (by kd_p) h1]
  simp only[beq_self_eq_true,if_true];show(if n<n then _ else KasT.ret _).kasWp cmp Q s
  rw[if_neg (Nat.lt_irrefl _)];exact q
theorem take_all{Z aH:List Addr}(p:Z <+: aH)(e:Z.length=aH.length):aH=Z:=by
 obtain⟨t,rfl⟩:=p;have:t=[]:=by
  have:=e;rw[List.length_append]at this;exact List.eq_nil_of_length_eq_zero (by exact ag 2 0 (aa (ax ab (aj ab af)) (ax af b6)) (by kd_p) this)
 rw[this,List.append_nil]
structure tj(G:dn)(B:ay)(Z:List Addr)(O:Mu)(s0:Shared)(D kS e1:Nat)(keys:List V)(B':ay)(s:Shared):Prop where
 post:aG G [D,kS] B Z s0 B' Z O s
 d:s.heap.get? D=some (lobj [] e1)
 k:∃ks e,s.heap.get? kS=some (lobj ks e)∧aB B' Z keys ks
 od:Off B' Z D
 ok:Off B' Z kS
theorem uZ{A:Around}{E:Value→Shared→Prop}{P:PySem.Fin→Shared→Prop}{B B':ay}{Z:List Addr}{O:Mu}{s0 s:Shared}{D kS e1:Nat}{keys:List V}{vs:List Value}{st:SortSt}(fb:D≠kS)(h:tj G B Z O s0 D kS e1 keys B' s)(hz:vs.length<64)(zL:keys.length<64)
  (Sb:(arrOf st).map (·.2)=vs.toArray)(hf:failedOf st=none)
  (q:∀s' c,aG G [D,kS] B Z s0 B' Z O s'→s'.heap.get? D=some (lobj vs c)→P (.done (.ret .none)) s'):
  wpAny (model G.prog G.w) A (ksk_tail D false e1 (.ref kS) st) P E s:=by
 refine j0 h.k ?_;intro ks e hk rk;have gW:ks.length<64:=by rw[←rk.1];exact zL
 unfold ksk_tail;try dsimp only
 rw[Sb];have s1:=Heap.SameBut.update s.heap kS (Obj.mapSeq fun zz=>(#[]:Array Value));have g1:(s.heap.update kS (Obj.mapSeq fun zz=>(#[]:Array Value))).get? D=some (lobj [] e1):=(s1.2 D fb).trans h.d;have g2:∃ck,(s.heap.update kS (Obj.mapSeq fun zz=>(#[]:Array Value))).get? kS=some (seqObj "list" #[] ck):=⟨_,get?_update_seq hk fun zz=>#[]⟩;obtain⟨ck,g2⟩:=g2;have P1:=Inv.pz (W:=[D,kS]) (s:=s) (tk:=s.toks) (h':=s.heap.update kS (Obj.mapSeq fun zz=>(#[]:Array Value))) h.post.inv (.tail _ (.head _)) h.ok (fun b o hb g=>(s1.2 b hb).trans g) ⟨_,g2⟩ h.post.bL;have s2:=Heap.SameBut.update (s.heap.update kS (Obj.mapSeq fun zz=>(#[]:Array Value))) D (Obj.mapSeq fun zz=>vs.toArray);have g3:∃c,((s.heap.update kS (Obj.mapSeq fun zz=>(#[]:Array Value))).update D (Obj.mapSeq fun zz=>vs.toArray)).get? D=some (lobj vs c):=⟨_,get?_update_seq g1 fun zz=>vs.toArray⟩;obtain⟨c,g3⟩:=g3;have P2:=Inv.pz (W:=[D,kS]) (s:={s with heap:=s.heap.update kS (Obj.mapSeq fun zz=>(#[]:Array Value)),toks:=s.toks}) (tk:=s.toks) (h':=(s.heap.update kS (Obj.mapSeq fun zz=>(#[]:Array Value))).update D (Obj.mapSeq fun zz=>vs.toArray)) P1.inv (.head _) h.od (fun b o hb g=>(s2.2 b hb).trans g) ⟨_,g3⟩ P1.bL
 refine wpAny_bind (listUpdate_at hk rfl ?_ (by rw[List.size_toArray,sizeLine_eq];exact ag 1 0 (aa (ak ab eg) (ae ab bq)) (by kd_p) gW) (Nat.zero_le _))
 refine wpAny_bind (wpAny_letGo ?_);refine wpAny_bind (seqEpoch_at g1 rfl ?_);refine wpAny_bind (listUpdate_at g1 rfl ?_ (Nat.zero_le _) (by simp only[Bool.false_eq_true,if_false];rw[List.size_toArray,sizeLine_eq];exact ag 1 0 (aa (ak ab eg) (ae ab (aj bq aC))) (by kd_p) hz))
 rw[hf];simp only[bne_self_eq_false,Bool.false_eq_true,if_false];exact wpAny_pure (q _ c ((h.post.trans P1).trans P2) g3)
theorem ox{B:ay}{Z:List Addr}{O:Mu}{h:Heap}(I:Inv G B Z O h):∀ {ps:List (List Int×Int)} {ks:List Value},aB B Z (ps.map bT) ks→∃fs,KatTups h ks fs∧fs.length=ks.length∧∀v∈fs,∃a vs n,v=.ref a∧h.get? a=some (lobj vs n)
 |[],ks,r=>by
  rw[r.fg];exact⟨[],.nil,rfl,fun zz m=>nomatch m⟩
 |p::ps,ks,r=>by
  refine aB.aO r ?_;intro v vs r1 r;refine gJ (ox I r) ?_;intro fs t hl hf;refine br (qq I r1) ?_;intro a us m z1;subst z1;intro g1 r2 e1;revert g1;refine aB.aO r2 ?_;intro v1 zz Mk r2;refine aB.aO r2 ?_;intro v2 zz WJ r2;refine aB.bE r2 ?_;intro g1;refine br (held I Mk) ?_;intro b ws k z1;subst z1;intro g2 zz zz;refine⟨.ref b::fs,.cons g1 rfl rfl rfl t,by simp[hl],fun v m=>?_⟩
  rcases List.mem_cons.mp m with rfl|m
  ·exact⟨b,ws,k,rfl,g2⟩
  ·exact hf v m
theorem Fy{A:Around}(hu:A.units+60<cLine){E:Value→Shared→Prop}{P:PySem.Fin→Shared→Prop}{B B':ay}{Z:List Addr}{O:Mu}{s0 s:Shared}{D kS e1:Nat}{ps:List (List Int×Int)}{vs:List Value}(fb:D≠kS)(h:tj G B Z O s0 D kS e1 (ps.map bT) B' s)
  (hl:ps.length=vs.length)(h1:1≤vs.length)(hz:vs.length<64)(hs:∀i p q,ps[i]?=some p→ps[i+1]?=some q→v8 q p=false){ks:List Value}(e:Nat)(hk:s.heap.get? kS=some (lobj ks e))(rk:aB B' Z (ps.map bT) ks)
  (q:∀s' c,aG G [D,kS] B Z s0 B' Z O s'→s'.heap.get? D=some (lobj vs c)→P (.done (.ret .none)) s'):
  wpAny (model G.prog G.w) A (ksk_end D false vs.toArray e1 (.ref kS) ks.toArray) P E s:=by
 have gW:ks.length=vs.length:=by rw[←hl,←List.length_map (f:=bT) (as:=ps)];exact rk.1.symm
 have zL:(ps.map bT).length<64:=by rw[List.length_map];exact ag 3 0 (aa (ax au af) (aa (ae aC af) (aa (ak af eg) (aa (ax ab af) (ak au eg))))) (by kd_p) hl h1 hz gW
 unfold ksk_end;try dsimp only
 simp only[Bool.false_eq_true,if_false]
 by_cases h2:vs.toArray.size<2
 ·rw[if_pos h2,if_pos h2]
  refine wpAny_bind (wpAny_pure ?_);refine wpAny_bind (wpAny_pure ?_);try dsimp only
  refine uZ fb h hz zL ?_ rfl q;show(ks.toArray.zip vs.toArray).map (·.2)=vs.toArray
  apply Array.toList_inj.mp;rw[Array.toList_map,ksk_zip];rw[List.toList_toArray];exact List.map_snd_zip (by exact ag 2 0 (aa (ax ab af) (ae af ab)) (by kd_p) gW)
 ·rw[if_neg h2,if_neg h2]
  have WL:2≤vs.length:=by rw[List.size_toArray]at h2;exact ag 2 0 (aa (ae aC af) (aa (ak af eg) (aa (ax ab af) (aa (dJ (ak af gU)) (ae gU af))))) (by kd_p) h1 hz gW h2
  refine gJ (ox h.post.inv rk) ?_;intro fs t yL Q3;refine wpAny_bind (kat_kind (T:=.type "list") t (by exact ag 3 0 (aa (ae aC af) (aa (ak af eg) (aa (ax ab af) (aa (ae gU af) (aa (ax au ab) (ak b6 au)))))) (by kd_p) h1 hz gW WL yL) (fun v m=>?_) (by decide) ?_)
  ·refine oz (Q3 v m) ?_;intro a us m z1;subst z1;intro g
   exact(Looks.ld g).andThen .now
  ·have hb:((Value.type "list") !=Value.type "tuple")=true:=by decide
   rw[hb];refine wpAny_bind (wpAny_mono (kat_run (ks:=ks) (vs:=vs) (Q:=fun st' s'=>s'=s∧arrOf st'=(List.toArray (List.range vs.length)).map (kas_item (ks.toArray.zip vs.toArray))∧failedOf st'=none) (G:=fun p s'=>s'=s∧p=List.toArray (List.range vs.length)) gW WL hz (fun p st' s' a1 a2 a3 a4=>⟨a4.1,by rw[a2,a4.2],a3⟩)
    (sQ h1 (fun i hi C hC=>?_) ⟨rfl,rfl⟩)) ?_ fun zz zz x=>x)
   ·unfold kas_ask
    have WM:i<ps.length:=by exact ag 5 0 (aa (ax aM au) (aa (ax af au) (aa (ax ab af) (aa (ak (aj de aC) au) (ak de aM))))) (by kd_p) hl gW yL hi
    have kF:i+1<ps.length:=by exact ag 5 0 (aa (ax aM au) (aa (ax af au) (aa (ax ab af) (aa (ak (aj de aC) au) (ak (aj de aC) aM))))) (by kd_p) hl gW yL hi
    have get:∀j,(hj:j<ps.length)→VR B' Z (bT ps[j]) (ks.getD j Value.none):=by
     intro j hj;have hj':j<ks.length:=by exact ag 5 0 (aa (ax au af) (aa (ax aM af) (aa (ax ab aM) (aa (ak de au) (ak de aM))))) (by kd_p) hl gW yL hj
     refine rk.2 j _ _ ?_ ?_
     ·rw[List.getElem?_map,List.getElem?_eq_getElem hj];rfl
     ·simp[hj']
    exact Fx h.post.inv (get (i+1) kF) (get i WM) hu (by rw[hs i _ _ (List.getElem?_eq_getElem WM) (List.getElem?_eq_getElem kF)];exact hC)
   ·rintro⟨⟨⟩,st'⟩ s' ⟨rfl,Sb,hf⟩
    try dsimp only
    refine uZ fb h hz zL ?_ hf q;rw[kat_snds gW Sb]
    congr 1
    apply List.ext_getElem?;intro j;rw[List.toList_toArray,List.getElem?_map]
    by_cases hj:j<vs.length
    ·rw[List.getElem?_range hj,List.getElem?_eq_getElem hj]
     simp[hj]
    ·rw[List.getElem?_eq_none (by simp;exact N2 gW yL hj),List.getElem?_eq_none (by exact N2 gW yL hj)]
     rfl
theorem aB.snoc{B:ay}{Z:List Addr}{xs:List V}{vs:List Value}{v:V}{x:Value}(h:aB B Z xs vs)(r:VR B Z v x):aB B Z (xs++[v]) (vs++[x]):=by
 refine⟨by simp[h.1],fun i a b p q=>?_⟩
 by_cases hi:i<xs.length
 ·rw[List.getElem?_append_left hi]at p
  rw[List.getElem?_append_left (by rw[←h.1];exact hi)]at q
  exact h.2 i a b p q
 ·have kF:i=xs.length:=by
   have:=(List.getElem?_eq_some_iff.mp p).1;simp at this;exact ag 2 0 (aa (dJ (ak af ab)) (aa (ak af (aj ab aC)) (ax af ab))) (by kd_p) hi this
  subst kF;simp at p;rw[h.1]at q;simp at q;subst p;subst q;exact r
theorem Cf{A:Around}{n:Nat}(hA:bY n A)(hu:A.units+60<cLine){E:Value→Shared→Prop}{P:PySem.Fin→Shared→Prop}{B:ay}{Z:List Addr}{O:Mu}{s0 s:Shared}{D kS e1:Nat}{ps:List (List Int×Int)}{xs:List V}{vs:List Value}{f:Value}{fv:V}(fb:D≠kS)(h:tj G B Z O s0 D kS e1 [] B s)
  (U8:s.heap.get? kS=some (lobj [] 0))(rf:VR B Z fv f)(rx:aB B Z xs vs)(hl:ps.length=vs.length)(h1:1≤vs.length)(hz:vs.length<64)(hs:∀ (i:Nat) p q,ps[i]?=some p→ps[i+1]?=some q→v8 q p=false)
  (Cg:∀ (i:Nat) v p,xs[i]?=some v→ps[i]?=some p→∀B Z s f x,Inv G B Z O s.heap→VR B Z fv f→VR B Z v x→wpAny (model G.prog G.w) A (call f [x]) (PV G B Z s fun u ar=>u=bT p∧ar=O) bM s)
  (q:∀s' c B',aG G [D,kS] B Z s0 B' Z O s'→Off B' Z D→s'.heap.get? D=some (lobj vs c)→P (.done (.ret .none)) s'):
  wpAny (model G.prog G.w) A (ksk_rest D f false vs.toArray e1 (.ref kS)) P E s:=by
 unfold ksk_rest;refine wpAny_bind (wpAny_rule ?_);rw[List.forIn_toArray];refine wpAny_bind (ksk_fold (fun j s'=>∃B',tj G B Z O s0 D kS e1 ((ps.take j).map bT) B' s') vs 0 s ⟨B,by simpa using h⟩ (fun j x s1 hx hJ=>?_) fun s' hJ=>?_)
 ·obtain⟨B1,K⟩:=hJ
  rw[Nat.zero_add]at K ⊢;have hj:j<vs.length:=(List.getElem?_eq_some_iff.mp hx).1;have WN:j<ps.length:=by exact N3 hl hj
  have Jl:j<xs.length:=by rw[rx.1];exact hj
  have rv:VR B Z xs[j] x:=rx.2 j _ _ (List.getElem?_eq_getElem Jl) hx;refine j0 K.k ?_;intro ks e hk rk;refine wpAny_bind (wpAny_attempt (wpAny_mono (Cg j _ _ (List.getElem?_eq_getElem Jl) (List.getElem?_eq_getElem WN) B1 Z s1 f x K.post.inv (rf.mono K.post.le (List.prefix_refl _)) (rv.mono K.post.le (List.prefix_refl _))) (fun k' s2 gL=>?_) fun zz zz hF=>hF.elim));obtain⟨u,ar,B2,aV,⟨rfl,rfl⟩,P2,r2⟩:=gL;have Jz:aV=Z:=take_all P2.pre (by rw[K.post.inv.len,P2.inv.len])
  subst Jz;have OY:s2.heap.get? kS=some (lobj ks e):=P2.kept hk (by simp) K.ok.2.1 K.ok.2.2
  have hD2:s2.heap.get? D=some (lobj [] e1):=P2.kept K.d (by simp) K.od.2.1 K.od.2.2
  have od2:Off B2 aV D:=K.od.step P2 ⟨_,K.d⟩;have WO:Off B2 aV kS:=K.ok.step P2 ⟨_,hk⟩;have WQ:=P2.widen (W:=[D,kS]) (fun a m=>by
   simp only[List.mem_cons,List.not_mem_nil,or_false]at m;rcases m with rfl|rfl
   ·exact⟨_,K.d⟩
   ·exact⟨_,hk⟩) (fun a m=>by
   simp only[List.mem_cons,List.not_mem_nil,or_false]at m;rcases m with rfl|rfl
   ·exact K.od.2.1
   ·exact K.ok.2.1) (fun a m=>by
   simp only[List.mem_cons,List.not_mem_nil,or_false]at m;rcases m with rfl|rfl
   ·exact K.od.2.2
   ·exact K.ok.2.2)
  have gW:ks.length=j:=by rw[←rk.1,List.length_map,List.length_take];exact ag 3 0 (aa (ax af ab) (aa (ak au ab) (ax (jS au af) au))) (by kd_p) hl hj
  have ea:(List.toArray ks).push k'=List.toArray (ks++[k']):=by simp
  have sb:=Heap.SameBut.update s2.heap kS (Obj.mapSeq (·.push k'))
  obtain⟨c2,Jq⟩:∃c2,(s2.heap.update kS (Obj.mapSeq (·.push k'))).get? kS=some (lobj (ks++[k']) c2):=⟨_,by
   have:=get?_update_seq OY (·.push k')
   rw[ea]at this;exact this⟩
  have P3:=Inv.pz (W:=[D,kS]) (s:=s2) (tk:=s2.toks) (h':=s2.heap.update kS (Obj.mapSeq (·.push k'))) P2.inv (.tail _ (.head _)) WO (fun b o hb g=>(sb.2 b hb).trans g) ⟨_,Jq⟩ WQ.bL
  try dsimp only
  refine wpAny_bind (listUpdate_at OY rfl ?_ (by rw[List.size_toArray,sizeLine_eq];exact ag 3 0 (aa (ae aC af) (aa (ak af eg) (aa (ak ab af) (aa (ax au ab) (ae au bq))))) (by kd_p) h1 hz hj gW) (Nat.le_trans (Nat.le_of_eq (Array.size_push ..)) (by rw[List.size_toArray,sizeLine_eq];exact ag 3 0 (aa (ae aC af) (aa (ak af eg) (aa (ak ab af) (aa (ax au ab) (ae (aj au aC) (aj bq aC)))))) (by kd_p) h1 hz hj gW)))
  refine wpAny_pure ⟨rfl,B2,(K.post.trans WQ).trans P3,(sb.2 D fb).trans hD2,⟨_,c2,Jq,?_⟩,od2,WO⟩;have et:(ps.take (j+1)).map bT=(ps.take j).map bT++[bT ps[j]]:=by
   rw[List.take_succ,List.getElem?_eq_getElem WN,List.map_append];rfl
  rw[et];exact aB.snoc (rk.mono P2.le (List.prefix_refl _)) r2
 ·obtain⟨B',K⟩:=hJ
  rw[Nat.zero_add,←hl,List.take_length]at K;refine j0 K.k ?_;intro ks e hk rk;try dsimp only
  refine wpAny_bind (listItems_at hk rfl ?_);exact Fy hu fb K hl h1 hz hs e hk rk fun s' c P' g=>q s' c B' P' K.od g
theorem Ci{n:Nat}{O:Mu}{Q:V→Mu→Prop}{ps:List (List Int×Int)}{xs:List V}{fv:V}(hl:ps.length=xs.length)(h1:1≤xs.length)(hz:xs.length<64)(hc:∀x∈xs,Cl x)(hs:∀ (i:Nat) p q,ps[i]?=some p→ps[i+1]?=some q→v8 q p=false)
  (hf:∀B Z f,VR B Z fv f→∃a,f=.ref a)
  (Cg:∀ (i:Nat) v p,xs[i]?=some v→ps[i]?=some p→∀A,bY n A→∀B Z s f x,Inv G B Z O s.heap→VR B Z fv f→VR B Z v x→wpAny (model G.prog G.w) A (call f [x]) (PV G B Z s fun u ar=>u=bT p∧ar=O) bM s)
  (q:Q (.list xs) O):aU G (n+4) (.builtin "sorted") [.list xs] [("key",fv)] O Q:=by
 intro A hA B Z s as ks I rv rk;refine aB.aO rv ?_;intro x zz rx rv;refine aB.bE rv ?_;refine aB.aO rk ?_;intro f zz rf rk;refine aB.bE rk ?_;obtain⟨fa,rfl⟩:=hf _ _ _ rf;refine br (held I rx) ?_;intro l vs m z1;subst z1;intro g1 r1 e1;have Cj:vs.length=xs.length:=r1.1.symm;have vV:bY n A.in1.in1:=(bY.in1 (bY.in1 (hA.le (n':=n+2) (by exact ag 1 0 (ae (aj ab gU) (aj ab (nk 4))) (by kd_p)))))
 have EW:A.in1.in1.units+60<cLine:=by have:=(hA.units);show A.units+1+1+60<cLine;unfold cLine;exact ag 2 0 (aa (ae (aj af (cZ 16 (aj ab (nk 4)))) c9) (ak (aj (aj (aj af aC) aC) (nk 60)) (nk 9900))) (by kd_p) this
 show wpAny _ _ (call (.builtin "sorted") [.ref l] [(Str.ofString "key",.ref fa)]) _ _ _;refine call_function_entry_kw kind_sorted plain_sorted entry_sorted (ksk_s1 _ _) ?_;unfold Builtin.«sorted»;refine wpAny_bind (m:=checkCount "sorted" 1 1 _) (wpAny_pure ?_);refine wpAny_bind (collect_list (vs:=vs) ⟨_,g1,rfl,m,rfl⟩ ?_ (by rw[sizeLine_eq];exact CY h1 hz Cj))
 refine wpAny_bind (wpAny_newList ?_ (by rw[sizeLine_eq];exact CY h1 hz Cj))
 have bG:((s.heap.push (seqObj "list" #[] 0)).update s.heap.objs.size (Obj.mapSeq (· ++ vs.toArray))).objs.size=s.heap.objs.size+1:=by
  rw[Heap.size_update,size_push']
 have Ml:(((s.heap.push (seqObj "list" #[] 0)).update s.heap.objs.size (Obj.mapSeq (· ++ vs.toArray))).push (seqObj "list" vs.toArray 0)).get? (s.heap.objs.size+1)=some (seqObj "list" vs.toArray 0):=by
  rw[←bG];exact Heap.get?_push_size _ rfl
 have keep:∀b o,s.heap.get? b=some o→(((s.heap.push (seqObj "list" #[] 0)).update s.heap.objs.size (Obj.mapSeq (· ++ vs.toArray))).push (seqObj "list" vs.toArray 0)).get? b=some o:=fun b o q=>by
  have bA:b<s.heap.objs.size:=Heap.lt_size q;rw[Heap.get?_push_ne _ _ _ (by rw[bG];exact Nat.ne_of_lt (Nat.lt_succ_of_lt bA)),Heap.get?_update_ne _ _ _ _ (Nat.ne_of_lt bA),Heap.get?_push_ne _ _ _ (Nat.ne_of_lt bA)]
  exact q
 have nD:s.heap.get? (s.heap.objs.size+1)=none:=Heap.get?_none_of_le (Nat.le_succ _);have nS:s.heap.get? (s.heap.objs.size+3)=none:=Heap.get?_none_of_le (Nat.le_add_right _ 3);show wpAny _ _ _ _ _ {s with heap:=((s.heap.push (seqObj "list" #[] 0)).update s.heap.objs.size (Obj.mapSeq (· ++ vs.toArray))).push (seqObj "list" vs.toArray 0)}
 rw[bG];have WR:(((s.heap.push (seqObj "list" #[] 0)).update s.heap.objs.size (Obj.mapSeq (· ++ vs.toArray))).push (seqObj "list" vs.toArray 0)).objs.size=s.heap.objs.size+2:=by rw[size_push',bG]
 generalize hhA:((s.heap.push (seqObj "list" #[] 0)).update s.heap.objs.size (Obj.mapSeq (· ++ vs.toArray))).push (seqObj "list" vs.toArray 0)=jU at *
 refine wpAny_bind (wpAny_holding (wpAny_call_entry_kw slot_list_sort ⟨_,Ml,rfl⟩ entry_list_sort ?body (ksk_l1 _ _)))
 case body=>
  show wpAny (model G.prog G.w) A.in1.in1 (Builtin.«list.sort» ⟨[.ref (s.heap.objs.size+1)],[(Str.ofString "key",.ref fa)]⟩) _ _ _;rw[ksk_t1];unfold ksk_tree;have s1:=Heap.SameBut.update jU (s.heap.objs.size+1) (Obj.mapSeq fun zz=>(#[]:Array Value));obtain⟨WS,WU⟩:∃e1,(jU.update (s.heap.objs.size+1) (Obj.mapSeq fun zz=>(#[]:Array Value))).get? (s.heap.objs.size+1)=some (lobj [] e1):=⟨_,get?_update_seq Ml fun zz=>#[]⟩;have OZ:((jU.update (s.heap.objs.size+1) (Obj.mapSeq fun zz=>(#[]:Array Value))).push (seqObj "tuple" vs.toArray 0)).objs.size=s.heap.objs.size+3:=by rw[size_push',Heap.size_update,WR]
  have JA:∀b o,s.heap.get? b=some o→(((jU.update (s.heap.objs.size+1) (Obj.mapSeq fun zz=>(#[]:Array Value))).push (seqObj "tuple" vs.toArray 0)).push (seqObj "list" #[] 0)).get? b=some o:=fun b o q=>by
   have fb:b≠s.heap.objs.size+1:=Nat.ne_of_lt (Nat.lt_succ_of_lt (Heap.lt_size q));exact Heap.get?_push_of_some _ (Heap.get?_push_of_some _ ((s1.2 b fb).trans (keep b o q)))
  have WV:(((jU.update (s.heap.objs.size+1) (Obj.mapSeq fun zz=>(#[]:Array Value))).push (seqObj "tuple" vs.toArray 0)).push (seqObj "list" #[] 0)).get? (s.heap.objs.size+1)=some (lobj [] WS):=Heap.get?_push_of_some _ (Heap.get?_push_of_some _ WU);have Sd:(((jU.update (s.heap.objs.size+1) (Obj.mapSeq fun zz=>(#[]:Array Value))).push (seqObj "tuple" vs.toArray 0)).push (seqObj "list" #[] 0)).get? (s.heap.objs.size+3)=some (lobj [] 0):=by
   rw[←OZ];exact Heap.get?_push_size _ rfl
  refine wpAny_bind (listItems_at Ml rfl ?_);refine wpAny_bind (listUpdate_at Ml rfl ?_ (by rw[List.size_toArray,sizeLine_eq];exact CY h1 hz Cj) (Nat.zero_le _))
  refine wpAny_bind (seqEpoch_at WU rfl ?_);refine wpAny_bind (wpAny_newTuple ?_ (by show vs.length≤_;rw[sizeLine_eq];exact CY h1 hz Cj))
  refine wpAny_bind (wpAny_newList ?_ (Nat.zero_le _));refine wpAny_holding ?_;show wpAny _ _ (ksk_rest (s.heap.objs.size+1) (.ref fa) false vs.toArray WS (.ref ((jU.update (s.heap.objs.size+1) (Obj.mapSeq fun zz=>(#[]:Array Value))).push (seqObj "tuple" vs.toArray 0)).objs.size)) _ _ {s with heap:=((jU.update (s.heap.objs.size+1) (Obj.mapSeq fun zz=>(#[]:Array Value))).push (seqObj "tuple" vs.toArray 0)).push (seqObj "list" #[] 0)}
  rw[OZ];have I2:=I.keeps JA;have P0:aG G [s.heap.objs.size+1,s.heap.objs.size+3] B Z s B Z O {s with heap:=((jU.update (s.heap.objs.size+1) (Obj.mapSeq fun zz=>(#[]:Array Value))).push (seqObj "tuple" vs.toArray 0)).push (seqObj "list" #[] 0)}:=
   ⟨.refl _,List.prefix_refl _,I2,fun b o zz e=>JA b o e,fun a m=>by
    simp only[List.mem_cons,List.not_mem_nil,or_false]at m;rcases m with rfl|rfl
    ·exact⟨_,WV⟩
    ·exact⟨_,Sd⟩,.heap,fun zz h=>.inl h,fun zz h=>.inl h⟩
  refine Cf vV EW (B:=B) (s0:=s) (fun h=>by have:s.heap.objs.size+1=s.heap.objs.size+3:=h;omega) ⟨P0,WV,⟨[],0,Sd,.nil⟩,I.off nD,I.off nS⟩ Sd rf r1 (by exact ag 3 0 (aa (ax au ab) (aa (ax af ab) (ax au af))) (by kd_p) hl Cj) (by exact ag 2 0 (aa (ae aC ab) (aa (ak ab eg) (aa (ax af ab) (ae aC af)))) (by kd_p) h1 hz Cj) (by exact ag 2 0 (aa (ae aC ab) (aa (ak ab eg) (aa (ax af ab) (ak af eg)))) (by kd_p) h1 hz Cj) hs (fun i v p hv hp=>Cg i v p hv hp _ vV) (fun s' c B' P' od g=>?_)
  refine⟨_,rfl,wpAny_pure ⟨_,rfl,?_⟩⟩;have P2:=P'.qm (fun a m=>by
   simp only[List.mem_cons,List.not_mem_nil,or_false]at m;rcases m with rfl|rfl
   ·exact nD
   ·exact nS)
  refine tD (dg.out (m:=false) (Q:=Q) q P2 nD od g (r1.mono P2.le (List.prefix_refl _))) ?_;intro v cU mx j4 q' P3 r3 zz zz;exact⟨v,cU,mx,j4,q',P3,r3⟩
theorem u5{cells:List (Str×Addr)}:∀ (l:List (Str×NameKind)),(∀p∈l,p.2≠.free)→cL cells l []=[]
 |[],_=>rfl
 |p::r,h=>by
  have h1:=h p (.head _);have h2:=u5 (cells:=cells) r fun q m=>h q (.tail _ m);obtain⟨n,k⟩:=p;unfold cL;rw[if_neg (by cases k<;>simp_all [BEq.beq])]
  exact h2
noncomputable abbrev JB(q:Str)(params:Arguments)(body:Expr)(scope:Scope):FuncData:=kla_fn "<lambda>" q params body scope [] .none .none .none
theorem Se(hG:bx G){n:Nat}{env:Env}{U:aw}{O:Mu}{Q:V→Mu→Prop}{as:List Arg}{body:Expr}{scope:Scope}{pos:Pos}{P:Nat}{q:Str}{c:Addr}
  (E:jf P pos.line pos.col q)(gm:env.code=.ref c)(jG:codeHdIn G.K c P=true)(hq:env.qual++"<lambda>"=q)
  (lr:∀p∈scope.names,p.2≠.free)
  (h:Q (.fn (JB q ⟨[],as,none,[],[],none,[]⟩ body scope)) O):
  bz G n env (eval (.Lambda ⟨[],as,none,[],[],none,[]⟩ body scope pos) env) U O Q:=by
 intro A hA B Z s I F;show wpAny _ _ (do
  let dv ←evalAll []
  let kdv ←holding dv (evalAllOpt [])
  makeFunction "<lambda>" (env.qual++"<lambda>") ⟨[],as,none,[],[],none,[]⟩ (.expr body) scope env dv kdv [] pos pos.line) _ _ _
 refine wpAny_bind (wpAny_pure ?_);refine wpAny_bind (wpAny_holding (wpAny_pure ?_));rw[hq];refine LD hG E F.gl gm jG ?_ I h;have:=jt (env:=env) (scope:=scope) fun p hp hf=>absurd hf (lr p hp);rw[this]
 congr 1
 exact u5 _ lr
theorem Fz{n:Nat}{A:Around}(hA:bY (n+1) A){fd:FuncData}{body:Expr}{own:List Nat}{ps:List (Nat×V)}{B:ay}{Z:List Addr}{O:Mu}{s:Shared}{fx:Value}{vs:List V}{xs:List Value}{Q:V→Mu→Prop}
  (I:Inv G B Z O s.heap)(rf:VR B Z (.fn fd) fx)(rv:aB B Z vs xs)
  (ft:fd.body=.expr body)(cj:fd.closure=[])(hg:fd.globals=mainGlobals)(hb:fd.builtins=builtinsNs)
  (uu:fd.scope.isCoroutine=false)(l9:fd.scope.isGenerator=false)(hk:fd.scope.kind=.function)(LF:∀p∈fd.scope.names,p.2≠.cell)
  (lF:∀c ct d pm,∃binds,BindsTo s {fd with code:=c,closureTuple:=ct,doc:=d,pyModule:=pm} ⟨xs,[]⟩ binds∧gb (G:=G) B Z binds ps)
  (sG:∀p∈ps,p.1∈own∧(fd.scope.names.lookup (G.nm p.1)=some .local∨fd.scope.names.lookup (G.nm p.1)=some .cell))
  (h:∀env:Env,env.scope=fd.scope→bz G n env (eval body env) (bc [] ps) O fun v ar=>Cl v∧Q v (ar.take O.length)):
  wpAny (model G.prog G.w) A (call fx xs) (PV G B Z s Q) bM s:=by
 cases rf with
 | @fn a _ c ct d pm Q4 jG=>
 have hl:∀a o,B a=some o→s.heap.get? a=some o:=fun a o e=>I.holds a o e;refine aW (lF c ct d pm) ?_;intro binds qC kI;refine wpAny_call (kla_callFunE hA.room (hl _ _ Q4) rfl uu l9 ft (jG.OH hl) (qC _ _ _ _ ?_));show wpAny _ _ (newFunctionEnv fd.scope fd.globals fd.closure binds (fd.qualname++".<locals>.") (some a) c none fd.builtins) _ _ _;rw[hg,hb,cj];refine dr ?_;have k1:=bN s.heap {cls:=.type "frame",data:=.dict #[]};have k2:=pushCells_keeps fd.scope.names (s.heap.push {cls:=.type "frame",data:=.dict #[]});have k:∀b o,s.heap.get? b=some o→(pushCells (s.heap.push {cls:=.type "frame",data:=.dict #[]}) fd.scope.names).get? b=some o:=fun b o e=>k2 b o (k1 b o e);have CO:xR B Z fd.scope.names s.heap []:=⟨fun n c m=>(nomatch m),List.Pairwise.nil⟩;have F:=bt.fresh (scope:=fd.scope) (cl:=[]) (fo:={cls:=.type "frame",data:=.dict #[]})
  (env:=newEnv fd.scope s.heap.objs.size mainGlobals (cellsFrom (s.heap.objs.size+1) fd.scope.names []) (fd.qualname++".<locals>.") (some a) c none builtinsNs) I ⟨_,rfl⟩ CO (fun zz zz=>trivial) rfl rfl rfl hk rfl rfl
 refine jq (s:={s with heap:=_}) kI (fun p hp=>sG p hp) (I.keeps k) F ?_
 intro bf tk F1 P1;refine⟨P1.inv.noLimit,kla_codeExpr ?_⟩;refine wpAny_mono (h _ rfl _ (hA.deeper _) B Z _ P1.inv F1) ?_ fun zz zz x=>x.elim;rintro v' s' ⟨v,ar,B',aH,⟨hc,q⟩,P',r'⟩;have P:=P1.trans (P'.wide F1);have len:Z.length=O.length:=I.len;have out:=aG.outside (s:=s) I.ey.1 k .heap P (fun a' m=>by
  rcases List.mem_cons.mp m with e|e
  ·rw[e];exact cx _
  ·refine aW (List.mem_filterMap.mp e) ?_;intro x hx e
   have e':(cellsFrom (s.heap.objs.size+1) fd.scope.names []).lookup (G.nm x)=some a':=e;rw[eQ _ _ _ LF]at e';cases e')
 rw[len]at out;exact⟨v,_,B',Z,q,out,r'.clean hc Z⟩
theorem u6(k:Nat)(xs:List Int):dQ (k+2) (.list (xs.map .int)) (.list (xs.map .int))=some true:=by
 have z:∀ (xs:List Int),gw (List.zipWith (dQ (k+1)) (xs.map .int) (xs.map .int))=some true:=by
  intro xs
  induction xs with
  |nil=>rfl
  |cons x xs ih=>
   rw[List.map_cons,List.zipWith_cons_cons,pX];generalize List.zipWith (dQ (k+1)) (xs.map V.int) (xs.map V.int)=l at *;simp[gw,ih]
 unfold dQ;simp only[List.length_map,if_true];exact z xs
theorem JC(p:List Int×Int):dQ 49 (bT p) (bT p)=some true:=by
 show(if[V.list (p.1.map .int),V.int p.2].length=[V.list (p.1.map .int),V.int p.2].length then gw (List.zipWith (dQ 48) [V.list (p.1.map .int),V.int p.2] [V.list (p.1.map .int),V.int p.2]) else none)=some true
 rw[if_pos rfl,List.zipWith_cons_cons,List.zipWith_cons_cons,List.zipWith_nil_left,u6 46,pX];simp[gw]
theorem FA(ps:List (List Int×Int)):dQ 50 (.list (ps.map bT)) (.list (ps.map bT))=some true:=by
 unfold dQ;simp only[if_true]
 induction ps with
 |nil=>rfl
 |cons p ps ih=>
  rw[List.map_cons,List.zipWith_cons_cons,JC];generalize List.zipWith (dQ 49) (ps.map bT) (ps.map bT)=l at *;simp[gw,ih]
theorem Ah(p:List Int×Int):Cl (bT p):=.tuple fun y hy=>by
 simp only[List.mem_cons,List.not_mem_nil,or_false]at hy;rcases hy with rfl|rfl
 ·exact jJ _
 ·exact .int
noncomputable def Ai:E:=.tup (.cons (.sub (.var 99) (.int 0)) (.cons (.neg (.sub (.var 99) (.int 1))) .nil))
noncomputable def rV:Expr→List Arg×Expr×Scope×Pos
 |.Lambda a b s p=>(a.args,b,s,p)
 |_=>([],default,default,default)
noncomputable abbrev JD(p:Pos):Arguments:=⟨[],[⟨aI 99,none,p⟩],none,[],[],none,[]⟩
structure JE(y:Expr)(sc:Scope):Prop where
 e:bP aI Ai sc y=true
 co:sc.isCoroutine=false
 ge:sc.isGenerator=false
 k:sc.kind=.function
 loc:sc.names.all (fun p=>p.2 == .local)=true
 lk:sc.names.lookup (aI 99)=some .local
theorem JF(hG:bx G){n:Nat}{A:Around}(hA:bY (n+1) A){B:ay}{Z:List Addr}{O:Mu}{s:Shared}{f x:Value}{q:Str}{pa:Pos}{y:Expr}{sc:Scope}(h:JE y sc){p:List Int×Int}
  (I:Inv G B Z O s.heap)(rf:VR B Z (.fn (JB q (JD pa) (bH aI Ai y) sc)) f)(rx:VR B Z (bT p) x):wpAny (model G.prog G.w) A (call f [x]) (PV G B Z s fun u ar=>u=bT (p.1,-p.2)∧ar=O) bM s:=by
 refine Fz hA (own:=[99]) (ps:=[(99,bT p)]) I rf (.cons rx .nil) rfl rfl rfl rfl h.co h.ge h.k (fun q hq=>?_) (fun c ct d pm=>?_) (fun q hq=>?_) (fun env hs=>?_)
 ·rw[eq_of_beq (List.all_eq_true.mp h.loc q hq)]
  simp
 ·refine⟨[(aI 99,x)],.of_eq (by kd_p),?_⟩
  rw[←hG.nm];exact .cons rx .nil
 ·cases List.mem_singleton.mp hq
  exact⟨by simp,.inl (by rw[hG.nm];exact h.lk)⟩
 ·refine dG hG.nm hG.gl Ai h.e hs ?_
  have g:get (bc [] [(99,bT p)]) 99=some (.tuple [.list (p.1.map .int),.int p.2]):=rfl;generalize bc [] [(99,bT p)]=U at g;unfold Ai;k_upd;refine jz (v:=.list (p.1.map .int)) rfl (by decide) (.of (by simp)) ?_
  k_upd;refine jz (v:=.int p.2) rfl (by decide) (.of (by simp)) ?_
  k_upd;refine⟨.of (by simp),Ah (p.1,-p.2),rfl,by rw[List.take_length]⟩
noncomputable abbrev FD(y:Expr):Keyword:=(pt y).2.2.2.2
noncomputable abbrev WW(z:Expr):Expr:=.Lambda (JD (match (rV z).1 with|a::_=>a.pos|[]=>z.pos)) (bH aI Ai (rV z).2.1) (rV z).2.2.1 (rV z).2.2.2
noncomputable abbrev u7(y:Expr):Expr:=.Compare (bH aI (.var 105) (bj 0 y)) [.NotEq] [.Call (bH aI (.glob 106) (bj 0 (bj 1 y))) (jB aI (.cons (.var 105) .nil) (ks (bj 1 y)).tail) [⟨some "key",WW (FD (bj 1 y)).value,(FD (bj 1 y)).pos⟩] (bj 1 y).pos] y.pos
structure DL(sc0:Scope)(y:Expr):Prop where
 f:bP aI (.glob 106) sc0 (bj 0 (bj 1 y))=true
 l:JE (rV (FD (bj 1 y)).value).2.1 (rV (FD (bj 1 y)).value).2.2.1
 ln:(rV (FD (bj 1 y)).value).2.2.2.line=317
 cl:(rV (FD (bj 1 y)).value).2.2.2.col=32
theorem FE(hG:bx G){n:Nat}{env:Env}{U:aw}{O:Mu}{Q:Bool→Mu→Prop}{y:Expr}(hB:DL env.scope y){c:Addr}(gm:env.code=.ref c)(jG:codeHdIn G.K c 222=true)(hq:env.qual++"<lambda>"=ux)
  {ps:List (List Int×Int)}(u9:get U 105=some (.list (ps.map bT)))(h1:1≤ps.length)(hz:ps.length<64)(hs:∀ (i:Nat) p q,ps[i]?=some p→ps[i+1]?=some q→v8 (q.1,-q.2) (p.1,-p.2)=false)
  (q:Q false O):fY G (n+5) env (isTrue (u7 y) env (eval (u7 y) env)) U O Q:=by
 refine tJ (dG hG.nm hG.gl (.var 105) rfl rfl ?_) rfl;k_upd;refine xU rfl (eF (es:=.cons (.var 105) .nil)) rfl (dG hG.nm hG.gl (.glob 106) hB.f rfl ?_);k_upd;refine kW hG.nm hG.gl (.cons (.var 105) .nil) rfl rfl ?_;k_upd;refine Dg (Se hG (P:=222) (q:=ux) (c:=c) (by rw[hB.ln,hB.cl];exact LC) gm jG hq (fun p hp=>by rw[eq_of_beq (List.all_eq_true.mp hB.l.loc p hp)];simp) (A1 ⟨[("key",.fn (JB ux _ _ _))],rfl,rfl,?_⟩))
 refine bD.machine (fun a=>by simp) ?_
 refine Ci (n:=n+1) (ps:=ps.map fun p=>(p.1,-p.2)) (by simp) (by simpa using h1) (by simpa using hz) (fun x m=>by
  refine aW (List.mem_map.mp m) ?_;intro p zz z1;subst z1;exact Ah p) (fun i p q hp hq=>?_) (fun B Z f r=>by refine VR.Yg r ?_;intro zz zz zz zz zz zz zz;exact⟨_,rfl⟩) (fun i v p hv hp A hA B Z s f x I rf rx=>?_) ?_
 ·rw[List.getElem?_map]at hp hq
  refine aW (Option.map_eq_some_iff.mp hp) ?_;intro p' vX z1;subst z1;refine aW (Option.map_eq_some_iff.mp hq) ?_;intro q' hq' z1;subst z1;exact hs i p' q' vX hq'
 ·rw[List.getElem?_map]at hv hp
  refine aW (Option.map_eq_some_iff.mp hp) ?_;intro p' vX z1;subst z1;rw[vX]at hv;cases hv;exact JF hG hA hB.l I rf rx
 ·refine HM (FA ps) ?_
  exact iB q
theorem Ck{prog:Program}{w:World}{A:Around}{E:Value→Shared→Prop}{s:Shared}{env:Env}{x:Str}{np pos:Pos}{Q:Flow→Shared→Prop}(hh:A.handled=none)
  (hx:wpAny (model prog w) A (eval (.Name x np) env) (fun v s1=>v=.type "ZeroDivisionError"∧∀h' e,Heap.MadeExc s1.heap h' e "ZeroDivisionError" []→E (.ref e) {s1 with heap:=h'}) E s):
  wpAny (model prog w) A (exec (.Raise (some (.Name x np)) none pos) env) Q E s:=by
 have hc:=excClass_ZeroDivisionError;show wpAny (model prog w) A (do standAt pos;raiseStmt env (some (do let v ←eval (.Name x np) env;standAt pos;pure v)) none) Q E s
 unfold raiseStmt;dsimp only;refine wpAny_bind (wpAny_standAt (wpAny_bind (wpAny_bind (wpAny_mono hx (fun v s1 h1=>wpAny_bind (wpAny_standAt (wpAny_pure ?_))) fun zz zz e=>e))));obtain⟨rfl,h⟩:=h1;refine wpAny_bind (wpAny_pure ?_);dsimp only;refine wpAny_bind (wpAny_holding ?_);unfold excFromValue isExcClass;refine wpAny_bind (wpAny_bind (wpAny_pure ?_));simp only[if_true];rw[hc.base];refine wpAny_pure ?_;simp only[if_true];obtain⟨hp,g,d,tk,os⟩:=s1;refine wpAny_bind (wpAny_call_exc F.excCall_ZeroDivisionError fun h' e hn=>?_);refine aW hn.there ?_;intro t he zz;have hT:(⟨h',g,d,tk,os⟩:Shared).TypeIs (.ref e) "ZeroDivisionError":=⟨_,he,rfl⟩;refine wpAny_bind (wpAny_isInstance hT hc.base ?_);simp only[Bool.not_true,Bool.false_eq_true,if_false];refine wpAny_pure ?_;refine wpAny_bind (m:=isType (.type "ZeroDivisionError")) (wpAny_pure ?_);simp only[if_true];refine wpAny_bind (wpAny_holding ?_);unfold raisedFor;refine wpAny_bind (wpAny_typeOf hT ?_);refine wpAny_bind (call_issubclass (issubclass_self hc hc.self) ?_);dsimp only[wants];refine wpAny_bind (wpAny_truthy_bool ?_);simp only[if_true];refine wpAny_pure ?_;unfold setFlight raiseNew;refine wpAny_bind (wpAny_bind (wpAny_field (i:=1) (x:=Value.none) he rfl rfl ?_));rw[if_neg (by decide)]
 refine wpAny_pure (wpAny_bind (wpAny_handled ?_));rw[hh];first
  |exact wpAny_throw (h h' e hn)
  |exact wpAny_bind (wpAny_pure (wpAny_throw (h h' e hn)))
noncomputable def kill(o:Obj):Obj:=⟨o.cls,o.dict,.freed,o.slots⟩
theorem xk(h:Heap)(a:Addr):(h.update a kill).get? a=none:=by
 cases q:(h.update a kill).get? a with
 |none=>rfl
 |some o=>
  obtain⟨q1,q2⟩:=Heap.get?_some_iff.mp q;rw[Heap.objs_update_self]at q1;cases z:h.objs[a]? with
  |none=>rw[z]at q1;cases q1
  |some x=>
   rw[z]at q1;cases q1;cases q2
noncomputable def kP(h:Heap)(a b:Addr):Heap:=(h.update a kill).update b kill
theorem lU{h:Heap}{a b c:Addr}(h1:c≠a)(h2:c≠b):(kP h a b).get? c=h.get? c:=by
 unfold kP;rw[Heap.get?_update_other _ _ (Ne.symm h2),Heap.get?_update_other _ _ (Ne.symm h1)]
theorem Aj{h:Heap}{a b:Addr}:(kP h a b).get? b=none:=xk _ _
theorem Ak{h:Heap}{a b:Addr}(qk:a≠b):(kP h a b).get? a=none:=by
 unfold kP;rw[Heap.get?_update_other _ _ (Ne.symm qk)];exact xk _ _
theorem yN{h:Heap}{a b:Addr}(qk:a≠b):(kP h a b).StaysIn h:=fun c o e=>by
 by_cases h1:c=a
 ·subst h1;rw[Ak qk]at e;exact bk e
 ·by_cases h2:c=b
  ·subst h2;rw[Aj]at e;exact bk e
  ·rwa [lU h1 h2]at e
noncomputable def DM:T:=.cmp .Eq (.var 18) (.int 0)
noncomputable def O0:Stmt→Option Expr
 |.Raise x _ _=>x
 |_=>none
noncomputable abbrev xl(K:Frag):Stmt:=(dy (ba K 84).body).headD default
noncomputable abbrev JG(K:Frag):Stmt:=(sb 0 (xl K)).headD default
theorem e84(P:Params):dy (ba (KP P) 84).body=.If (mD aI DM (sk 0 (xl (KP P)))) (.Raise (some (bH aI (.glob 139) ((O0 (JG (KP P))).getD default))) none (JG (KP P)).pos::(sb 0 (xl (KP P))).tail) (sb 1 (xl (KP P))) (xl (KP P)).pos::(dy (ba (KP P) 84).body).tail:=by kd_p
theorem WX(P:Params):mE aI DM (ba (KP P) 84).scope (sk 0 (xl (KP P)))=true:=by kd_p
theorem WY(P:Params):bP aI (.glob 139) (ba (KP P) 84).scope ((O0 (JG (KP P))).getD default)=true:=by kd_p
theorem FF(hG:bx G){n:Nat}{A:Around}(hA:bY (n+1) A){env:Env}(v9:A.frames=some [env]){L:Addr}(Al:env.frame=some L)(hkL:env.scope.kind=.function){B:ay}{Z:List Addr}{O:Mu}{s:Shared}(I:Inv G B Z O s.heap)
  {m:Str→Option Value}(jb:s.heap.Ns L m)(hL:Off B Z L){a:Int}{x y:Value}(rx:VR B Z (.int a) x)(ry:VR B Z (.int 0) y){E:Value→Shared→Prop}{Q:Value→Shared→Prop}
  (hE:∀B1 s1 L2 h' e t,aG G [] B Z s B1 Z O s1→Off B1 Z L2→L≠L2→s.heap.get? L2=none→s.heap.Ns L m→s1.heap.Ns L m→Heap.FlyingW (kP s1.heap L L2) [env] e (.type "ZeroDivisionError") (.ref t) h'→h'.TupAt t []→(kP s1.heap L L2).get? t=none→s1.heap.UpToSlots h'→Off B1 Z e→Off B1 Z t→E (.ref e) {s1 with heap:=h'}):
  wpAny (model G.prog G.w) A (call (.ref 84) [x,y]) Q E s:=by
 obtain⟨P,hP⟩:=hG.K;have hf:vL (KP P) 84=true:=by kd_p
 have hp:([gH,mJ]).all (jW aI (ba (KP P) 84).scope eV)=true:=by kd_p
 have WZ:=WX P;have W3:=WY P;have O1:=e84 P;have z6:∀S,peek (KP P) S (bindArgs (ba (KP P) 84) ⟨[x,y],[]⟩)=some [(aI gH,x),(aI mJ,y)]:=fun S=>by kd_p
 unfold vL at hf;split at hf
 ·rename_i oc od fd osl e
  have lH:ba (KP P) 84=fd:=by unfold ba;rw[e]
  rw[lH]at hp z6 WZ W3 O1;simp only[Bool.and_eq_true,Bool.not_eq_true']at hf;obtain⟨⟨⟨⟨⟨⟨⟨f1,f2⟩,f3⟩,f4⟩,f5⟩,f6⟩,f7⟩,f8⟩:=hf;have ft:fd.body=.stmts (dy fd.body):=by
   cases q:fd.body<;>first|rfl|(rw[q]at f1;cases f1)
  have hk:fd.scope.kind=.function:=eq_of_beq f8;have zJ:fd.closure=[]:=List.isEmpty_iff.mp f3;have hg:fd.globals=mainGlobals:=eq_of_beq f4;have hb:fd.builtins=builtinsNs:=eq_of_beq f5;have kI:gb (G:=G) B Z [(aI gH,x),(aI mJ,y)] [(gH,.int a),(mJ,.int 0)]:=by
   rw[←hG.nm,←hG.nm];exact .cons rx (.cons ry .nil)
  have X:=I.jV;rw[hP]at X;have qC:=kp_binds X z6;refine wpAny_call (codeAny_call_function hA.room (I.jV 84 _ (by rw[hP];exact e)) rfl f6 f7 ft (codeRec_of I.jV (by rw[hP];exact f2)) (qC _ _ _ _ ?_))
  rw[zJ,hg,hb];refine dr ?_;have k1:=bN s.heap {cls:=.type "frame",data:=.dict #[]};have k2:=pushCells_keeps fd.scope.names (s.heap.push {cls:=.type "frame",data:=.dict #[]});have k:∀b o,s.heap.get? b=some o→(pushCells (s.heap.push {cls:=.type "frame",data:=.dict #[]}) fd.scope.names).get? b=some o:=fun b o e=>k2 b o (k1 b o e);have F:=bt.fresh (scope:=fd.scope) (cl:=[]) (fo:={cls:=.type "frame",data:=.dict #[]})
   (env:=newEnv fd.scope s.heap.objs.size mainGlobals (cellsFrom (s.heap.objs.size+1) fd.scope.names []) (fd.qualname++".<locals>.") (some 84) fd.code none builtinsNs) I ⟨_,rfl⟩ ⟨(fun _ _ m=>nomatch m),.nil⟩ (fun _ _=>trivial) rfl rfl rfl hk rfl rfl
  have sG:∀p∈[(gH,V.int a),(mJ,V.int 0)],nV G (newEnv fd.scope s.heap.objs.size mainGlobals (cellsFrom (s.heap.objs.size+1) fd.scope.names []) (fd.qualname++".<locals>.") (some 84) fd.code none builtinsNs) eV p.1:=fun p hq=>by
   have hm:p.1∈[gH,mJ]:=by
    simp only[List.mem_cons,List.not_mem_nil,or_false]at hq ⊢;rcases hq with rfl|rfl<;>simp
   have:=List.all_eq_true.mp hp p.1 hm;exact fB (G:=G) (env:=zt fd.scope) rfl hG.nm this
  refine jq (s:={s with heap:=_}) kI sG (I.keeps k) F ?_
  intro h1 tk F1 P1;refine⟨P1.inv.noLimit,codeAny_func ?_⟩;rw[O1];have z9:(newEnv fd.scope s.heap.objs.size mainGlobals (cellsFrom (s.heap.objs.size+1) fd.scope.names []) (fd.qualname++".<locals>.") (some 84) fd.code none builtinsNs).locals=s.heap.objs.size:=rfl;have O2:(newEnv fd.scope s.heap.objs.size mainGlobals (cellsFrom (s.heap.objs.size+1) fd.scope.names []) (fd.qualname++".<locals>.") (some 84) fd.code none builtinsNs).frame=some s.heap.objs.size:=rfl;have dP:(newEnv fd.scope s.heap.objs.size mainGlobals (cellsFrom (s.heap.objs.size+1) fd.scope.names []) (fd.qualname++".<locals>.") (some 84) fd.code none builtinsNs).scope=fd.scope:=rfl;have hce:(newEnv fd.scope s.heap.objs.size mainGlobals (cellsFrom (s.heap.objs.size+1) fd.scope.names []) (fd.qualname++".<locals>.") (some 84) fd.code none builtinsNs).cells=cellsFrom (s.heap.objs.size+1) fd.scope.names []:=rfl;generalize newEnv fd.scope s.heap.objs.size mainGlobals (cellsFrom (s.heap.objs.size+1) fd.scope.names []) (fd.qualname++".<locals>.") (some 84) fd.code none builtinsNs=Am at *;have vV:=hA.deeper Am;refine wpAny_execs_cons (wpAny_If (wpAny_mono (nG hG.nm hG.gl (n:=n) (Q:=fun b ar=>b=true∧ar=O) (U:=bc [] [(gH,V.int a),(mJ,V.int 0)]) DM WZ dP ?_ _ vV B Z _ P1.inv F1) ?_ fun _ _ x=>x.elim))
  ·have g18:get (bc [] [(gH,V.int a),(mJ,V.int 0)]) 18=some (.int 0):=rfl
   generalize bc [] [(gH,V.int a),(mJ,V.int 0)]=U at g18;unfold DM;k_upd;exact⟨rfl,rfl⟩
  ·rintro b s2 ⟨ar,B2,aV,⟨rfl,iy⟩,P2⟩
   have iy:=iy.symm;subst iy;have F2:=F1.same P2;have P3:=P1.trans (P2.wide F1);simp only[if_true];refine wpAny_execs_cons (Ck (show(A.deeper Am).handled=none from hA.handled) (wpAny_mono (dG hG.nm hG.gl (n:=n) (Q:=fun v ar=>v=.raw (.type "ZeroDivisionError")∧ar=O) (U:=bc [] [(gH,V.int a),(mJ,V.int 0)]) (.glob 139) W3 dP ?_ _ vV B2 aV _ P2.inv F2) ?_ fun _ _ x=>x.elim))
   ·k_upd
    exact⟨rfl,rfl⟩
   ·rintro v s3 ⟨u,cU,B3,dK,⟨rfl,iy⟩,P4,r4⟩
    have iy:=iy.symm;subst iy;refine VR.j2 r4 ?_;refine⟨rfl,fun h' e' hm=>?_⟩;have F3:=F2.same P4;have P5:=P3.trans (P4.wide F2);have Jz:Z=dK:=(take_all P5.pre (by rw[I.len,P5.inv.len])).symm
    subst Jz;have hW:∀a'∈fa G Am eV,s.heap.get? a'=none:=fun a' mm=>by
     rcases ez mm with e|⟨n',eA⟩
     ·rw[e,z9];exact cx _
     ·rw[hce]at eA
      have m':(n',a')∈cellsFrom (s.heap.objs.size+1) fd.scope.names []:=mem_of_lookup eA;have ok:=cK fd.scope.names (s.heap.push {cls:=.type "frame",data:=.dict #[]}) (s.heap.objs.size+1) [] [] (fun _ _ m=>nomatch m) (fun _ _ m=>nomatch m) .nil (by rw[Heap.size_push];exact Nat.le_refl _)
      rw[Heap.size_push]at ok;rcases ok.1 n' a' m' with z|z
      ·cases z
      ·exact fA (by omega)
    have P6:=aG.outside (s:=s) I.ey.1 k .heap P5 hW;have DK:List.take Z.length O=O:=by rw[I.len];exact List.take_length ..
    rw[DK]at P6;have Mm:Off B3 Z s.heap.objs.size:=by rw[←z9];exact F3.cV
    have fb:L≠s.heap.objs.size:=Nat.ne_of_lt jb.lt;refine aW F3.ns ?_;intro mL Sf _;rw[z9]at Sf;have JH:s3.heap.Ns L m:=by
     refine oz jb ?_;clear jb;intro o es ep ho r;exact⟨o,es,ep,P6.kept ho (by simp) hL.2.1 hL.2.2,r⟩
    have yO:∀sc:Scope,sc.kind=.function→sc.kind≠.module:=fun sc h=>by rw[h];decide
    refine wpAny_leaves_madeW (base:=kP s3.heap L s.heap.objs.size) (h:=s3.heap) (env:=Am) (outer:=[env]) (L:=s.heap.objs.size) ?_ O2 (yN fb) ?_ hm.of fun kB t q1 q2 q3 q4=>?_
    ·show A.frames.map (Am :: ·)=_
     rw[v9];rfl
    ·refine Heap.FunFrames.cons (by rw[dP];exact yO _ hk) O2 Sf Aj ?_
     exact Heap.FunFrames.cons (yO _ hkL) Al JH (Ak fb) trivial
    ·have up:=(Heap.UpToSlots.of_keeps hm.keeps).trans q4
     refine oy q2 ?_;clear q2;intro ot kt et _ dt;have tL:t≠L:=fun z=>by
      refine ph (up.ns JH) ?_;intro o _ _ ho hd _;rw[z,ho]at et;cases Option.some.inj et;rw[hd]at dt;cases dt
     have t2:t≠s.heap.objs.size:=fun z=>by
      refine ph (up.ns Sf) ?_;intro o _ _ ho hd _;rw[z,ho]at et;cases Option.some.inj et;rw[hd]at dt;cases dt
     have ht3:s3.heap.get? t=none:=by rw[←lU tL t2];exact q3
     have W4:=P6.inv.off ht3;have q2:kB.TupAt t []:=⟨ot,kt,et,by assumption,dt⟩
     exact hE B3 s3 s.heap.objs.size kB e' t P6 Mm fb (cx _) jb JH q1 q2 q3 ((Heap.UpToSlots.of_keeps hm.keeps).trans q4) (P6.inv.off hm.new) W4
 ·exact iO hf
def i9(G:dn)(A:Around)(env:Env)(t:Sem Value)(U:aw)(O:Mu)(Q:V→Mu→Prop):Prop:=∀B Z s,Inv G B Z O s.heap→bt G env B Z U s.heap→wpAny (model G.prog G.w) A t (PV G B Z s Q) bM s
section
variable{A:Around}{env:Env}{U:aw}{O:Mu}{Q:V→Mu→Prop}
theorem JI{x:Nat}{v:V}{pos:Pos}(h:get U x=some v)(q:Q v O):i9 G A env (eval (.Name (G.nm x) pos) env) U O Q:=by
 intro B Z s I F;refine wpAny_Name ?_ (G.odd x).1;rcases F.cl x v h with hl|⟨hk,c,u,hc,eX,r⟩
 ·refine aW F.ns ?_;intro m hn hm
  refine aW (hm x v h hl) ?_;intro u hu r;exact wpAny_loadName_local F.kind hl hn hu (PV.bQ I r q)
 ·rcases hk with hk|hk
  ·exact wpAny_loadName_cell F.kind hk hc eX (PV.bQ I r q)
  ·exact wpAny_loadName_free F.kind hk hc eX (PV.bQ I r q) (G.odd x).2
theorem Mn{x:Nat}{v:Value}{pos:Pos}(hk:env.kindOf (G.nm x)=some .globalImplicit)(h:G.gl x=some v)(q:Q (.raw v) O):i9 G A env (eval (.Name (G.nm x) pos) env) U O Q:=by
 intro B Z s I F;exact Name_function_global F.kind hk (G.load h F.gl F.bi (fun a o e=>I.holds a o (I.base a o e)) (PV.bQ I .raw q)) (G.odd x).1
theorem JJ{i:Int}{k:Nat}{pos:Pos}(q:Q (.int i) O):i9 G A env (eval (.Constant (.int i) k pos) env) U O Q:=
 fun B Z s I F=>wpAny_Constant_int (PV.here I .int q)
theorem Sg{x:Str}{k:Nat}{pos:Pos}(q:Q (.str x) O):i9 G A env (eval (.Constant (.str x) k pos) env) U O Q:=
 fun B Z s I F=>Calls.Constant_str (PV.here I .str q)
theorem Sh{l r:Expr}{pos:Pos}{a b:Int}(hm:IntMulOk a b)(h:i9 G A env (eval l env) U O fun v aA=>v=.int a∧aA=O)(h':i9 G A env (eval r env) U O fun v aA=>v=.int b∧aA=O)(q:Q (.int (a*b)) O):i9 G A env (eval (.BinOp l .Mult r pos) env) U O Q:=by
 intro B Z s I F;refine wpAny_BinOp (wpAny_mono (h B Z s I F) ?_ fun zz zz x=>x);rintro x s1 ⟨v,aA,B1,aE,⟨rfl,rfl⟩,P1,r1⟩;have F1:=F.same P1;refine wpAny_mono (h' B1 aE s1 P1.inv F1) ?_ fun zz zz x=>x;rintro y s2 ⟨u,aZ,B2,aV,⟨rfl,rfl⟩,P2,r2⟩;refine VR.bC r1 ?_;intro zz;refine VR.bC r2 ?_;intro zz;exact mul_int (PV.after P1 (PV.after P2 (PV.here P2.inv .int q))) hm
theorem W5{l r:Expr}{pos:Pos}{a b:Int}(hm:behindInMarks .Eq r=false)(h:i9 G A env (eval l env) U O fun v aA=>v=.int a∧aA=O)(h':i9 G A env (eval r env) U O fun v aA=>v=.int b∧aA=O)(q:Q (.bool (a==b)) O):i9 G A env (eval (.Compare l [.Eq] [r] pos) env) U O Q:=by
 intro B Z s I F;refine wpAny_Compare1 (wpAny_mono (h B Z s I F) ?_ fun zz zz x=>x) hm;rintro x s1 ⟨v,aA,B1,aE,⟨rfl,rfl⟩,P1,r1⟩;have F1:=F.same P1;refine wpAny_mono (h' B1 aE s1 P1.inv F1) ?_ fun zz zz x=>x;rintro y s2 ⟨u,aZ,B2,aV,⟨rfl,rfl⟩,P2,r2⟩;refine VR.bC r1 ?_;intro zz;refine VR.bC r2 ?_;intro zz;exact eq_int (PV.after P1 (PV.after P2 (PV.bQ P2.inv .bool q)))
theorem JK{value slice:Expr}{pos:Pos}{v:V}{i:Int}(h:i9 G A env (eval value env) U O fun u aA=>u=v∧aA=O)(h':i9 G A env (eval slice env) U O fun u aA=>u=.int i∧aA=O)
  (hs:∀o i,subscripted slice false o i=operate [o,i] (getItem o i))
  (hg:∀B Z s x y,Inv G B Z O s.heap→VR B Z v x→VR B Z (.int i) y→∃T id,s.TypeIs x T∧typeLookup (.type T) "__getitem__"=pure (some (.builtin id))∧wpAny (model G.prog G.w) A (getItem x y) (PV G B Z s Q) bM s):i9 G A env (eval (.Subscript value slice pos) env) U O Q:=by
 intro B Z s I F;rw[eval_Subscript];refine wpAny_bind (wpAny_mono (h B Z s I F) ?_ fun zz zz x=>x);rintro x s1 ⟨v,aA,B1,aE,⟨rfl,rfl⟩,P1,r1⟩;have F1:=F.same P1;refine wpAny_bind (wpAny_holding (wpAny_mono (h' B1 aE s1 P1.inv F1) ?_ fun zz zz x=>x));rintro y s2 ⟨u,aZ,B2,aV,⟨rfl,rfl⟩,P2,r2⟩;refine wpAny_bind (wpAny_standAt ?_);refine oy (hg B2 aV s2 x y P2.inv (r1.mono P2.le P2.pre) r2) ?_;intro T id hT hl hg;exact wpAny_mono (tU hT hl (hs _ _) (fun e=>by cases e;exact hg) rfl) (fun z s3 h3=>PV.after P1 (PV.after P2 h3)) fun zz zz x=>x
theorem Mp{xs:List V}{i:Nat}{v:V}(hx:xs[i]?=some v)(q:Q v O)(hz:xs.length<1000):∀B Z s x y,Inv G B Z O s.heap→VR B Z (.list xs) x→VR B Z (.int i) y→∃T id,s.TypeIs x T∧typeLookup (.type T) "__getitem__"=pure (some (.builtin id))∧wpAny (model G.prog G.w) A (getItem x y) (PV G B Z s Q) bM s:=by
 intro B Z s x y I hv hi;refine VR.bC hi ?_;intro _;rename_i t;cases hv with
 |list e l h9=>
  rename_i a vs k;have hl:s.heap.IsList a vs.toArray:=⟨_,I.holds _ _ e,rfl,k,rfl⟩;refine aW (aB.get ⟨l,h9⟩ hx) ?_;intro u hu r;have bA:=(List.getElem?_eq_some_iff.mp hx).1;refine⟨"list",_,hl.typeIs,list_getitem_lookup,?_⟩;have BE:(2:Nat) ^ 62=4611686018427387904:=by decide
  exact wpAny_getItem_list hl (by exact Int.natCast_nonneg _) (by exact ag 3 0 (aa (ak af bw) (aa (ax af ab) (aa (ak au af) (aK (az au) (zk (2 ^ 63)))))) (by kd_p) hz l bA) (by simpa using hu) (PV.bQ I r q)
theorem JL{xs:List V}{i:Nat}{v:V}(hx:xs[i]?=some v)(q:Q v O)(hz:xs.length<1000):∀B Z s x y,Inv G B Z O s.heap→VR B Z (.tuple xs) x→VR B Z (.int i) y→∃T id,s.TypeIs x T∧typeLookup (.type T) "__getitem__"=pure (some (.builtin id))∧wpAny (model G.prog G.w) A (getItem x y) (PV G B Z s Q) bM s:=by
 intro B Z s x y I hv hi;refine VR.bC hi ?_;intro _;rename_i t;cases hv with
 |tuple e l h9=>
  rename_i a vs k;have hl:IsTup s.heap a vs.toArray:=⟨_,I.holds _ _ e,rfl,k,rfl⟩;refine aW (aB.get ⟨l,h9⟩ hx) ?_;intro u hu r;have bA:=(List.getElem?_eq_some_iff.mp hx).1;have sz:vs.toArray.size=xs.length:=by simp[l]
  refine⟨"tuple",_,hl.typeIs,slot_tuple_getitem.lookup,?_⟩;have BE:(2:Nat) ^ 62=4611686018427387904:=by decide
  exact PyProof.Rows.getItem_tuple hl (by exact ag 1 0 (ai (cI (zk (2 ^ 63))) (az ab)) (by kd_p)) (by exact ag 4 0 (aa (ak au bw) (aa (ax au af) (aa (ak aM au) (aa (ax ab au) (aK (az aM) (zk (2 ^ 63))))))) (by kd_p) hz l bA sz) (j:=i) (by
   unfold seqIndex?;rw[sz];simp only[];rw[if_neg (by exact xH:¬ (i:Int)<0)]
   rw[if_pos (by simp;omega)]
   rfl) (by simpa using hu) (PV.bQ I r q)
end
noncomputable abbrev o9(i:Nat):E:=.sub (.sub (.var 100) (.int (i:Int))) (.int ((0:Nat):Int))
noncomputable abbrev O3:E:=.wu (.cmp .Eq (.call (.glob 138) (.cons (.var 132) .nil)) (.str "")) (.cmp .Eq (.bin .Mult (o9 0) (o9 1)) (o9 2))
section
variable{A:Around}{env:Env}{U:aw}{O:Mu}{Q:V→Mu→Prop}
theorem yP(hG:bx G){i:Nat}{y:Expr}{ps xs:List V}{v:Int}(hp:get U 100=some (.list ps))(hi:ps[i]?=some (.tuple xs))(h0:xs[0]?=some (.int v))(hz:ps.length<1000)(hz2:xs.length<1000):
  i9 G A env (eval (bH aI (o9 i) y) env) U O fun u aA=>u=.int v∧aA=O:=by
 show i9 G A env (eval (.Subscript (.Subscript (.Name (aI 100) _) (.Constant (.int (i:Int)) _ _) _) (.Constant (.int ((0:Nat):Int)) _ _) _) env) U O _;rw[←hG.nm];exact JK (JK (JI hp ⟨rfl,rfl⟩) (JJ ⟨rfl,rfl⟩) (fun zz zz=>rfl) (Mp hi ⟨rfl,rfl⟩ hz)) (JJ ⟨rfl,rfl⟩) (fun zz zz=>rfl) (JL h0 ⟨rfl,rfl⟩ hz2)
theorem Si(hG:bx G){y:Expr}(Cm:env.kindOf (G.nm 138)=some .globalImplicit)(hu:A.units+10<cLine){ps An Cn Co:List V}{a b c:Int}{ex t0:Addr}(hp:get U 100=some (.list ps))(h0:ps[0]?=some (.tuple An))(h1:ps[1]?=some (.tuple Cn))(h2:ps[2]?=some (.tuple Co))
  (g0:An[0]?=some (.int a))(g1:Cn[0]?=some (.int b))(g2:Co[0]?=some (.int c))(hz:ps.length<1000)(z0:An.length<1000)(z1:Cn.length<1000)(z2:Co.length<1000)(hm:IntMulOk a b)
  (hf:get U 132=some (.raw (.ref ex))){B:ay}{Z:List Addr}{s:Shared}(I:Inv G B Z O s.heap)(F:bt G env B Z U s.heap)(hx:s.heap.ExcAt ex "ZeroDivisionError" (.ref t0))(ht:s.heap.TupAt t0 [])(hex:Off B Z ex)(W6:Off B Z t0)
  (q:Q (.bool (a*b==c)) O):wpAny (model G.prog G.w) A (eval (bH aI O3 y) env) (PV G B Z s Q) bM s:=by
 have Sj:∀ {B':ay} {aH:List Addr} {ar:Mu} {s s':Shared},aG G [] B Z s B' aH ar s'→s.heap.ExcAt ex "ZeroDivisionError" (.ref t0)→s.heap.TupAt t0 []→s'.heap.ExcAt ex "ZeroDivisionError" (.ref t0)∧s'.heap.TupAt t0 []:=by
  intro B' aH ar s s' P ⟨o,vs,e1,r1⟩ ⟨o2,k2,e2,r2⟩;exact⟨⟨o,vs,P.kept e1 (by simp) hex.2.1 hex.2.2,r1⟩,⟨o2,k2,P.kept e2 (by simp) W6.2.1 W6.2.2,r2⟩⟩
 have Ce:∀y,i9 G A env (eval (bH aI (.cmp .Eq (.bin .Mult (o9 0) (o9 1)) (o9 2)) y) env) U O Q:=fun y=>
  W5 rfl (Sh hm (yP hG hp h0 g0 hz z0) (yP hG hp h1 g1 hz z1) ⟨rfl,rfl⟩) (yP hG hp h2 g2 hz z2) q
 refine wpAny_And2 (wpAny_mono (Q:=fun v s'=>∃B' aH,v=.bool true∧aG G [] B Z s B' aH O s') (wpAny_Compare1 (wpAny_mono (Q:=fun v s'=>∃B' aH tk,v=.str Str.empty tk∧aG G [] B Z s B' aH O s') ?_ ?_ fun zz zz x=>x) rfl) ?_ fun zz zz x=>x)
 ·show wpAny _ _ (do callWith _ (←eval (.Name (aI 138) _) env) [] (backTo _ (starEach [.Name (aI 132) _] env)) (backToKw _ (keywordEach [] env))) _ _ _
  rw[←hG.nm,←hG.nm];refine wpAny_bind (wpAny_mono (Mn (A:=A) (O:=O) (U:=U) (Q:=fun v ar=>v=.raw (.type "str")∧ar=O) Cm (hG.gl 138 (.type "str") rfl) ⟨rfl,rfl⟩ B Z s I F) ?_ fun zz zz x=>x);rintro v s1 ⟨u,aA,B1,aE,⟨rfl,rfl⟩,P1,W7⟩;refine VR.j2 W7 ?_;have F1:=F.same P1;refine callWith_of (P:=fun zz=>True) rfl (fun zz zz=>⟨.machine,.inr (.inl rfl),Looks.of_pure rfl⟩) (iE (kws:=[]) rfl rfl ?_);refine wpAny_items_cons (wpAny_mono (JI (A:=A) (Q:=fun v ar=>v=.raw (.ref ex)∧ar=aA) hf ⟨rfl,rfl⟩ B1 aE s1 P1.inv F1) ?_ fun zz zz x=>x) rfl;rintro v s2 ⟨u,aZ,B2,aV,⟨rfl,rfl⟩,P2,pP⟩;refine VR.j2 pP ?_;have P:=P1.trans P2;obtain⟨kx,kt⟩:=Sj P hx ht;refine wpAny_items_nil (kwAll_nil ⟨trivial,?_⟩);refine PySem.P.str_of_exc_none PySem.F.excStr_ZeroDivisionError (by exact ag 2 0 (aa (ak (aj af fe) ab) (ak (aj af gU) ab)) (by kd_p) hu) kx kt ?_
  exact⟨B2,aV,s2.toks,rfl,P.trans P2.inv.tI⟩
 ·rintro v s1 ⟨B1,aE,tk,rfl,P1⟩
  have F1:=F.same P1;refine wpAny_mono (Sg (A:=A) (env:=env) (Q:=fun v ar=>v=.str Str.empty∧ar=O) ⟨rfl,rfl⟩ B1 aE s1 P1.inv F1) ?_ fun zz zz x=>x;rintro v s2 ⟨u,aZ,B2,aV,⟨rfl,rfl⟩,P2,pP⟩;refine VR.fQ pP ?_;intro zz;exact eq_str ⟨B2,aV,rfl,P1.trans P2⟩
 ·rintro v s1 ⟨B1,aE,rfl,P1⟩
  refine wpAny_truthy_bool ?_;simp only[if_true];exact wpAny_mono (Ce _ B1 aE s1 P1.inv (F.same P1)) (fun zz zz h=>PV.after P1 h) fun zz zz x=>x
end
theorem Inv.Ao{B:ay}{Z:List Addr}{O:Mu}{h h':Heap}{L L2:Addr}(I:Inv G B Z O h)(o:Off B Z L)(o2:Off B Z L2)(k:∀b x,b≠L→b≠L2→h.get? b=some x→h'.get? b=some x):Inv G B Z O h':=by
 refine⟨I.base,fun b x hb=>k b x (fun q=>by subst q;rw[o.1]at hb;exact bk hb) (fun q=>by subst q;rw[o2.1]at hb;exact bk hb) (I.holds b x hb),I.len,fun j b zs h1 h2=>?_,fun b hb=>?_,I.nodup,I.cg,
  G.hT.mono I.tab (.refl _) fun b hb x g=>k b x (fun q=>o.2.2 (q▸hb)) (fun q=>o2.2.2 (q▸hb)) g,I.ey⟩
 ·refine ew (I.ml j b zs h1 h2) ?_;intro e us m g r
  exact⟨e,us,m,k b _ (fun q=>o.2.1 (q▸List.mem_of_getElem? h1)) (fun q=>o2.2.1 (q▸List.mem_of_getElem? h1)) g,r⟩
 ·obtain⟨x,e⟩:=I.dp b hb
  exact⟨x,k b x (fun q=>o.2.1 (q▸hb)) (fun q=>o2.2.1 (q▸hb)) e⟩
theorem bt.Ao{env:Env}{B:ay}{Z:List Addr}{U:aw}{h h':Heap}{L2:Addr}(F:bt G env B Z U h)(hC:∀n c,(n,c)∈env.cells→c≠L2)(jb:∀m,h.Ns env.locals m→h'.Ns env.locals m)(k:∀b o,b≠env.locals→b≠L2→h.get? b=some o→h'.get? b=some o):bt G env B Z U h':=by
 refine aW F.ns ?_;intro m o3 hm;refine⟨F.kind,F.gl,F.bi,⟨m,jb m o3,hm⟩,fun x v hx=>?_,F.cV,fun n c hc=>?_,F.inj,F.all⟩
 ·rcases F.cl x v hx with h|⟨hk,c,u,hc,⟨o',eo,ed⟩,h2⟩
  ·exact .inl h
  ·have:=F.dI _ c (aY hc)
   exact .inr ⟨hk,c,u,hc,⟨o',k _ _ this.2.2.2.1 (hC _ c (aY hc)) eo,ed⟩,h2⟩
 ·refine cw (F.dI n c hc) ?_;intro a1 a2 a3 a4 v o' eo ed
  exact⟨a1,a2,a3,a4,v,o',k _ _ a4 (hC n c hc) eo,ed⟩
noncomputable abbrev W8:E:=.call (.glob 37) iu
noncomputable abbrev O4(c z e:Expr)(ep rp hp tp:Pos):Stmt:=.Try [.Expr (bH aI W8 c) ep] [.ExceptHandler (some (bH aI (.glob 139) z)) (some (aI 132)) [.Return (some (bH aI O3 e)) rp] hp] [] [] tp
structure JM(sc:Scope)(c z:Expr):Prop where
 f:bP aI (.glob 37) sc (bj 0 c)=true
 as:iT aI iu sc (ks c).tail=true
 z:bP aI (.glob 139) sc z=true
 W9:sc.names.lookup (aI 132)=some .local
 Xa:sc.names.lookup (aI 138)=some .globalImplicit
 Xb:sc.names.lookup (aI 139)=some .globalImplicit
theorem Mq(hG:bx G){n:Nat}{A:Around}(hA:bY (n+2) A){env:Env}(v9:A.frames=some [env])(Al:env.frame=some env.locals){own:List Nat}(JN:132∈own){c' z' e':Expr}{ep rp vX tp:Pos}(hB:JM env.scope c' z'){U:aw}{O:Mu}{Q:Fl→aw→Mu→Prop}
  {ps An Cn Co:List V}{a b c fi mi:Int}(hp:get U 100=some (.list ps))(h0:ps[0]?=some (.tuple An))(h1:ps[1]?=some (.tuple Cn))(h2:ps[2]?=some (.tuple Co))
  (g0:An[0]?=some (.int a))(g1:Cn[0]?=some (.int b))(g2:Co[0]?=some (.int c))(hz:ps.length<1000)(z0:An.length<1000)(z1:Cn.length<1000)(z2:Co.length<1000)(hm:IntMulOk a b)
  (Mr:get U 63=some (.int fi))(Ms:get U 130=some (.int mi))(Mt:Sz 10 fi)(Sk:Sz 10 mi)(halt:c7 fi mi fi 0 0 0=0)
  (q:Q (.ret (.bool (a*b==c))) [] O){B:ay}{Z:List Addr}{s:Shared}(I:Inv G B Z O s.heap)(F:bt G env B Z U s.heap):
  wpAny (model G.prog G.w) A (exec (O4 c' z' e' ep rp vX tp) env) (PS G env own B Z s Q) bM s:=by
 have Sl:env.kindOf (G.nm 139)=some .globalImplicit:=by
  rw[hG.nm];exact hB.Xb
 have Cm:env.kindOf (G.nm 138)=some .globalImplicit:=by
  rw[hG.nm];exact hB.Xa
 have JO:env.kindOf (aI 132)=some .local:=hB.W9;have hint:interactive env=false:=by unfold interactive;rw[F.kind];rfl
 refine wpAny_Try_except (wpAny_execs_cons (wpAny_Expr_any ?_ hint (du rfl _ _ _)));show wpAny _ _ (do callWith _ (←eval (bH aI (.glob 37) (bj 0 c')) env) [] (backTo _ (starEach (jB aI iu (ks c').tail) env)) (backToKw _ (keywordEach [] env))) _ _ _
 refine wpAny_bind (wpAny_mono (dG hG.nm hG.gl (n:=n+2) (U:=U) (O:=O) (Q:=fun v ar=>v=.raw (.ref 84)∧ar=O) (.glob 37) hB.f rfl ?_ A hA B Z s I F) ?_ fun zz zz x=>x.elim)
 ·k_upd
  exact⟨rfl,rfl⟩
 rintro v s1 ⟨u,aA,B1,aE,⟨rfl,iy⟩,P1,r1⟩;have iy:=iy.symm;subst iy;refine VR.j2 r1 ?_;have F1:=F.same P1;refine callWith_of (P:=fV G (.ref 84)) (by rw[plain_any (eF (es:=iu))];rfl) (fun zz x=>x) (iE (kws:=[]) (eF (es:=iu)) rfl ?_)
 refine wpAny_mono (kW hG.nm hG.gl (n:=n+2) (U:=U) (O:=O) (Q:=fun vs ar=>vs=[.int a,.int 0]∧ar=O) iu hB.as rfl ?_ A hA B1 aE s1 P1.inv F1) ?_ fun zz zz x=>x.elim
 ·unfold iu
  k_upd;refine V_at (i:=((0:Nat):Int)) (xs:=ps) (v:=.tuple An) (by rw[gS];exact h0) (by exact ag 1 0 (aa (ak ab bw) (ai (cI (az ab)) (az b6))) (by kd_p) hz) (.of (by exact N4 hz)) ?_
  k_upd;refine jz (i:=((0:Nat):Int)) (v:=.int a) (by simpa using g0) (by exact Int.natCast_nonneg _) (.of (by exact N4 z0)) ?_
  k_upd;refine⟨.of (by simp),bK ?_⟩
  k_upd;refine⟨.of (by simp),bK ?_⟩
  k_upd;refine CK hG (dX hG (n:=n+1) Mt Sk Mt (by decide) (by decide) (by decide) ?_)
  rw[halt];k_upd;exact⟨rfl,rfl⟩
 rintro vs s2 ⟨us,aZ,B2,aV,⟨rfl,iy⟩,P2,r2⟩;have iy:=iy.symm;subst iy;refine aB.aO r2 ?_;intro x zz rx r2;refine aB.aO r2 ?_;intro y zz ry r2;refine aB.bE r2 ?_;have F2:=F1.same P2;have P3:=P1.trans P2;have Jz:Z=aV:=(take_all P3.pre (by rw[I.len,P3.inv.len])).symm
 subst Jz;refine kwAll_nil ⟨keeps_K (hG.keep fun P=>by kd_p) _ P2.inv.jV,?_⟩
 refine aW F2.ns ?_;intro m jb hmm;refine FF hG (n:=n+1) hA v9 Al F.kind P2.inv jb F2.cV rx ry fun B3 s3 L2 h' ex t P4 o2 fb Mm aag Xc Xd Xe qC hup Sm ot=>?_;have F3:=F2.same P4;have P5:=P3.trans P4;have Xf:∀b o,s.heap.get? b=some o→b∉Z→b∉tabs→b≠L2:=fun b o e h1 h2 z=>by
  have:=P3.kept e (by simp) h1 h2
  rw[z,Mm]at this;exact bk this
 refine wpAny_looks_onW v9 Al Xd fun bf Sn up1=>?_;refine wpAny_landsW Sn fun bu yQ Xg=>?_;have Xh:s3.heap.UpToSlots bu:=(hup.trans up1).trans Xg;have kb:∀ {h:Heap},(kP s3.heap env.locals L2).StaysIn h→∀b o,b≠env.locals→b≠L2→s3.heap.get? b=some o→h.get? b=some o:=fun hs b o q1 q2 e=>hs b o (by rw[lU q1 q2];exact e)
 have I2:Inv G B3 Z O bu:=P5.inv.Ao F3.cV o2 (kb yQ.1);have Le:∀n c,(n,c)∈env.cells→c≠L2:=fun n c m z=>by
  refine cw (F2.dI n c m) ?_;intro zz zz zz zz v o' eo zz;rw[z,Mm]at eo;exact bk eo
 have FH:bt G env B3 Z U bu:=F3.Ao Le (fun m h=>Xh.ns h) (kb yQ.1);refine wpAny_handleBy_builtin_as (X:="ZeroDivisionError") (T:="ZeroDivisionError") (b:=true) PySem.F.isExc_ZeroDivisionError PySem.F.notTuple_ZeroDivisionError PySem.F.self_ZeroDivisionError ?_;rw[show bH aI (.glob 139) z'=.Name (G.nm 139) z'.pos by rw[hG.nm];rfl]
 refine aW yQ.there ?_;intro obx ebx ecx;refine Name_function_global F.kind Sl (G.load (hG.gl 139 (.type "ZeroDivisionError") rfl) F.gl F.bi (fun a o e=>I2.holds a o (I2.base a o e)) ⟨rfl,⟨obx,ebx,ecx⟩,?_⟩) (G.odd 139).1;rw[if_pos rfl];refine lands_againW yQ fun h3 yR Xi=>?_;have Xj:=Xh.trans Xi;have I3:Inv G B3 Z O h3:=P5.inv.Ao F3.cV o2 (kb yR.1);have So:bt G env B3 Z U h3:=F3.Ao Le (fun m h=>Xj.ns h) (kb yR.1);have Xk:∀a',a'∈fa G env [132]→a'∈fa G env own:=fun a' m=>by
  rcases List.mem_cons.mp m with h|h
  ·rw[h];exact .head _
  ·refine aW (List.mem_filterMap.mp h) ?_;intro x hx e
   rw[List.mem_singleton.mp hx]at e;exact .tail _ (List.mem_filterMap.mpr ⟨132,JN,e⟩)
 rw[←hG.nm];refine gv (own:=[132]) (s:={s3 with heap:=h3}) (by simp) (.inl (by rw[hG.nm];exact JO)) I3 So (v:=.raw (.ref ex)) .raw fun h4 tk F4 P6=>?_
 have Sp:get (set U 132 (.raw (.ref ex))) 100=some (.list ps):=gn hp;have Sq:get (set U 132 (.raw (.ref ex))) 132=some (.raw (.ref ex)):=gs;refine KN yR.first ?_;intro oe vse ee ece Mv eve
 refine ph (Xj.ns Xc) ?_;intro oL esL epL eL Xl zz;have exL:ex≠env.locals:=fun z=>by
  rw[z,eL]at ee;cases Option.some.inj ee;rw[Xl]at Mv;cases Mv
 refine oy ((Xe.of_slots ((up1.trans Xg).trans Xi):h3.TupAt t [])) ?_;intro ot' kt' Mw Xm DN;have tL:t≠env.locals:=fun z=>by
  rw[z,eL]at Mw;cases Option.some.inj Mw;rw[Xl]at DN;cases DN
 have exF:ex∉fa G env [132]:=fun m=>by
  rcases ez m with z|⟨n',eA⟩
  ·exact exL z
  ·refine cw (So.dI n' _ (aY eA)) ?_;intro zz zz zz zz v o' eo ed
   rw[ee]at eo;cases Option.some.inj eo;rw[Mv]at ed;cases ed
 have tF:t∉fa G env [132]:=fun m=>by
  rcases ez m with z|⟨n',eA⟩
  ·exact tL z
  ·refine cw (So.dI n' _ (aY eA)) ?_;intro zz zz zz zz v o' eo ed
   rw[Mw]at eo;cases Option.some.inj eo;rw[DN]at ed;cases ed
 have hx4:h4.ExcAt ex "ZeroDivisionError" (.ref t):=⟨oe,vse,P6.kept ee exF Sm.2.1 Sm.2.2,ece,Mv,eve⟩;have ht4:h4.TupAt t []:=⟨ot',kt',P6.kept Mw tF ot.2.1 ot.2.2,Xm,DN⟩;have P8:aG G (fa G env own) B Z s B3 Z O {s3 with heap:=h4,toks:=tk}:=by
  refine⟨P5.le,P5.pre,P6.inv,fun b o hb e=>?_,fun a' m'=>?_,P5.rest.trans .heap,P5.dF,P5.da⟩
  ·simp only[List.mem_append,not_or]at hb
   have e3:=P5.kept e (by simp) hb.2.1 hb.2.2
   have e4:=kb yR.1 b o (fun z=>hb.1 (by rw[z];exact .head _)) (Xf b o e hb.2.1 hb.2.2) e3
   exact P6.kept e4 (fun m=>hb.1 (Xk b m)) hb.2.1 hb.2.2
  ·exact F4.bL a' m'
 refine wpAny_execs_cons (wpAny_Return_some (wpAny_mono (Si hG Cm (U:=set U 132 (.raw (.ref ex))) (Q:=fun v ar=>v=.bool (a*b==c)∧ar=O) ?_ Sp h0 h1 h2 g0 g1 g2 hz z0 z1 z2 hm Sq P6.inv F4 hx4 ht4 Sm ot ⟨rfl,rfl⟩) ?_ fun zz zz x=>x.elim))
 ·have:=hA.units
  show A.units+10<cLine;unfold cLine;exact ag 2 0 (aa (ae (aj af (cZ 16 (aj ab gU))) c9) (ak (aj af fe) (nk 9900))) (by kd_p) this
 ·rintro v s5 ⟨u,Ej,B5,iM,⟨rfl,iy⟩,P9,r9⟩
  have iy:=iy.symm;subst iy;have F5:=F4.same P9;refine aW F5.ns ?_;intro m5 hn5 zz;refine VR.tH r9 ?_;have tG:=P8.trans (P9.wide F4);rw[hG.nm];refine wpAny_nameGoes JO hn5 (by rw[F.kind];rfl) fun h6 m' Xn Xo=>?_
  refine oz Xn ?_;clear Xn;intro o6 es6 ep6 e6 r6;have KO:=Inv.pz (W:=fa G env own) (s:=s5) (tk:=s5.toks+1) (h':=h6) P9.inv (.head _) F5.cV (fun b o hb g=>(Xo.2 b hb).trans g) ⟨o6,e6⟩ tG.bL;refine⟨.ret (.bool (a*b==c)),[],O,B5,iM,q,tG.trans KO,?_,.ret .bool⟩;exact⟨F5.kind,F5.gl,F5.bi,⟨m',⟨o6,es6,ep6,e6,r6⟩,(fun x v hx zz=>by cases hx)⟩,(fun x v hx=>by cases hx),F5.cV,(fun n c m=>by refine cw (F5.dI n c m) ?_;intro a1 a2 a3 a4 v o' eo ed;exact⟨a1,a2,a3,a4,v,o',(Xo.2 c a4).trans eo,ed⟩),F5.inj,F5.all⟩
theorem Cp{n:Nat}{A:Around}(hA:bY n A){env:Env}{own:List Nat}{xs ys:List Stmt}{U:aw}{O:Mu}{R:aw→Mu→Prop}{Q:Fl→aw→Mu→Prop}{B:ay}{Z:List Addr}{s:Shared}(I:Inv G B Z O s.heap)(F:bt G env B Z U s.heap)
  (h:cn G n env own (execs xs env) U O fun r ao ar=>r=.next∧R ao ar)
  (h':∀ao ar B' aH s',R ao ar→Inv G B' aH ar s'.heap→bt G env B' aH ao s'.heap→wpAny (model G.prog G.w) A (execs ys env) (PS G env own B' aH s' Q) bM s'):
  wpAny (model G.prog G.w) A (execs (xs++ys) env) (PS G env own B Z s Q) bM s:=by
 refine i6 (wpAny_mono (h A hA B Z s I F) ?_ fun zz zz x=>x);rintro f s1 ⟨r,a9,aA,B1,aE,⟨rfl,hR⟩,P1,F1,r1⟩;cases r1;exact wpAny_mono (h' a9 aA B1 aE s1 hR P1.inv F1) (fun zz zz h=>PS.after P1 h) fun zz zz x=>x
theorem gr{τ:Type}{turn:V→aw→Mu→List V→(aw→Mu→List V→Prop)→Prop}{J:aw→Prop}{O:Mu}{M:Nat}(f h:τ→V){ys:List τ}(step:∀y∈ys,∀U acc k,J U→acc.length+1≤M→(∀ao,J ao→k ao O (acc++[h y]))→turn (f y) U O acc k){U:aw}{k:aw→Mu→List V→Prop}(h0:J U)(hM:ys.length≤M)(hk:∀ao,J ao→k ao O (ys.map h)):cb turn (ys.map f) U O [] k:=by
 have e:∀l:List τ,(l.flatMap fun y=>[h y])=l.map h:=by
  intro l
  induction l with
  |nil=>rfl
  |cons x r ih=>rw[List.flatMap_cons,ih];rfl
 refine dZ (J:=J) (M:=M) f (fun y=>[h y]) (fun y hy U acc k hJ hM hK=>step y hy U acc k hJ (by simpa using hM) hK) h0 (by rw[e,List.length_map];simpa using hM) fun ao hJ=>?_
 rw[e];exact hk ao hJ
structure DO(sc:Scope)(y0 y1 y2 c z:Expr):Prop where
 s:DL sc y0
 t1:mE aI jr sc y1=true
 t2:mE aI js sc y2=true
 t:JM sc c z
noncomputable abbrev JP(y0 y1 y2 c z e:Expr)(bs r:List Stmt)(bp ip ep rp hp tp:Pos):List Stmt:=.If (.BoolOp .Or [u7 y0,mD aI jr y1,mD aI js y2] bp) bs [] ip::O4 c z e ep rp hp tp::r
theorem FG(hG:bx G){n:Nat}{A:Around}(hA:bY (n+5) A){env:Env}(v9:A.frames=some [env])(Al:env.frame=some env.locals){cd:Addr}(gm:env.code=.ref cd)(jG:codeHdIn G.K cd 222=true)(hq:env.qual++"<lambda>"=ux)
  {own:List Nat}(JN:132∈own){y0 y1 y2 c' z' e':Expr}{bs r:List Stmt}{bp ip ep rp vX tp:Pos}(hB:DO env.scope y0 y1 y2 c' z'){U:aw}{O:Mu}{ps:List (List Int×Int)}{a b c rest fi mi:Int}{ws:List Int}
  (u9:get U 105=some (.list (ps.map bT)))(l1:1≤ps.length)(lz:ps.length<64)(hs:∀ (i:Nat) p q,ps[i]?=some p→ps[i+1]?=some q→v8 (q.1,-q.2) (p.1,-p.2)=false)
  (Xp:get U 100=some (.list [.tuple [.int a,.int rest],.tuple [.int b,.int rest],.tuple [.int c,.int rest]]))(aah:get U 104=some (.int rest))(JQ:get U 102=some (.list (ws.map .int)))(hw:ws.sum=b)
  (Mr:get U 63=some (.int fi))(Ms:get U 130=some (.int mi))(Mt:Sz 10 fi)(Sk:Sz 10 mi)(halt:c7 fi mi fi 0 0 0=0)(hm:IntMulOk a b)(rW:a*b=c)
  {B:ay}{Z:List Addr}{s:Shared}(I:Inv G B Z O s.heap)(F:bt G env B Z U s.heap):
  wpAny (model G.prog G.w) A (execs (JP y0 y1 y2 c' z' e' bs r bp ip ep rp vX tp) env) (PS G env own B Z s fun r zz ar=>r=.ret (.bool true)) bM s:=by
 have Sr:fY G (n+5) env (isTrue (.BoolOp .Or [u7 y0,mD aI jr y1,mD aI js y2] bp) env (eval (.BoolOp .Or [u7 y0,mD aI jr y1,mD aI js y2] bp) env)) U O fun b ar=>b=false∧ar=O:=by
  refine ra (kA (FE hG hB.s gm jG hq u9 l1 lz hs ?_));refine kA (nG hG.nm hG.gl jr hB.t1 rfl ?_);unfold jr;k_upd;refine dE ?_;k_upd;refine⟨_,Iter.list,?_⟩;show cb _ ([a,b,c].map fun x=>V.tuple [.int x,.int rest]) _ _ _ _;refine gr (M:=3) (J:=fun zz=>True) (fun x=>V.tuple [.int x,.int rest]) (fun zz=>.int rest) (fun y hy ao acc k zz hM hK=>?_) trivial (by simp) (fun ao zz=>?_)
  ·have aai:get (set ao 103 (.tuple [.int y,.int rest])) 103=some (.tuple [.int y,.int rest]):=gs
   first|show aX _ _ _ _ _ _ _|show eh _ _ _ _ _ _ _|skip
   generalize set ao 103 (.tuple [.int y,.int rest])=Mj at *;refine cR ?_;k_upd;refine jz (v:=.int rest) rfl (by decide) (.of (by simp)) ?_
   exact⟨.of (by exact GS hM),hK Mj trivial⟩
  refine bK ?_;k_upd;refine⟨.of (by simp),bK ?_⟩
  k_upd;refine lx ⟨by decide,by decide,by simp⟩ ?_
  rw[eO];refine HM (b:=true) ?_ ?_
  ·exact u6 48 [rest,rest,rest]
  ·k_upd
   refine kA (nG hG.nm hG.gl js hB.t2 rfl ?_);unfold js;k_upd;refine V_at (v:=.tuple [.int b,.int rest]) rfl (by simp) (.of (by simp)) ?_
   k_upd;refine jz (v:=.int b) rfl (by decide) (.of (by simp)) ?_
   k_upd;refine Dm ?_;rw[hw];k_upd;rw[show(b !=b)=false by simp]
   exact xN ⟨rfl,rfl⟩
 refine wpAny_execs_cons (wpAny_If (wpAny_mono (Sr A hA B Z s I F) ?_ fun zz zz x=>x));rintro t s1 ⟨aA,B1,aE,⟨rfl,rfl⟩,P1⟩;have F1:=F.same P1;simp only[Bool.false_eq_true,if_false];refine wpAny_execs_nil ?_;refine wpAny_execs_cons (wpAny_mono (Mq hG (n:=n+3) hA v9 Al (own:=own) JN hB.t (Q:=fun r zz ar=>r=.ret (.bool true)) Xp rfl rfl rfl rfl rfl rfl (by simp) (by simp) (by simp) (by simp) hm Mr Ms Mt Sk halt ?_ P1.inv F1) ?_ fun zz zz x=>x)
 ·rw[rW];simp
 ·rintro f s2 ⟨r',b9,aZ,B2,aV,rfl,P2,F2,r2⟩
  cases r2 with
  |ret r2=>exact⟨_,b9,aZ,B2,aV,rfl,(P1.wide F).trans P2,F2,.ret r2⟩
noncomputable abbrev Mo:=Nat×Nat×Nat
noncomputable abbrev Po:=List (Mo×Int)
noncomputable def gI(x y z:Int)(m:Mo):Int:=x ^ m.1*(y ^ m.2.1*z ^ m.2.2)
noncomputable def cE(x y z:Int):Po→Int
 |[]=>0
 |(m,c)::r=>c*gI x y z m+cE x y z r
noncomputable def xm(m:Mo)(c:Int):Po→Po
 |[]=>[(m,c)]
 |(m',c')::r=>if m=m' then(m',c+c')::r else(m',c')::xm m c r
theorem xn(x y z:Int)(m:Mo)(c:Int):∀p:Po,cE x y z (xm m c p)=c*gI x y z m+cE x y z p
 |[]=>rfl
 |(m',c')::r=>by
  unfold xm
  by_cases h:m=m'
  ·rw[if_pos h]
   subst h;show(c+c')*gI x y z m+cE x y z r=c*gI x y z m+(c'*gI x y z m+cE x y z r);rw[Int.add_mul,Int.add_assoc]
  ·rw[if_neg h]
   show c'*gI x y z m'+cE x y z (xm m c r)=c*gI x y z m+(c'*gI x y z m'+cE x y z r);rw[xn x y z m c r];exact ag 0 3 (aS (bh cu (bh aN aq)) (bh aN (bh cu aq))) (by kd_p)
noncomputable def norm:Po→Po
 |[]=>[]
 |(m,c)::r=>xm m c (norm r)
theorem xo(x y z:Int):∀p:Po,cE x y z (norm p)=cE x y z p
 |[]=>rfl
 |(m,c)::r=>by
  show cE x y z (xm m c (norm r))=c*gI x y z m+cE x y z r;rw[xn,xo x y z r]
theorem iJ(x y z:Int):∀p q:Po,cE x y z (p++q)=cE x y z p+cE x y z q
 |[],q=>by simp[cE]
 |(m,c)::r,q=>by
  show c*gI x y z m+cE x y z (r++q)=c*gI x y z m+cE x y z r+cE x y z q;rw[iJ x y z r q];exact ag 0 3 (aS (bh cu (bh aN aq)) (bh (bh cu aN) aq)) (by kd_p)
noncomputable def va(p:Po):Po:=p.map fun t=>(t.1,-t.2)
theorem Ap(x y z:Int):∀p:Po,cE x y z (va p) = - cE x y z p
 |[]=>rfl
 |(m,c)::r=>by
  show(-c)*gI x y z m+cE x y z (va r) = -(c*gI x y z m+cE x y z r);rw[Ap x y z r,Int.neg_mul];exact N5
noncomputable def JR(k:Int)(p:Po):Po:=p.map fun t=>(t.1,k*t.2)
theorem DP(x y z k:Int):∀p:Po,cE x y z (JR k p)=k*cE x y z p
 |[]=>by simp[JR,cE]
 |(m,c)::r=>by
  show(k*c)*gI x y z m+cE x y z (JR k r)=k*(c*gI x y z m+cE x y z r);rw[DP x y z k r,Int.mul_add,Int.mul_assoc]
theorem JS(x y z:Int)(m m':Mo):gI x y z (m.1+m'.1,m.2.1+m'.2.1,m.2.2+m'.2.2)=gI x y z m*gI x y z m':=by
 unfold gI;simp only[Int.pow_add]
 ac_rfl
noncomputable def Aq(m:Mo)(c:Int)(q:Po):Po:=q.map fun t=>((m.1+t.1.1,m.2.1+t.1.2.1,m.2.2+t.1.2.2),c*t.2)
theorem Ar(x y z:Int)(m:Mo)(c:Int):∀q:Po,cE x y z (Aq m c q)=c*gI x y z m*cE x y z q
 |[]=>by simp[Aq,cE]
 |(m',c')::r=>by
  show(c*c')*gI x y z (m.1+m'.1,m.2.1+m'.2.1,m.2.2+m'.2.2)+cE x y z (Aq m c r)=c*gI x y z m*(c'*gI x y z m'+cE x y z r);rw[Ar x y z m c r,JS,Int.mul_add]
  congr 1
  ac_rfl
noncomputable def p4:Po→Po→Po
 |[],_=>[]
 |(m,c)::r,q=>Aq m c q++p4 r q
theorem lp(x y z:Int):∀p q:Po,cE x y z (p4 p q)=cE x y z p*cE x y z q
 |[],q=>by simp[p4,cE]
 |(m,c)::r,q=>by
  show cE x y z (Aq m c q++p4 r q)=(c*gI x y z m+cE x y z r)*cE x y z q;rw[iJ,Ar,lp x y z r q,Int.add_mul]
noncomputable def vb(p:Po):Bool:=(norm p).all fun t=>t.2==0
theorem xp(x y z:Int):∀p:Po,(p.all fun t=>t.2==0)=true→cE x y z p=0
 |[],_=>rfl
 |(m,c)::r,h=>by
  simp only[List.all_cons,Bool.and_eq_true]at h;show c*gI x y z m+cE x y z r=0;rw[xp x y z r h.2,eq_of_beq h.1];simp
theorem jj{p q:Po}(h:vb (p++va q)=true)(x y z:Int):cE x y z p=cE x y z q:=by
 have h1:=xp x y z _ h;rw[xo,iJ,Ap]at h1;exact ag 0 2 (aa (aS (bh aN (cI aq)) aJ) (aS aN aq)) (by kd_p) h1
noncomputable def vc(a b c:Nat):Po:=[((a+2,b+1,c),1),((a+2,c,b+1),-1),((b+1,a+2,c),-1),((b+1,c,a+2),1),((c,a+2,b+1),1),((c,b+1,a+2),-1)]
theorem m4(x y z:Int)(a b c:Nat):cE x y z (vc a b c)=c7 x y z a b c:=by
 unfold c7 vc;have e1:((a:Int)+2).toNat=a+2:=by exact N6
 have e2:((b:Int)+1).toNat=b+1:=by exact N7
 have e3:(c:Int).toNat=c:=by exact N8
 rw[e1,e2,e3];simp only[cE,gI,Int.mul_sub,Int.one_mul,Int.add_zero];exact ag 0 6 (aS (bh Gv (bh (xG (-1) kR) (bh (xG (-1) fy) (bh cu (bh aN (xG (-1) aq)))))) (bh (bR (bR Gv kR) (bR fy cu)) (bR aN aq))) (by kd_p)
noncomputable def kQ:List Str:=[Str.ofString "",Str.ofString "\"",Str.ofString "\\",Str.ofString "\"()",Str.ofString "\"("]
noncomputable def aD(f:List (List Int)):List Int:=f.reverse.flatten
noncomputable def vd(ls:List Int)(rise upper:Int):List Int:=(List.range (ls.length+1)).map fun k=>rise+((ls.take k).count upper:Nat)-((ls.take k).count (upper+1):Nat)
noncomputable def eH(ls:List Int)(rise upper:Int):Int:=(vd ls rise upper).foldl min rise
noncomputable def bJ:List (List Nat):=[[2,1],[2,1,1],[2,2,1],[1,1],[2,2]]
noncomputable def bZ:List (Nat×Nat×Nat):=[(0,0,0),(1,0,0),(2,0,0),(0,1,0),(1,1,0),(2,1,0),(0,2,0),(1,2,0),(2,2,0),(0,0,1),(1,0,1),(2,0,1),(0,1,1)]
noncomputable def rowsOf(s:Nat×Nat×Nat):List Int:=[((s.1+s.2.1+s.2.2:Nat):Int),((s.2.1+s.2.2:Nat):Int),(s.2.2:Int)]
noncomputable def bF(s:Nat×Nat×Nat)(ls:List Int):List Int:=[((s.1+s.2.1+s.2.2+ls.count 1:Nat):Int),((s.2.1+s.2.2+ls.count 2:Nat):Int),((s.2.2+ls.count 3:Nat):Int)]
noncomputable def p5(s:Nat×Nat×Nat)(ls:List Int):Bool:=decide (0≤eH ls s.1 1)&&decide (0≤eH ls s.2.1 2)
noncomputable def yS(s:Nat×Nat×Nat)(ls:List Int):List (List Int):=(List.range 3).map fun k=>List.replicate ((bF s ls).getD k 0).toNat ((k:Int)+1)
noncomputable def yT(s:Nat×Nat×Nat)(f:List (List Int)):Bool:=(gC f ((s.1+s.2.1+s.2.2:Nat):Int) ((s.2.1+s.2.2:Nat):Int) (s.2.2:Int)==yS s (aD f))==p5 s (aD f)
noncomputable def dz(m:List (List Int×Int))(i:Nat):List Int:=(m.getD i ([],0)).1
noncomputable def m6(m:List (List Int×Int))(p:List Int×Int):List (List Int×Int):=
 let k:=cP (fun i=>fk p.1 (dz m i)) m.length 0 m.length
 m.take k++p::m.drop k
noncomputable def jk(s:Nat×Nat×Nat):List (List (List Int))→Nat→List (List Int×Int)→List (List Int×Int)
 |[],_,m=>m
 |f::r,t,m=>jk s r (t+1) (if p5 s (aD f) then m6 m (bF s (aD f),-(t:Int)) else m)
noncomputable def aF(s:Nat×Nat×Nat)(ah:List Nat):List (List Int×Int):=jk s (fillAll ah) 0 []
noncomputable def m7(m:List (List Int×Int))(x:List Int):Nat:=cP (fun i=>!fk (dz m i) x) m.length 0 m.length
noncomputable def Cq(m:List (List Int×Int))(x:List Int):Nat:=cP (fun i=>fk x (dz m i)) m.length 0 m.length
noncomputable def bO(m:List (List Int×Int)):List (List Int):=(List.range m.length).flatMap fun k=>if m7 m (dz m k)=k then[dz m k] else[]
noncomputable def b8(m:List (List Int×Int)):List Int:=(bO m).map fun x=>(Cq m x:Int)-(m7 m x:Int)
noncomputable def p6(m:List (List Int×Int)):Bool:=(List.range m.length).all fun i=>decide (i+1<m.length→v8 ((m.getD (i+1) ([],0)).1,-(m.getD (i+1) ([],0)).2) ((m.getD i ([],0)).1,-(m.getD i ([],0)).2)=false)
noncomputable def ve(f:List (List Int)):Po:=[(((aD f).count 1,(aD f).count 2,(aD f).count 3),1)]
noncomputable def nL(ah:List Nat):Po:=(fillAll ah).flatMap ve
noncomputable def vf(x:List Int):Po:=vc (x.getD 0 0).toNat (x.getD 1 0).toNat (x.getD 2 0).toNat
noncomputable def JT(m:List (List Int×Int)):Po:=((b8 m).zip (bO m)).flatMap fun p=>JR p.1 (vf p.2)
noncomputable def Xq(s:Nat×Nat×Nat)(ah:List Nat):Bool:=vb (JT (aF s ah)++va (p4 (vf (rowsOf s)) (nL ah)))
noncomputable def Su(ah:List Nat):Bool:=vb (vc ((ah.count 1)+(ah.count 2)) (ah.count 2) 0++va (p4 (vc 0 0 0) (nL ah)))
noncomputable def gu(s:Nat×Nat×Nat)(ah:List Nat):Bool:=(fillAll ah).all (yT s)&&p6 (aF s ah)&&decide (1≤(aF s ah).length)&&decide ((aF s ah).length<64)&&Xq s ah
noncomputable def nM:Nat×Nat×Nat→Po
 |(0,0,0)=>[((0,0,0),1)]
 |(1,0,0)=>[((0,0,1),1),((0,1,0),1),((1,0,0),1)]
 |(2,0,0)=>[((0,0,2),1),((0,1,1),1),((0,2,0),1),((1,0,1),1),((1,1,0),1),((2,0,0),1)]
 |(0,1,0)=>[((0,1,1),1),((1,0,1),1),((1,1,0),1)]
 |(1,1,0)=>[((0,1,2),1),((0,2,1),1),((1,0,2),1),((1,1,1),2),((1,2,0),1),((2,0,1),1),((2,1,0),1)]
 |(2,1,0)=>[((0,1,3),1),((0,2,2),1),((0,3,1),1),((1,0,3),1),((1,1,2),2),((1,2,1),2),((1,3,0),1),((2,0,2),1),((2,1,1),2),((2,2,0),1),((3,0,1),1),((3,1,0),1)]
 |(0,2,0)=>[((0,2,2),1),((1,1,2),1),((1,2,1),1),((2,0,2),1),((2,1,1),1),((2,2,0),1)]
 |(1,2,0)=>[((0,2,3),1),((0,3,2),1),((1,1,3),1),((1,2,2),2),((1,3,1),1),((2,0,3),1),((2,1,2),2),((2,2,1),2),((2,3,0),1),((3,0,2),1),((3,1,1),1),((3,2,0),1)]
 |(2,2,0)=>[((0,2,4),1),((0,3,3),1),((0,4,2),1),((1,1,4),1),((1,2,3),2),((1,3,2),2),((1,4,1),1),((2,0,4),1),((2,1,3),2),((2,2,2),3),((2,3,1),2),((2,4,0),1),((3,0,3),1),((3,1,2),2),((3,2,1),2),((3,3,0),1),((4,0,2),1),((4,1,1),1),((4,2,0),1)]
 |(0,0,1)=>[((1,1,1),1)]
 |(1,0,1)=>[((1,1,2),1),((1,2,1),1),((2,1,1),1)]
 |(2,0,1)=>[((1,1,3),1),((1,2,2),1),((1,3,1),1),((2,1,2),1),((2,2,1),1),((3,1,1),1)]
 |(0,1,1)=>[((1,2,2),1),((2,1,2),1),((2,2,1),1)]
 |_=>[]
theorem Cr:(bZ.all fun s=>vb (vf (rowsOf s)++va (p4 (vc 0 0 0) (nM s))))=true:=by decide +kernel
theorem FI:bJ.all Su=true:=by decide +kernel
theorem Cs:(bJ.all fun l=>decide (((fillAll l).length:Int)=((((l.count 1:Nat):Int)+1)*(((l.count 2:Nat):Int)+1)*(((l.count 1:Nat):Int)+((l.count 2:Nat):Int)+2)).fdiv 2))=true:=by decide +kernel
theorem Mx:bJ.all (gu (0,0,0))=true:=by decide +kernel
theorem My:bJ.all (gu (1,0,0))=true:=by decide +kernel
theorem Mz:bJ.all (gu (2,0,0))=true:=by decide +kernel
theorem MA:bJ.all (gu (0,1,0))=true:=by decide +kernel
theorem MB:bJ.all (gu (1,1,0))=true:=by decide +kernel
theorem MC:bJ.all (gu (2,1,0))=true:=by decide +kernel
theorem MD:bJ.all (gu (0,2,0))=true:=by decide +kernel
theorem ME:bJ.all (gu (1,2,0))=true:=by decide +kernel
theorem MF:bJ.all (gu (2,2,0))=true:=by decide +kernel
theorem MG:bJ.all (gu (0,0,1))=true:=by decide +kernel
theorem JU:bJ.all (gu (1,0,1))=true:=by decide +kernel
theorem JV:bJ.all (gu (2,0,1))=true:=by decide +kernel
theorem JW:bJ.all (gu (0,1,1))=true:=by decide +kernel
theorem FJ:∀s∈bZ,bJ.all (gu s)=true:=by
 intro s h;simp only[bZ,List.mem_cons,List.not_mem_nil,or_false]at h;rcases h with rfl|rfl|rfl|rfl|rfl|rfl|rfl|rfl|rfl|rfl|rfl|rfl|rfl
 ·exact Mx
 ·exact My
 ·exact Mz
 ·exact MA
 ·exact MB
 ·exact MC
 ·exact MD
 ·exact ME
 ·exact MF
 ·exact MG
 ·exact JU
 ·exact JV
 ·exact JW
noncomputable abbrev app(o:Option (List Nat))(c:Nat)(k:Option (List Nat)→List Nat):List Nat:=match o with
 |none=>c::k none
 |some q=>k (some (q++[c]))
noncomputable def yU(l:List Nat):Bool→Option (List Nat)→List Nat:=l.rec (fun zz o=>o.getD []) fun c zz k e o=>
 bif e then app o c (k false) else bif Nat.beq c 92 then app o c (k true) else bif Nat.beq c 34 then k false (match o with|none=>some [c]|some _=>none) else app o c (k false)
noncomputable def Sv(l:List Nat):Bool→Nat→Bool:=l.rec (fun zz n=>Nat.beq n 0) fun c zz k e n=>
 bif e then k false n else bif Nat.beq c 92 then k true n else bif Nat.beq c 40 then k false (n+1) else bif Nat.beq c 41 then(bif Nat.beq n 0 then false else k false (n-1)) else k false n
theorem MH{c d:Nat}(h:c≠d):Nat.beq c d=false:=Bool.eq_false_iff.mpr fun z=>h (Nat.eq_of_beq_eq_true z)
theorem gT{τ:Type}{c d:Nat}{a b:τ}(h:c≠d):(bif Nat.beq c d then a else b)=b:=by rw[MH h];rfl
theorem tm{c d:Nat}(h:c≠d):(⟨#[c]⟩:Str)≠⟨#[d]⟩:=fun e=>h (congrArg (fun x:Str=>x.cps.toList.headD 0) e)
theorem tn{c d:Nat}:yA++(⟨#[c]⟩:Str)≠⟨#[d]⟩:=fun e=>nomatch (show 2=1 from congrArg (fun x:Str=>x.cps.size) e)
theorem yV{i c:Nat}{l:List Nat}(h:c≠92):cD i false (c::l)=((i:Int),⟨#[c]⟩)::cD (i+1) false l:=if_neg h
theorem As{p:Int}{c:Str}{es:List (Int×Str)}{o:Int}(h:c≠Mc)(k:c≠cls):dk ((p,c)::es) o=dk es o:=(if_neg h).trans (if_neg k)
theorem Sw(l:List Nat):∀ {i n:Nat} {e:Bool},dk (cD i e l) (n:Int)=Sv l e n:=by
 induction l with
 |nil=>
  intro i n e;cases e<;>cases n<;>rfl
 |cons c l ih=>
  intro i n e;cases e with
  |true=>exact(As tn tn).trans ih
  |false=>
   by_cases h:c=92
   ·cases h;exact ih
   ·rw[yV h]
    refine Eq.trans ?_ (gT h).symm
    by_cases h1:c=40
    ·cases h1;exact ih
    ·refine Eq.trans ?_ (gT h1).symm
     by_cases h2:c=41
     ·cases h2
      cases n with
      |zero=>rfl
      |succ n=>
       have z:((n+1:Nat):Int)-1=n:=Int.add_sub_cancel n 1;exact(if_neg (c:=((n+1:Nat):Int)-1<0) (by rw[z];exact Int.not_lt.mpr (Int.natCast_nonneg n))).trans ((congrArg (dk _) z).trans ih)
     ·exact(As (tm h1) (tm h2)).trans (ih.trans (gT h2).symm)
noncomputable def sg(x:Str)(a b:Nat):List Nat:=(x.cps.toList.drop a).take (b-a)
theorem vg{x:Str}{a b:Nat}(qk:a≤b)(hb:b≤x.length):(dO x (some (a:Int)) (some (b:Int))).cps.toList=sg x a b:=by
 have h:=StrLaws.sliced_plain x qk hb;unfold dO
 by_cases q:((Builtin.Str.strSliceIndices (some (a:Int)) (some (b:Int)) 1 x.length).length==x.length)=true
 ·refine(congrArg (fun x:Str=>x.cps.toList) (if_pos q)).trans ?_
  have q:=eq_of_beq q;rw[StrLaws.strSliceIndices_plain qk hb,List.length_map,List.length_range]at q;have z:a=0:=Nat.le_zero.mp (Nat.le_of_add_le_add_left (a:=b) (Nat.le_trans (Nat.add_le_add_right hb a) (by rw[←q,Nat.sub_add_cancel qk];exact Nat.le_refl _)))
  cases z;exact(List.take_of_length_le (Nat.le_of_eq q.symm)).symm
 ·exact(congrArg (fun x:Str=>x.cps.toList) (if_neg q)).trans h
theorem Ct{x:Str}{a:Nat}(h:a≤x.length):(dO x (some (a:Int)) none).cps.toList=sg x a x.length:=by
 rw[←vg h (Nat.le_refl _)];unfold dO;rw[StrLaws.sliceIdx_none_hi]
noncomputable def jn(r:List Str):List Nat:=(r.map (·.cps.toList)).flatten
theorem Au{r:List Str}{a:Str}:jn (r++[a])=jn r++a.cps.toList:=by
 unfold jn;rw[List.map_append,List.flatten_append];exact congrArg _ (List.append_nil _)
theorem JX(r:List Str):(Txt.join ⟨#[]⟩ r).cps.toList=jn r:=by
 refine(congrArg (fun x:Str=>x.cps.toList) (StrLaws.glued_eq_join _ r)).trans ?_
 induction r with
 |nil=>rfl
 |cons x r ih=>cases r with
  |nil=>exact(List.append_nil _).symm
  |cons y r=>exact(congrArg Array.toList (congrArg (· ++ _) (Array.append_empty (xs:=x.cps)))).trans (Array.toList_append.trans (congrArg _ ih))
noncomputable def fin(x:Str)(p:Int×List Str):List Nat:=jn (if p.1<x.length then p.2++[dO x (some p.1) none] else p.2)
section
variable{x:Str}{c:Nat}{l:List Nat}{i s q:Nat}{r:List Str}{o:Option Int}{S:Int}{e:Bool}
theorem tq:sg x i i=[]:=by unfold sg;rw[Nat.sub_self];rfl
theorem vk(h:x.cps.toList.drop i=c::l)(hs:s≤i):sg x s (i+1)=sg x s i++[c]:=by
 unfold sg;rw[Nat.succ_sub hs,List.take_add_one,List.getElem?_drop,Nat.add_sub_of_le hs,←List.head?_drop,h];rfl
theorem MI(h:s≤q)(h':q≤i):sg x s q++sg x q i=sg x s i:=by
 unfold sg;rw[show x.cps.toList.drop q=(x.cps.toList.drop s).drop (q-s) from by rw[List.drop_drop,Nat.add_sub_of_le h],←List.take_add,Nat.add_comm,Nat.sub_add_sub_cancel h' h]
theorem p7{p:Int}{c:Str}{es:List (Int×Str)}(h:c≠L9):fin x (c8 x ((p,c)::es) S o r)=fin x (c8 x es S o r):=congrArg (fin x) (if_neg h)
theorem Av(h:s≤x.length):fin x (s,r)=jn r++sg x s x.length:=by
 unfold fin
 by_cases c:s<x.length
 ·rw[if_pos (Int.ofNat_lt.mpr c),Au,Ct h]
 ·rw[if_neg fun z=>c (Int.ofNat_lt.mp z),Nat.le_antisymm h (Nat.le_of_not_lt c),tq,List.append_nil]
theorem FK(h:x.cps.toList.drop i=[])(k:i≤x.length):i=x.length:=Nat.le_antisymm k (List.drop_eq_nil_iff.mp h)
theorem FL(h:x.cps.toList.drop i=c::l):x.cps.toList.drop (i+1)=l∧i+1≤x.length:=
 ⟨by rw[←List.tail_drop,h];rfl,Nat.lt_of_not_le fun z=>nomatch h.symm.trans (List.drop_eq_nil_iff.mpr z)⟩
theorem Sx{ys:List Nat}(h:x.cps.toList.drop i=c::l)(hs:s≤i):jn r++(sg x s (i+1)++ys)=jn r++(sg x s i++c::ys):=by rw[vk h hs,List.append_assoc];rfl
theorem SA{ys:List Nat}(h:x.cps.toList.drop i=c::l)(hs:q≤i):jn r++(ys++yU l e (some (sg x q (i+1))))=jn r++(ys++yU l e (some (sg x q i++[c]))):=by rw[vk h hs]
def StN(x:Str)(i:Nat)(l:List Nat):Prop:=∀ (e:Bool) (s:Nat) (r:List Str),s≤i→fin x (c8 x (cD i e l) s none r)=jn r++(sg x s i++yU l e none)
def StQ(x:Str)(i:Nat)(l:List Nat):Prop:=∀ (e:Bool) (s q:Nat) (r:List Str),s≤q→q≤i→fin x (c8 x (cD i e l) s (some (q:Int)) r)=jn r++(sg x s q++yU l e (some (sg x q i)))
theorem Aw:fin x (c8 x (cD i e []) S o r)=fin x (S,r):=by
 cases e with
 |false=>rfl
 |true=>exact p7 (c:=yA) (by decide)
theorem MJ(h:s≤q)(hq:q≤x.length):jn (if(s:Int)=(q:Int) then r else r++[dO x (some (s:Int)) (some (q:Int))])=jn r++sg x s q:=by
 by_cases c:s=q
 ·cases c;rw[if_pos rfl,tq,List.append_nil]
 ·rw[if_neg fun z=>c (Int.ofNat_inj.mp z),Au,vg h hq]
end
theorem strip_go{x:Str}(l:List Nat):∀ {i:Nat},x.cps.toList.drop i=l→i≤x.length→StN x i l∧StQ x i l:=by
 induction l with
 |nil=>
  intro i h k;cases FK h k;exact⟨fun e s r hs=>Aw.trans ((Av hs).trans (congrArg _ (List.append_nil _).symm)),fun e s q r hs hq=>Aw.trans ((Av (Nat.le_trans hs hq)).trans (congrArg _ (MI hs hq).symm))⟩
 |cons c l ih=>
  intro i h k;obtain⟨h1,k1⟩:=FL h;obtain⟨iN,iQ⟩:=ih h1 k1;refine⟨fun e s r hs=>?_,fun e s q r hs hq=>?_⟩
  ·have I:=fun e=>(iN e s r (Nat.le_succ_of_le hs)).trans (Sx h hs)
   cases e with
   |true=>exact(p7 tn).trans (I _)
   |false=>
    by_cases a:c=92
    ·cases a;exact I _
    ·rw[yV a]
     by_cases b:c=34
     ·cases b
      refine(iQ _ s i r hs (Nat.le_succ i)).trans ?_;rw[vk h (Nat.le_refl i),tq];rfl
     ·refine(p7 (tm b)).trans ((I _).trans (congrArg (fun z=>jn r++(sg x s i++z)) ?_))
      exact((gT a).trans (gT b)).symm
  ·have I:=fun e=>(iQ e s q r hs (Nat.le_succ_of_le hq)).trans (SA h hq)
   cases e with
   |true=>exact(p7 tn).trans (I _)
   |false=>
    by_cases a:c=92
    ·cases a;exact I _
    ·rw[yV a]
     by_cases b:c=34
     ·cases b
      refine(iN _ (i+1) _ (Nat.le_refl _)).trans ?_;rw[MJ hs (Nat.le_trans hq k),tq,List.append_assoc];rfl
     ·refine(p7 (tm b)).trans ((I _).trans (congrArg (fun z=>jn r++(sg x s q++z)) ?_))
      exact((gT a).trans (gT b)).symm
theorem SD(l:List Nat):∀ {e:Bool},34∉l→yU l e none=l:=by
 induction l with
 |nil=>exact fun zz=>rfl
 |cons c l ih=>
  intro e h;have I:=fun e=>congrArg (c :: ·) (ih (e:=e) fun z=>h (List.mem_cons_of_mem _ z))
  cases e with
  |true=>exact I _
  |false=>
   by_cases a:c=92
   ·cases a;exact I _
   ·exact((gT a).trans (gT fun z=>h (by rw[z];exact List.mem_cons_self))).trans (I _)
theorem rX(x:Str):(fU x).cps.toList=yU x.cps.toList false none:=by
 unfold fU
 by_cases h:34∈x.cps.toList
 ·refine(congrArg (fun x:Str=>x.cps.toList) (if_pos (decide_eq_true h))).trans ((JX _).trans ?_)
  exact(strip_go (x:=x) _ rfl (Nat.zero_le _)).1 false 0 [] (Nat.le_refl _)
 ·exact(congrArg (fun x:Str=>x.cps.toList) (if_neg fun z=>h (of_decide_eq_true z))).trans (SD _ h).symm
theorem Ax(x:Str):checkOf x=Sv (yU x.cps.toList false none) false 0:=by
 rw[←rX];exact Sw _
noncomputable def asc(x:Str):Bool:=x.cps.toList.all fun c=>Nat.blt c 128
noncomputable def MK(x:Str)(want:Bool):Bool:=Sv (yU x.cps.toList false none) false 0==want&&asc x&&Nat.ble x.length 1000&&(yU x.cps.toList false none).all fun c=>Nat.blt c 128
noncomputable def ML(ls:List Int)(rise upper hide:Int):Bool:=kQ.all fun e=>MK (textOf ls rise upper hide++e) (decide (0≤eH ls rise upper)&&(e !=Str.ofString "\"("))
noncomputable def Xr(h r:Nat):Bool:=bJ.all fun l=>(fillAll l).all fun f=>ML (aD f) r 1 h&&ML (aD f) r 2 h
noncomputable def yW(h:Nat):Bool:=(List.range 3).all (Xr h)
theorem Xs:yW 0=true:=by decide +kernel
theorem Xt:yW 1=true:=by decide +kernel
theorem Xu:yW 2=true:=by decide +kernel
theorem Xv:yW 3=true:=by decide +kernel
theorem Xw:yW 4=true:=by decide +kernel
theorem Xx:yW 5=true:=by decide +kernel
theorem Xy:yW 6=true:=by decide +kernel
theorem Xz:yW 7=true:=by decide +kernel
theorem Ay{P:Nat→Prop}{n:Nat}(a:P 0)(z:∀r<n,P (r+1)):∀r<n+1,P r:=fun r h=>by
 cases r with
 |zero=>exact a
 |succ r=>exact z r (Nat.lt_of_succ_lt_succ h)
theorem SE:∀h<8,yW h=true:=Ay Xs (Ay Xt (Ay Xu (Ay Xv (Ay Xw (Ay Xx (Ay Xy (Ay Xz fun r h=>absurd h (Nat.not_lt_zero r))))))))
theorem MM(h:Nat)(k:h<8)(r:Nat)(j:r<3):Xr h r=true:=List.all_eq_true.mp (SE h k) r (List.mem_range.mpr j)
noncomputable def Cu(low blanks extra:Int):Bool:=(List.range 3).all fun a=>(List.range 3).all fun b=>if 1≤b∧b≤a then(List.range 3).all fun i=>(List.range 3).all fun j=>pV (sN (gQ (bo a i) low blanks)) (sN (DI a b j low blanks extra))==fw (bo a i) (bo b j) else true
theorem yX{low blanks extra:Int}(h:Cu low blanks extra=true):xh low blanks extra:=by
 intro a ha b hb h1 h2 i hi j hj;have h:=List.all_eq_true.mp h a (List.mem_range.mpr ha);have h:=List.all_eq_true.mp h b (List.mem_range.mpr hb);rw[if_pos ⟨h1,h2⟩]at h;have h:=List.all_eq_true.mp h i (List.mem_range.mpr hi);have h:=List.all_eq_true.mp h j (List.mem_range.mpr hj);exact eq_of_beq h
theorem FN:([((1:Int),[(1:Int),2,3]),(2,[1,2,3,4])].all fun p=>([0,1,2]:List Int).all fun b=>p.2.all fun e=>Cu p.1 b e)=true:=by decide +kernel
noncomputable def Cv(ah:List Nat):Bool:=decide (0<ah.length)&&decide (ah.length≤5)&&decide (1≤ah.getD 0 0)&&decide (ah.getD 0 0<3) &&
 ((List.range ah.length).all fun j=>decide (j+1<ah.length→1≤ah.getD j 0∧ah.getD j 0<3∧1≤ah.getD (j+1) 0∧ah.getD (j+1) 0≤ah.getD j 0)) &&
 ((List.range ah.length).all fun j=>((b5 ah j).all fun f=>!f.isEmpty&&decide (f.length≤10))&&decide ((b5 ah j).length≤100))
theorem jP{ah:List Nat}(h:Cv ah=true):DJ ah:=by
 unfold Cv at h;simp only[Bool.and_eq_true,decide_eq_true_eq]at h;obtain⟨⟨⟨⟨⟨h1,h2⟩,h3⟩,h4⟩,h5⟩,h6⟩:=h;refine⟨h1,h2,⟨h3,h4⟩,fun j hj=>?_,fun j hj=>?_⟩
 ·have:=List.all_eq_true.mp h5 j (List.mem_range.mpr (by exact N9 hj))
  exact of_decide_eq_true this hj
 ·have:=List.all_eq_true.mp h6 j (List.mem_range.mpr hj)
  simp only[Bool.and_eq_true,decide_eq_true_eq]at this;refine⟨fun f hf=>?_,this.2⟩;have:=List.all_eq_true.mp this.1 f hf;simp only[Bool.and_eq_true,decide_eq_true_eq,Bool.not_eq_true',List.isEmpty_eq_false_iff]at this;exact this
theorem xq:bJ.all Cv=true:=by decide +kernel
theorem xr{τ:Type}(xs:List τ):pick xs none none (some (-1))=xs.reverse:=by
 unfold pick;rw[krv_bounds];show(sliceRange ((xs.length:Int)-1) (-1) (-1)).filterMap (xs[·]?)=_
 rw[krv_sliceRange,krv_range,List.filterMap_reverse];have:=krv_all xs.toArray;simp only[List.size_toArray,List.getElem?_toArray]at this;rw[this]
theorem wa(i:Nat)(cs:List Int)(x:Int):(iw i cs x).length=cs.length:=by
 unfold iw;simp
theorem p8:∀ (i:Nat) (cs xs:List Int),(jK i cs xs).length=cs.length
 |_,cs,[]=>rfl
 |i,cs,x::xs=>by
  show(jK (i+1) (iw i cs x) xs).length=_;rw[p8,wa]
theorem six{l:List Int}(h:l.length=6):∃a b c d e f,l=[a,b,c,d,e,f]:=by
 match l,h with
 |[a,b,c,d,e,f],_=>exact⟨a,b,c,d,e,f,rfl⟩
theorem Cw(xs:List Int):∃a b c d e f,cellsOf xs=[a,b,c,d,e,f]:=six (by unfold cellsOf;rw[p8];rfl)
noncomputable def qV(c:Int):Nat:=(c.fmod 3).toNat
noncomputable def qW(c:Int):Nat:=((c.fdiv 3).fmod 3).toNat
noncomputable def fW(c:Int):Int:=if c.fmod 9<4 then(c.fdiv 9).fmod 2 else 0
noncomputable def shapeOf(c:Int):Nat×Nat×Nat:=(qV c,qW c,(fW c).toNat)
theorem nZ(a:Int){b:Int}(h:0<b):a.fmod b=a%b:=Int.fmod_eq_emod_of_nonneg _ (by exact tB h)
theorem fd(a:Int){b:Int}(h:0<b):a.fdiv b=a/b:=Int.fdiv_eq_ediv_of_nonneg _ (by exact tB h)
theorem Az(c:Int):0≤fW c∧fW c<2∧(fW c=1→c%9<4):=by
 unfold fW;rw[nZ _ (by decide),fd _ (by decide),nZ _ (by decide)]
 split<;>omega
theorem Cy(c:Int):shapeOf c∈bZ:=by
 have XA:∀a<3,∀b<3,∀t<2,(if t=1 then decide (a+3*b<4) else true)=true→bZ.contains (a,b,t)=true:=by decide
 have key:∀a<3,∀b<3,∀t<2,(t=1→a+3*b<4)→(a,b,t)∈bZ:=fun a ha b hb t ht h=>List.contains_iff_mem.mp (XA a ha b hb t ht (by split<;>simp_all))
 have h:=Az c;have ha:qV c<3:=by unfold qV;rw[nZ _ (by decide)];exact Tz
 have hb:qW c<3:=by unfold qW;rw[fd _ (by decide),nZ _ (by decide)];exact TB
 refine key _ ha _ hb _ (by omega) fun ht=>?_
 have h9:=h.2.2 (by omega)
 unfold qV qW;rw[nZ _ (by decide),fd _ (by decide),nZ _ (by decide)]
 exact TF h9
theorem AA(c:Int):rowsOf (shapeOf c)=[c.fmod 3+(c.fdiv 3).fmod 3+fW c,(c.fdiv 3).fmod 3+fW c,fW c]:=by
 have h:=Az c;have h1:(qV c:Int)=c.fmod 3:=by unfold qV;rw[nZ _ (by decide)];exact TG
 have h2:(qW c:Int)=(c.fdiv 3).fmod 3:=by unfold qW;rw[fd _ (by decide),nZ _ (by decide)];exact TH
 unfold rowsOf shapeOf;simp only[List.cons.injEq,and_true];refine⟨?_,?_,?_⟩
 ·rw[←h1,←h2];push_cast;omega
 ·rw[←h2];push_cast;omega
 ·omega
noncomputable def fH(c:Int):List Nat:=bJ.getD (c.fmod 5).toNat []
theorem xt(c:Int):fH c∈bJ:=by
 have key:∀k<5,bJ.getD k []∈bJ:=by decide
 refine key _ ?_;rw[nZ _ (by decide)]
 exact TJ
noncomputable def rY(c:Int):Int:=1+(c.fdiv 16).fmod 2
noncomputable def jQ(c:Int):Int:=(c.fdiv 32).fmod 3
noncomputable def nN(c:Int):Int:=1+(c.fdiv 96).fmod (3+(c.fdiv 16).fmod 2)
theorem MN(c:Int):lT (rY c) (jQ c) (nN c):=by
 have h1:rY c=1∨rY c=2:=by unfold rY;rw[fd _ (by decide),nZ _ (by decide)];exact TK
 have h2:jQ c=0∨jQ c=1∨jQ c=2:=by unfold jQ;rw[fd _ (by decide),nZ _ (by decide)];exact TL
 have h3:1≤nN c∧nN c≤rY c+2:=by
  unfold nN rY;have hb:0≤(c.fdiv 16).fmod 2∧(c.fdiv 16).fmod 2≤1:=by rw[fd _ (by decide),nZ _ (by decide)];exact TM
  generalize (c.fdiv 16).fmod 2=u at *;rw[nZ _ (by exact Oa hb)]
  have e1:=Int.emod_nonneg (c.fdiv 96) (b:=3+u) (by exact ag 0 1 (aa (aT (ai aJ aq) (ai aq bV)) (fI (bh (zk 3) aq) aJ)) (by kd_p) hb)
  have e2:=Int.emod_lt_of_pos (c.fdiv 96) (b:=3+u) (by exact Oa hb)
  exact ag 0 2 (aa (ai aJ aN) (aa (aK aN (bh (zk 3) aq)) (aT (ai bV (bh bV aN)) (ai (bh bV aN) (bh (bh bV aq) jT))))) (by kd_p) e1 e2
 have hl:Cu (rY c) (jQ c) (nN c)=true:=by
  have h:=FN;generalize rY c=lo at *;generalize jQ c=bl at *;generalize nN c=ex at *;simp only[List.all_cons,List.all_nil,Bool.and_true,Bool.and_eq_true]at h;rcases h1 with rfl|rfl
  ·have:ex=1∨ex=2∨ex=3:=by exact ag 0 1 (aa (aT (ai bV aq) (ai aq (bh bV jT))) (lpo (aS aq bV) (lpo (aS aq jT) (aS aq (zk 3))))) (by kd_p) h3
   rcases h2 with rfl|rfl|rfl<;>rcases this with rfl|rfl|rfl<;>simp_all
  ·have:ex=1∨ex=2∨ex=3∨ex=4:=by exact ag 0 1 (aa (aT (ai bV aq) (ai aq (bh jT jT))) (lpo (aS aq bV) (lpo (aS aq jT) (lpo (aS aq (zk 3)) (aS aq (zk 4)))))) (by kd_p) h3
   rcases h2 with rfl|rfl|rfl<;>rcases this with rfl|rfl|rfl|rfl<;>simp_all
 exact⟨h1,by exact ag 0 1 (aa (lpo (aS aq aJ) (lpo (aS aq bV) (aS aq jT))) (aT (ai aJ aq) (ai aq jT))) (by kd_p) h2,by exact ag 0 3 (aa (lpo (aS aN bV) (aS aN jT)) (aa (lpo (aS aq aJ) (lpo (aS aq bV) (aS aq jT))) (aa (aT (ai bV cu) (ai cu (bh aN jT))) (aT (ai bV cu) (ai cu (zk 4)))))) (by kd_p) h1 h2 h3,yX hl⟩
section
local macro_rules | `(tactic| kd_all) => `(tactic| repeat (first | kd_in | refine ⟨by first | exact .lit rfl | exact .of (by simp), ?_⟩))
noncomputable def qX:V:=.list (kQ.map .str)
structure m8(U:aw)(cs:List Int)(fi mi x y z:Int)(s:Nat×Nat×Nat)(ah:List Nat):Prop where
 c:get U 60=some (.list (cs.map .int))
 f:get U 63=some (.int fi)
 e:get U 127=some qX
 m:get U 130=some (.int mi)
 p:get U 69=some (.list [.int x,.int y,.int z])
 s:get U 68=some (.list ((rowsOf s).map .int))
 o:get U 113=some (.int (ah.count 1:Nat))
 t:get U 112=some (.int (ah.count 2:Nat))
theorem m8.set{U:aw}{cs:List Int}{fi mi x y z:Int}{s:Nat×Nat×Nat}{ah:List Nat}(h:m8 U cs fi mi x y z s ah){k:Nat}{v:V}(hk:k∉[60,63,127,130,69,68,113,112]):m8 (bg.set U k v) cs fi mi x y z s ah:=by
 simp only[List.mem_cons,List.not_mem_nil,or_false,not_or]at hk;refine D4 hk ?_;clear hk;intro k1 k2 k3 k4 k5 k6 k7 k8;exact⟨by rw[get_set,if_neg k1];exact h.c,by rw[get_set,if_neg k2];exact h.f,by rw[get_set,if_neg k3];exact h.e,by rw[get_set,if_neg k4];exact h.m,by rw[get_set,if_neg k5];exact h.p,by rw[get_set,if_neg k6];exact h.s,by rw[get_set,if_neg k7];exact h.o,by rw[get_set,if_neg k8];exact h.t⟩
noncomputable def sS(c:Int):Int:=(c+50).fmod 100-50
noncomputable def sU(c0 c1:Int):Int:=sS c0+1+c1.fmod 100
noncomputable def Cz(c0 c1 c2:Int):Int:=sU c0 c1+1+c2.fmod 100
theorem SF(ah:List Nat):(ah.map fun(n:Nat)=>V.int n)=(ah.map (fun(n:Nat)=>(n:Int))).map .int:=by rw[List.map_map];rfl
theorem count_cast(ah:List Nat)(k:Nat):(ah.map (fun(n:Nat)=>(n:Int))).count (k:Int)=ah.count k:=by
 induction ah with
 |nil=>rfl
 |cons x r ih=>
  rw[List.map_cons,List.count_cons,List.count_cons,ih]
  congr 1
  by_cases h:x=k
  ·simp[h]
  ·have:¬ ((x:Int)=(k:Int)):=by exact Nt h
   simp[h,this]
theorem FO(c:Int):(bJ.map fun l=>V.list (l.map fun(n:Nat)=>V.int n))[cF (c.fmod 5) (bJ.map fun l=>V.list (l.map fun(n:Nat)=>V.int n)).length]?=some (.list ((fH c).map fun(n:Nat)=>V.int n)):=by
 have hb:0≤c.fmod 5∧c.fmod 5<5:=by rw[nZ _ (by decide)];exact TN
 have e:c.fmod 5=(((c.fmod 5).toNat:Nat):Int):=by exact Ob hb
 have hk:(c.fmod 5).toNat<bJ.length:=by show _<5;exact ag 0 1 (aa (aT (ai aJ aq) (aK aq (zk 5))) (aa (aS aq (az (dB aq))) (ak (dB aq) (nk 5)))) (by kd_p) hb e
 rw[e,gS,List.getElem?_map,List.getElem?_eq_getElem hk];unfold fH;rw[List.getD_eq_getElem?_getD,List.getElem?_eq_getElem hk]
 rfl
theorem jm(c:Int)(k:Int)(h:0<k):0≤c.fmod k∧c.fmod k<k:=by
 rw[nZ _ h];exact⟨Int.emod_nonneg _ (by exact y8 h),Int.emod_lt_of_pos _ h⟩
theorem rZ{n:Nat}{O:Mu}{Q:V→Mu→Prop}{ah:List Nat}{k:Nat}(q:Q (.int (ah.count k:Nat)) O):aU G n (.builtin "list.count") [.list (ah.map fun(n:Nat)=>V.int n),.int (k:Int)] [] O Q:=by
 rw[SF];refine dT ?_;rw[count_cast];exact q
theorem XB(r:aw)(a b c:V):bc r ([70,73,88].reverse.zip [a,b,c].reverse)=bg.set (bg.set (bg.set r 88 c) 73 b) 70 a:=rfl
theorem XC(r:aw)(a b:V):bc r ([113,112].reverse.zip [a,b].reverse)=bg.set (bg.set r 112 b) 113 a:=rfl
noncomputable def nO:Ss:=(.cons (.asg (.name 68) (.list false (.cons (.bin .Add (.bin .Add (.bin .Mod (.sub (.var 60) (.int 3)) (.int 3)) (.bin .Mod (.bin .FloorDiv (.sub (.var 60) (.int 3)) (.int 3)) (.int 3))) (.var 129)) (.cons (.bin .Add (.bin .Mod (.bin .FloorDiv (.sub (.var 60) (.int 3)) (.int 3)) (.int 3)) (.var 129)) (.cons (.var 129) .nil))))) (.cons (.asg (.name 76) (.sub (.list false (.cons (.list false (.cons (.int 2) (.cons (.int 1) .nil))) (.cons (.list false (.cons (.int 2) (.cons (.int 1) (.cons (.int 1) .nil)))) (.cons (.list false (.cons (.int 2) (.cons (.int 2) (.cons (.int 1) .nil)))) (.cons (.list false (.cons (.int 1) (.cons (.int 1) .nil))) (.cons (.list false (.cons (.int 2) (.cons (.int 2) .nil))) .nil)))))) (.bin .Mod (.sub (.var 60) (.int 4)) (.int 5)))) (.cons (.kE [70,73,88] (.tup (.cons (.bin .Add (.int 1) (.bin .Mod (.bin .FloorDiv (.sub (.var 60) (.int 5)) (.int 16)) (.int 2))) (.cons (.bin .Mod (.bin .FloorDiv (.sub (.var 60) (.int 5)) (.int 32)) (.int 3)) (.cons (.bin .Add (.int 1) (.bin .Mod (.bin .FloorDiv (.sub (.var 60) (.int 5)) (.int 96)) (.bin .Add (.int 3) (.bin .Mod (.bin .FloorDiv (.sub (.var 60) (.int 5)) (.int 16)) (.int 2))))) .nil))))) (.cons (.kE [113,112] (.tup (.cons (.cA (.var 76) "count" (.cons (.int 1) .nil)) (.cons (.cA (.var 76) "count" (.cons (.int 2) .nil)) .nil)))) (.cons (.asg (.name 74) (.call (.glob 128) (.cons (.var 76) (.cons (.var 70) (.cons (.var 73) (.cons (.var 88) .nil)))))) (.cons (.iff (.cmp .NotEq (.call (.glob 6) (.cons (.var 74) .nil)) (.bin .FloorDiv (.bin .Mult (.bin .Mult (.bin .Add (.var 113) (.int 1)) (.bin .Add (.var 112) (.int 1))) (.bin .Add (.bin .Add (.var 113) (.var 112)) (.int 2))) (.int 2))) (.cons (.ret (.bool false)) .nil) .nil) (.cons (.asg (.g9 (.name 102) (.name 105)) (.tup (.cons (.list true .nil) (.cons (.list true .nil) .nil)))) .nil)))))))
noncomputable def nQ:Ss:=(.cons (.asg (.name 129) (.zq (.cmp .Lt (.bin .Mod (.sub (.var 60) (.int 3)) (.int 9)) (.int 4)) (.bin .Mod (.bin .FloorDiv (.sub (.var 60) (.int 3)) (.int 9)) (.int 2)) (.int 0))) nO)
theorem CB(hG:bx G){n:Nat}{U:aw}{O:Mu}{K:Fl→aw→Mu→Prop}{c0 c1 c2 c3 c4 c5 fi mi x y z:Int}
  (yq:get U 60=some (.list ([c0,c1,c2,c3,c4,c5].map .int)))(FP:get U 63=some (.int fi))(DQ:get U 127=some qX)(xu:get U 130=some (.int mi))(SG:get U 69=some (.list [.int x,.int y,.int z]))(aaj:get U 129=some (.int (fW c3)))
  (hK:∀U,m8 U [c0,c1,c2,c3,c4,c5] fi mi x y z (shapeOf c3) (fH c4)→get U 74=some (cG (fillAll (fH c4)))→
   get U 102=some (.ml O.length)→get U 105=some (.ml (O.length+1))→K .next U (O++[some []]++[some []])):
  aX G bX (n+5) nO U O K:=by
 have l6:cp ([c0,c1,c2,c3,c4,c5].map V.int).length:=.of (by simp)
 unfold nO;kd_all;refine V_at (v:=.int c3) rfl (by simp) l6 ?_
 kd_all;refine dD (by decide) ?_
 kd_all;refine V_at (v:=.int c3) rfl (by simp) l6 ?_
 kd_all;refine dR ⟨by decide,by decide +kernel⟩ ?_
 kd_all;refine dD (by decide) ?_
 kd_all;refine V_at (v:=.int c3) rfl (by simp) l6 ?_
 kd_all;refine dR ⟨by decide,by decide +kernel⟩ ?_
 kd_all;refine dD (by decide) ?_
 kd_all;refine V_at (v:=.int c4) rfl (by simp) l6 ?_
 kd_all;refine dD (by decide) ?_
 show gg _ _ (.list (bJ.map fun l=>V.list (l.map fun(n:Nat)=>V.int n))) _ _ _;refine V_at (FO c4) (by have:=jm c4 5 (by decide);simp;exact Oc this) (.of (by decide)) ?_
 have XD:=xt c4;have MO:=List.all_eq_true.mp xq _ XD;have hU:=MN c5;have hW:=List.all_eq_true.mp Cs _ XD;generalize aaa:fH c4=ah at *;kd_all;refine V_at (v:=.int c5) rfl (by simp) l6 ?_
 kd_all;refine dR ⟨by decide,by decide +kernel⟩ ?_
 kd_all;refine dD (by decide) ?_
 kd_all;refine V_at (v:=.int c5) rfl (by simp) l6 ?_
 kd_all;refine dR ⟨by decide,by decide +kernel⟩ ?_
 kd_all;refine dD (by decide) ?_
 kd_all;refine V_at (v:=.int c5) rfl (by simp) l6 ?_
 kd_all;refine dR ⟨by decide,by decide +kernel⟩ ?_
 kd_all;refine V_at (v:=.int c5) rfl (by simp) l6 ?_
 kd_all;refine dR ⟨by decide,by decide +kernel⟩ ?_
 kd_all;refine dD (by decide) ?_
 kd_all;refine dD (by have:=jm (c5.fdiv 16) 2 (by decide);exact ag 0 1 (aa (aT (ai aJ aq) (aK aq jT)) (fI (bh (zk 3) aq) aJ)) (by kd_p) this) ?_
 kd_all;rw[XB];refine bB ?_;kd_all;refine⟨_,dw,?_⟩;kd_all;refine rZ (k:=1) ?_;kd_all;refine bB ?_;kd_all;refine⟨_,dw,?_⟩;kd_all;refine rZ (k:=2) ?_;kd_all;rw[XC];kd_all;refine CK hG (qU hG (n:=n) (jP MO) hU ?_);kd_all;refine cN (cp.of (by have:=(jP MO).fs (ah.length-1) (by have:=(jP MO).ne;exact ag 1 0 (aa (ak b6 ab) (ak (bb ab aC) ab)) (by kd_p) this);rw[List.length_map];exact Nat.le_trans this.2 (by decide))).ok ?_
 kd_all;have JY:=(jP MO).le;have n1:ah.count 1≤5:=Nat.le_trans List.count_le_length JY;have n2:ah.count 2≤5:=Nat.le_trans List.count_le_length JY;have vA:(2:Nat) ^ 10=1024:=by decide
 have s1:Sz 10 ((ah.count 1:Nat)+1:Int):=by unfold Sz;exact Od n1
 have s2:Sz 10 ((ah.count 2:Nat)+1:Int):=by unfold Sz;exact Od n2
 have s3:Sz 10 ((ah.count 1:Nat)+(ah.count 2:Nat)+2:Int):=by unfold Sz;exact ag 2 0 (aa (ae af (nk 5)) (aa (ae ab (nk 5)) (ak (ja (bh (bh (az af) (az ab)) jT)) (nk (2 ^ 10))))) (by kd_p) n1 n2
 refine gh (gZ.sz s1 s2 (by decide)) ?_
 kd_all;refine gh (gZ.sz (s1.mul s2) s3 (by decide)) ?_
 kd_all;refine dR ⟨by decide,by decide +kernel⟩ ?_
 kd_all;rw[List.length_map];have hW:=of_decide_eq_true hW;rw[show(((fillAll ah).length:Int) !=((((ah.count 1:Nat):Int)+1)*(((ah.count 2:Nat):Int)+1)*(((ah.count 1:Nat):Int)+((ah.count 2:Nat):Int)+2)).fdiv 2)=false by rw[←hW];simp]
 kd_all;refine qT (fun x m=>nomatch m) ?_;kd_all;refine qT (fun x m=>nomatch m) ?_;kd_all;rw[List.length_append];refine hK _ ⟨?_,?_,?_,?_,?_,?_,?_,?_⟩ ?_ ?_ ?_<;>(repeat(rw[get_set,if_neg (by decide)]))<;>first|assumption|(rw[get_set,if_pos rfl];done)|(rw[get_set,if_pos rfl];rfl)|(rw[get_set,if_pos (by decide)];rfl)|skip
 ·rw[get_set,if_pos rfl,AA];rfl
theorem CC(hG:bx G){n:Nat}{U:aw}{O:Mu}{K:Fl→aw→Mu→Prop}{c0 c1 c2 c3 c4 c5 fi mi x y z:Int}
  (yq:get U 60=some (.list ([c0,c1,c2,c3,c4,c5].map .int)))(FP:get U 63=some (.int fi))(DQ:get U 127=some qX)(xu:get U 130=some (.int mi))(SG:get U 69=some (.list [.int x,.int y,.int z]))
  (hK:∀U,m8 U [c0,c1,c2,c3,c4,c5] fi mi x y z (shapeOf c3) (fH c4)→get U 74=some (cG (fillAll (fH c4)))→
   get U 102=some (.ml O.length)→get U 105=some (.ml (O.length+1))→K .next U (O++[some []]++[some []])):
  aX G bX (n+5) nQ U O K:=by
 have l6:cp ([c0,c1,c2,c3,c4,c5].map V.int).length:=.of (by simp)
 have fin:∀tv,tv=fW c3→aX G bX (n+5) nO (bg.set U 129 (.int tv)) O K:=by
  rintro zz rfl;exact CB hG (gn yq) (gn FP) (gn DQ) (gn xu) (gn SG) (gs) hK
 unfold nQ;kd_all;refine V_at (v:=.int c3) rfl (by simp) l6 ?_
 kd_all;refine dD (by decide) ?_
 kd_all
 by_cases h:c3.fmod 9<4
 ·rw[decide_eq_true h]
  kd_all;refine V_at (v:=.int c3) rfl (by simp) l6 ?_
  kd_all;refine dR ⟨by decide,by decide +kernel⟩ ?_
  kd_all;refine dD (by decide) ?_
  kd_all;exact fin _ (by unfold fW;rw[if_pos h])
 ·rw[decide_eq_false h]
  kd_all;exact fin _ (by unfold fW;rw[if_neg h])
noncomputable def nR:Ss:=(.cons (.asg (.name 69) (.zq (.cmp .Eq (.bin .Mod (.bin .FloorDiv (.sub (.var 60) (.int 5)) (.int 7680)) (.int 2)) (.int 0)) (.var 69) (.slice (.var 69) .no .no (.neg (.int 1))))) nQ)
noncomputable def qY:Ss:=(.cons (.asg (.name 60) (.call (.glob 131) (.cons (.var 62) .nil))) (.cons (.kE [63,127] (.tup (.cons (.bin .Sub (.bin .Mod (.bin .Add (.sub (.var 60) (.int 0)) (.int 50)) (.int 100)) (.int 50)) (.cons (.list false (.cons (.str "") (.cons (.str "\"") (.cons (.str "\\") (.cons (.str "\"()") (.cons (.str "\"(") .nil)))))) .nil)))) (.cons (.asg (.name 130) (.bin .Add (.bin .Add (.var 63) (.int 1)) (.bin .Mod (.sub (.var 60) (.int 1)) (.int 100)))) (.cons (.asg (.name 69) (.list false (.cons (.var 63) (.cons (.var 130) (.cons (.bin .Add (.bin .Add (.var 130) (.int 1)) (.bin .Mod (.sub (.var 60) (.int 2)) (.int 100))) .nil))))) nR))))
noncomputable def vl:Ss:=qY
theorem AB:vl=qY:=rfl
theorem SH(r:aw)(a b:V):bc r ([63,127].reverse.zip [a,b].reverse)=bg.set (bg.set r 127 b) 63 a:=rfl
theorem CD(hG:bx G){n:Nat}{U:aw}{O:Mu}{K:Fl→aw→Mu→Prop}{c0 c1 c2 c3 c4 c5 fi mi x y z:Int}
  (yq:get U 60=some (.list ([c0,c1,c2,c3,c4,c5].map .int)))(FP:get U 63=some (.int fi))(DQ:get U 127=some qX)(xu:get U 130=some (.int mi))(SG:get U 69=some (.list [.int x,.int y,.int z]))
  (hK:∀U x' z',(x'=x∧z'=z∨x'=z∧z'=x)→m8 U [c0,c1,c2,c3,c4,c5] fi mi x' y z' (shapeOf c3) (fH c4)→get U 74=some (cG (fillAll (fH c4)))→
   get U 102=some (.ml O.length)→get U 105=some (.ml (O.length+1))→K .next U (O++[some []]++[some []])):
  aX G bX (n+5) nR U O K:=by
 have l6:cp ([c0,c1,c2,c3,c4,c5].map V.int).length:=.of (by simp)
 have fin:∀x' z',(x'=x∧z'=z∨x'=z∧z'=x)→aX G bX (n+5) nQ (bg.set U 69 (.list [.int x',.int y,.int z'])) O K:=by
  intro x' z' h;exact CC hG (gn yq) (gn FP) (gn DQ) (gn xu) (gs) fun U hL=>hK U x' z' h hL
 unfold nR;kd_all;refine V_at (v:=.int c5) rfl (by simp) l6 ?_
 kd_all;refine dR ⟨by decide,by decide +kernel⟩ ?_
 kd_all;refine dD (by decide) ?_
 kd_all;unfold Uz;split
 ·kd_all
  exact fin x z (.inl ⟨rfl,rfl⟩)
 ·kd_all
  refine tZ (by decide) (gM.of (by simp)) ?_
  rw[xr];kd_all;exact fin z x (.inr ⟨rfl,rfl⟩)
theorem FQ(hG:bx G){n:Nat}{U:aw}{O:Mu}{K:Fl→aw→Mu→Prop}{xs:List Int}(hx:xs.length≤100000)
  (XE:get U 62=some (.list (xs.map .int)))
  (hK:∀U c0 c1 c2 c3 c4 c5 x z,(x=sS c0∧z=Cz c0 c1 c2∨x=Cz c0 c1 c2∧z=sS c0)→m8 U [c0,c1,c2,c3,c4,c5] (sS c0) (sU c0 c1) x (sU c0 c1) z (shapeOf c3) (fH c4)→get U 74=some (cG (fillAll (fH c4)))→
   get U 102=some (.ml O.length)→get U 105=some (.ml (O.length+1))→K .next U (O++[some []]++[some []])):
  aX G bX (n+5) vl U O K:=by
 rw[AB];refine G1 (Cw xs) ?_;intro c0 c1 c2 c3 c4 c5 hc;have l6:cp ([c0,c1,c2,c3,c4,c5].map V.int).length:=.of (by simp)
 have fin:∀U:aw,get U 60=some (.list ([c0,c1,c2,c3,c4,c5].map .int))→get U 63=some (.int (sS c0))→get U 127=some qX→get U 130=some (.int (sU c0 c1))→get U 69=some (.list [.int (sS c0),.int (sU c0 c1),.int (Cz c0 c1 c2)])→aX G bX (n+5) nR U O K:=by
  intro U EU zT JZ XF J1;exact CD hG EU zT JZ XF J1 fun U x' z' h=>hK U c0 c1 c2 c3 c4 c5 x' z' h
 unfold qY;kd_all;refine CK hG (vS hG (n:=n+4) hx ?_);rw[hc];kd_all;refine V_at (v:=.int c0) rfl (by simp) l6 ?_
 kd_all;refine dD (by decide) ?_
 kd_all;rw[SH];kd_all;refine V_at (v:=.int c1) rfl (by simp) l6 ?_
 kd_all;refine dD (by decide) ?_
 kd_all;refine V_at (v:=.int c2) rfl (by simp) l6 ?_
 kd_all;refine dD (by decide) ?_
 kd_all;refine fin _ ?_ ?_ ?_ ?_ ?_<;>(repeat(rw[get_set,if_neg (by decide)]))<;>rw[get_set,if_pos rfl]<;>rfl
theorem CE(upper hide:Int)(k:Nat)(l:Int):pieceOf upper (hide%8) k l=pieceOf upper hide k l:=by
 have:((hide%8)+3*(k:Int)).emod 8=(hide+3*(k:Int)).emod 8:=by show(hide%8+3*(k:Int))%8=(hide+3*(k:Int))%8;exact TO
 unfold pieceOf;rw[this]
theorem r7(upper hide:Int):∀ (ls:List Int) (k:Nat) (t:Str),ji upper (hide%8) k t ls=ji upper hide k t ls
 |[],k,t=>rfl
 |l::ls,k,t=>by
  show ji upper (hide%8) (k+1) (t++pieceOf upper (hide%8) k l) ls=ji upper hide (k+1) (t++pieceOf upper hide k l) ls;rw[CE,r7 upper hide ls]
theorem FR(ls:List Int)(rise upper hide:Int):textOf ls rise upper ((((hide%8).toNat:Nat)):Int)=textOf ls rise upper hide:=by
 have:((((hide%8).toNat:Nat)):Int)=hide%8:=by exact TP
 rw[this];unfold textOf;rw[r7]
theorem foldl_min:∀ (l:List Int) (a:Int),l.foldl min a≤a∧(∀x∈l,l.foldl min a≤x)∧(l.foldl min a=a∨l.foldl min a∈l)
 |[],a=>⟨Int.le_refl _,(fun x h=>nomatch h),.inl rfl⟩
 |y::l,a=>by
  refine qe (foldl_min l (min a y)) ?_;intro h1 h2 h3;rw[List.foldl_cons];refine⟨by omega,fun x hx=>?_,?_⟩
  ·rcases List.mem_cons.mp hx with rfl|hx
   ·omega
   ·exact h2 x hx
  ·rcases h3 with h3|h3
   ·rw[h3]
    by_cases h:a≤y
    ·left;exact ag 0 3 (aa (aS aq (AS cu aN)) (aa (ai cu aN) (aS (AS cu aN) cu))) (by kd_p) h3 h
    ·right;rw[show min a y=y by exact ag 0 3 (aa (aS aq (AS cu aN)) (aa (dJ (ai cu aN)) (aS (AS cu aN) aN))) (by kd_p) h3 h];exact .head _
   ·right;exact .tail _ h3
theorem CG(ls:List Int)(rise upper:Int):eH ls rise upper∈vd ls rise upper:=by
 unfold eH;rcases(foldl_min (vd ls rise upper) rise).2.2 with h|h
 ·rw[h]
  unfold vd;exact List.mem_map.mpr ⟨0,List.mem_range.mpr (by exact ag 1 0 (ak b6 (aj ab aC)) (by kd_p)),by simp⟩
 ·exact h
theorem least_le(ls:List Int)(rise upper:Int):∀a∈vd ls rise upper,eH ls rise upper≤a:=(foldl_min _ _).2.1
theorem vm(k:Nat):∀ (xs ys:List Int),xs.length=ys.length→gw (List.zipWith (dQ (k+1)) (xs.map .int) (ys.map .int))=some (decide (xs=ys))
 |[],[],_=>rfl
 |x::xs,y::ys,h=>by
  have:=vm k xs ys (by simpa using h)
  rw[List.map_cons,List.map_cons,List.zipWith_cons_cons,pX];generalize List.zipWith (dQ (k+1)) (xs.map V.int) (ys.map V.int)=l at *
  by_cases sq:x=y
  ·simp[gw,this,sq]
  ·simp[gw,this,sq]
theorem CH(k:Nat)(xs ys:List Int):dQ (k+2) (.list (xs.map .int)) (.list (ys.map .int))=some (decide (xs=ys)):=by
 unfold dQ;simp only[List.length_map]
 by_cases h:xs.length=ys.length
 ·rw[if_pos h];exact vm k xs ys h
 ·rw[if_neg h]
  have:xs≠ys:=fun e=>h (by rw[e])
  simp[this]
noncomputable def e8(r:List Int):V:=.list (r.map .int)
theorem vn:∀ (A B:List (List Int)),A.length=B.length→gw (List.zipWith (dQ 49) (A.map e8) (B.map e8))=some (decide (A=B))
 |[],[],_=>rfl
 |x::xs,y::ys,h=>by
  have:=vn xs ys (by simpa using h)
  rw[List.map_cons,List.map_cons,List.zipWith_cons_cons];unfold e8 at *;rw[CH];generalize List.zipWith (dQ 49) (xs.map _) (ys.map _)=l at *
  by_cases sq:x=y
  ·simp[gw,this,sq]
  ·simp[gw,this,sq]
theorem FT(A B:List (List Int)):dQ 50 (.list (A.map e8)) (.list (B.map e8))=some (decide (A=B)):=by
 unfold dQ;simp only[List.length_map]
 by_cases h:A.length=B.length
 ·rw[if_pos h];exact vn A B h
 ·rw[if_neg h]
  have:A≠B:=fun e=>h (by rw[e])
  simp[this]
theorem AD{x:Str}(h:asc x=true):x.cps.all (· < 128)=true:=by
 unfold asc at h;rw[←Array.all_toList];refine List.all_eq_true.mpr fun c hc=>?_;have:=List.all_eq_true.mp h c hc;simpa[Nat.blt_eq] using this
theorem MP{ah:List Nat}(hl:ah∈bJ){f:List (List Int)}(hf:f∈fillAll ah){r:Nat}(hr:r<3){u:Int}(hu:u=1∨u=2)(hide:Int){e:Str}(he:e∈kQ):
  MK (textOf (aD f) r u hide++e) (decide (0≤eH (aD f) r u)&&(e !=Str.ofString "\"("))=true:=by
 have h:=MM (hide%8).toNat (by exact TQ) r hr
 have h:=List.all_eq_true.mp (List.all_eq_true.mp h ah hl) f hf;have h:ML (aD f) r u ((hide%8).toNat:Nat)=true:=by
  rcases hu with rfl|rfl
  ·exact(Bool.and_eq_true_iff.mp h).1
  ·exact(Bool.and_eq_true_iff.mp h).2
 unfold ML at h;rw[FR]at h;exact List.all_eq_true.mp h e he
noncomputable def J7(f:List (List Int)):Bool:=decide (f.length≤10)&&f.all (fun c=>decide (c.length≤3))&&decide ((aD f).length≤10)
theorem vo:(bJ.all fun l=>(fillAll l).all J7&&decide ((fillAll l).length≤100))=true:=by decide +kernel
theorem lV{ah:List Nat}(hl:ah∈bJ){f:List (List Int)}(hf:f∈fillAll ah):f.length≤10∧(∀c∈f,c.length≤3)∧(aD f).length≤10:=by
 have h:=(Bool.and_eq_true_iff.mp (List.all_eq_true.mp vo ah hl)).1;have h:=List.all_eq_true.mp h f hf;unfold J7 at h;simp only[Bool.and_eq_true,decide_eq_true_eq]at h;exact⟨h.1.1,fun c hc=>of_decide_eq_true (List.all_eq_true.mp h.1.2 c hc),h.2⟩
theorem FU{ah:List Nat}(hl:ah∈bJ):(fillAll ah).length≤100:=of_decide_eq_true (Bool.and_eq_true_iff.mp (List.all_eq_true.mp vo ah hl)).2
theorem qZ{m:List (List Int×Int)}{i:Nat}{p:List Int×Int}(h:m[i]?=some p):dz m i=p.1:=by
 unfold dz;rw[List.getD_eq_getElem?_getD,h]
 rfl
theorem ku(m:List (List Int×Int)):Keyed (m.map bT) (dz m):=by
 intro i v hv;rw[List.getElem?_map]at hv;refine aW (Option.map_eq_some_iff.mp hv) ?_;intro p hp z1;subst z1;exact⟨[.list (p.1.map .int),.int p.2],rfl,by rw[qZ hp];rfl,by simp⟩
theorem FV(m:List (List Int×Int))(p:List Int×Int):(m.map bT).take (cP (fun i=>fk p.1 (dz m i)) (m.map bT).length 0 (m.map bT).length)++bT p::(m.map bT).drop (cP (fun i=>fk p.1 (dz m i)) (m.map bT).length 0 (m.map bT).length)=(m6 m p).map bT:=by
 unfold m6;rw[List.length_map,List.map_append,List.map_cons,List.map_take,List.map_drop]
theorem FW(m:List (List Int×Int))(p:List Int×Int):(m6 m p).length=m.length+1:=by
 unfold m6;generalize cP _ _ _ _=k;simp only[List.length_append,List.length_cons,List.length_take,List.length_drop];exact ag 2 0 (ax (aj (jS af ab) (aj (bb ab af) aC)) (aj ab aC)) (by kd_p)
noncomputable def lW(s:Nat×Nat×Nat)(f:List (List Int))(t:Nat)(m:List (List Int×Int)):List (List Int×Int):=if p5 s (aD f) then m6 m (bF s (aD f),-(t:Int)) else m
theorem p9(s:Nat×Nat×Nat)(f:List (List Int)):∀ (l:List (List (List Int))) (t:Nat) (m:List (List Int×Int)),jk s (l++[f]) t m=lW s f (t+l.length) (jk s l t m)
 |[],t,m=>rfl
 |g::l,t,m=>by
  show jk s (l++[f]) (t+1) _=lW s f (t+(l.length+1)) (jk s l (t+1) _);rw[p9 s f l,show t+1+l.length=t+(l.length+1) by exact N1]
theorem sa(s:Nat×Nat×Nat):∀ (l:List (List (List Int))) (t:Nat) (m:List (List Int×Int)),(jk s l t m).length≤m.length+l.length
 |[],t,m=>Nat.le_refl _
 |g::l,t,m=>by
  refine Nat.le_trans (sa s l (t+1) _) ?_;split
  ·rw[FW,List.length_cons];exact ag 2 0 (ae (aj (aj af aC) ab) (aj af (aj ab aC))) (by kd_p)
  ·rw[List.length_cons];exact ag 2 0 (ae (aj af ab) (aj af (aj ab aC))) (by kd_p)
theorem nT{s:Nat×Nat×Nat}(hs:s∈bZ){ah:List Nat}(hl:ah∈bJ):
  (∀f∈fillAll ah,yT s f=true)∧p6 (aF s ah)=true∧1≤(aF s ah).length∧(aF s ah).length<64∧Xq s ah=true:=by
 have h:=List.all_eq_true.mp (FJ s hs) ah hl;unfold gu at h;simp only[Bool.and_eq_true,decide_eq_true_eq]at h;exact⟨fun f hf=>List.all_eq_true.mp h.1.1.1.1 f hf,h.1.1.1.2,h.1.1.2,h.1.2,h.2⟩
theorem str_len(a b:Str):(a++b).length=a.length+b.length:=by
 show(a.cps++b.cps).size=a.cps.size+b.cps.size;rw[Array.size_append]
theorem eu{U:aw}{x:Nat}:∀ {fr:List Nat},x∈fr→get (cz U fr) x=get U x
 |y::fr,h=>by
  unfold cz
  by_cases e:y=x
  ·subst e
   cases q:get U y with
   |none=>
    show get (cz U fr) y=none
    by_cases m:y∈fr
    ·rw[eu m,q]
    ·clear h
     induction fr with
     |nil=>rfl
     |cons z fr ih=>
      have mz:¬ z=y:=fun e=>m (by rw[e];exact .head _)
      have mf:y∉fr:=fun h=>m (.tail _ h);unfold cz;cases get U z with
      |none=>exact ih mf
      |some v=>show get ((z,v)::cz U fr) y=none;rw[nK,if_neg mz];exact ih mf
   |some v=>show get ((y,v)::cz U fr) y=some v;rw[nK,if_pos rfl]
  ·have h:x∈fr:=by
    rcases List.mem_cons.mp h with rfl|h
    ·exact absurd rfl e
    ·exact h
   cases q:get U y with
   |none=>exact eu h
   |some v=>show get ((y,v)::cz U fr) x=_;rw[nK,if_neg e];exact eu h
noncomputable def jo(s:Nat×Nat×Nat)(u:Int):Nat:=if u=1 then s.1 else s.2.1
theorem MQ{s:Nat×Nat×Nat}(h:s∈bZ)(u:Int):jo s u<3:=by
 have key:bZ.all (fun s=>decide (s.1<3)&&decide (s.2.1<3))=true:=by decide
 have:=List.all_eq_true.mp key s h;simp only[Bool.and_eq_true,decide_eq_true_eq]at this;unfold jo;split<;>(first|exact ag 2 0 (aa (aT (ak af cm) (ak ab cm)) (ak af cm)) (by kd_p) this|exact ag 2 0 (aa (aT (ak ab cm) (ak af cm)) (ak af cm)) (by kd_p) this)
theorem CJ(s:Nat×Nat×Nat){u:Int}(hu:u=1∨u=2):∃p q:Int,((rowsOf s).map V.int)[cF (u-1) ((rowsOf s).map V.int).length]?=some (.int p)∧((rowsOf s).map V.int)[cF u ((rowsOf s).map V.int).length]?=some (.int q)∧p-q=((jo s u:Nat):Int):=by
 rcases hu with rfl|rfl
 ·exact⟨_,_,rfl,rfl,by show((s.1+s.2.1+s.2.2:Nat):Int)-((s.2.1+s.2.2:Nat):Int)=(s.1:Int);exact ag 3 0 (aS (bR (az (aj (aj au af) ab)) (az (aj af ab))) (az au)) (by kd_p)⟩
 ·exact⟨_,_,rfl,rfl,by show((s.2.1+s.2.2:Nat):Int)-((s.2.2:Nat):Int)=(s.2.1:Int);exact ag 2 0 (aS (bR (az (aj af ab)) (az ab)) (az af)) (by kd_p)⟩
noncomputable def CL:Ss:=(.cons (.iff (.cmp .IsNot (.call (.glob 123) (.cons (.bin .Add (.call (.glob 124) (.cons (.var 92) (.cons (.var 91) (.cons (.var 93) (.cons (.sub (.var 60) (.int 5)) .nil))))) (.var 125)) .nil)) (.wu (.cmp .GtE (.var 122) (.int 0)) (.cmp .NotEq (.var 125) (.str "\"(")))) (.cons (.ret (.bool false)) .nil) .nil) (.cons (.asg (.name 118) (.wu (.var 118) (.cmp .GtE (.var 122) (.int 0)))) .nil))
noncomputable def J8:Ss:=(.cons (.asg (.name 91) (.bin .Sub (.sub (.var 68) (.bin .Sub (.var 93) (.int 1))) (.sub (.var 68) (.var 93)))) (.cons (.asg (.name 122) (.call (.glob 126) (.cons (.eB false (.bin .Sub (.bin .Add (.var 91) (.cA (.slice (.var 92) .no (.var 80) .no) "count" (.cons (.var 93) .nil))) (.cA (.slice (.var 92) .no (.var 80) .no) "count" (.cons (.bin .Add (.var 93) (.int 1)) .nil))) 80 (.call (.glob 57) (.cons (.bin .Add (.call (.glob 6) (.cons (.var 92) .nil)) (.int 1)) .nil)) .nil [91,92,93] [80]) .nil))) CL))
theorem MR(hG:bx G)(dW:∀a∈tabs,G.Bs a=none){n:Nat}{U:aw}{O:Mu}{K:Fl→aw→Mu→Prop}{ls:List Int}{r u le c0 c1 c2 c3 c4 c5:Int}{e:Str}{k:Bool}
  (n3:get U 92=some (.list (ls.map .int)))(g91:get U 91=some (.int r))(XG:get U 93=some (.int u))(yq:get U 60=some (.list ([c0,c1,c2,c3,c4,c5].map .int)))(DR:get U 125=some (.str e))(vp:get U 118=some (.bool k))(aak:get U 122=some (.int le))
  (FX:ls.length≤100)(hr : -100≤r∧r≤100)(J9:MK (textOf ls r u c5++e) (decide (0≤le)&&(e !=Str.ofString "\"("))=true)
  (hK:K .next (bg.set U 118 (.bool (k&&decide (0≤le)))) O):aX G bX (n+10) CL U O K:=by
 have l6:cp ([c0,c1,c2,c3,c4,c5].map V.int).length:=.of (by simp)
 unfold MK at J9;simp only[Bool.and_eq_true,Nat.ble_eq]at J9;obtain⟨⟨⟨h1,h2⟩,h3⟩,h4⟩:=J9;have h3':=h3;rw[str_len]at h3';have h1:=(Ax _).trans (eq_of_beq h1);rw[←rX]at h4;unfold CL;kd_all;refine V_at (v:=.int c5) rfl (by simp) l6 ?_
 kd_all;refine CK hG (yt hG (n:=n+9) FX hr ?_);kd_all;refine jc (l4.small (by omega) (by omega)) ?_
 kd_all;refine CK hG (Fp hG dW (n:=n) (AD h2) h3 (AD h4) ?_);rw[h1];kd_all
 by_cases hl:0≤le
 ·rw[decide_eq_true hl]at *
  kd_all;rw[Bool.true_and,bne_self_eq_false];kd_all;cases k<;>kd_all<;>first|exact hK|(rw[decide_eq_true hl];exact hK)
 ·rw[decide_eq_false hl]at *
  kd_all;rw[Bool.false_and,bne_self_eq_false];kd_all;cases k<;>kd_all<;>first|exact hK|(rw[decide_eq_false hl];exact hK)
theorem SI(hG:bx G)(dW:∀a∈tabs,G.Bs a=none){n:Nat}{U:aw}{O:Mu}{K:Fl→aw→Mu→Prop}{s:Nat×Nat×Nat}(hs:s∈bZ){ah:List Nat}(hl:ah∈bJ){f:List (List Int)}(hf:f∈fillAll ah){u:Int}(hu:u=1∨u=2){c0 c1 c2 c3 c4 c5:Int}{e:Str}(he:e∈kQ){k:Bool}
  (ZD:get U 68=some (.list ((rowsOf s).map .int)))(n3:get U 92=some (.list ((aD f).map .int)))(XG:get U 93=some (.int u))(yq:get U 60=some (.list ([c0,c1,c2,c3,c4,c5].map .int)))(DR:get U 125=some (.str e))(vp:get U 118=some (.bool k))
  (hK:∀ao,(∀j,j∉[91,122,118]→get ao j=get U j)→get ao 118=some (.bool (k&&decide (0≤eH (aD f) (jo s u:Nat) u)))→K .next ao O):aX G bX (n+10) J8 U O K:=by
 refine oy (CJ s hu) ?_;intro p q hp hq hpq;have l3:cp ((rowsOf s).map V.int).length:=.of (by simp[rowsOf])
 have hlen:=(lV hl hf).2.2;have XH:=MQ hs u;have J9:=MP hl hf XH hu c5 he;unfold J8;kd_all;refine V_at hp (by rcases hu with rfl|rfl<;>simp[rowsOf]) l3 ?_
 kd_all;refine V_at hq (by rcases hu with rfl|rfl<;>simp[rowsOf]) l3 ?_
 kd_all;rw[hpq];generalize jo s u=r at *;generalize aD f=ls at *;have XI:get (bg.set U 91 (.int (r:Int))) 91=some (.int (r:Int)):=gs;have XJ:get (bg.set U 91 (.int (r:Int))) 92=some (.list (ls.map .int)):=gn n3;have XK:get (bg.set U 91 (.int (r:Int))) 93=some (.int u):=gn XG;have k60:get (bg.set U 91 (.int (r:Int))) 60=some (.list ([c0,c1,c2,c3,c4,c5].map .int)):=gn yq;have XM:get (bg.set U 91 (.int (r:Int))) 125=some (.str e):=gn DR;have XN:get (bg.set U 91 (.int (r:Int))) 118=some (.bool k):=gn vp;have kk:∀j,j∉[91,122,118]→get (bg.set U 91 (.int (r:Int))) j=get U j:=by
  intro j hj;rw[get_set,if_neg (fun e=>hj (by rw[e];exact .head _))]
 generalize bg.set U 91 (.int (r:Int))=a9 at *;kd_all;refine dE ?_;kd_all;refine cN (cp.of (by rw[List.length_map];exact we hlen)).ok ?_
 kd_all;refine d5 ?_;refine⟨_,Iter.gE (eN (by decide) (by decide) (by exact ag 1 0 (ai (zk (-1000000)) (bh (az ab) bV)) (by kd_p)) (by rw[List.length_map];exact ag 1 0 (aa (ae ab fe) (ai (bh (az ab) bV) (zk 1000000))) (by kd_p) hlen)),?_⟩
 have er:cJ 0 (((ls.map V.int).length:Int)+1)=(List.range (ls.length+1)).map fun(i:Nat)=>V.int (i:Int):=by
  unfold cJ;rw[List.length_map,show((ls.length:Int)+1-0).toNat=ls.length+1 by exact ag 1 0 (aa (ae ab fe) (ax (dB (bR (bh (az ab) bV) aJ)) (aj ab aC))) (by kd_p) hlen]
  exact List.map_congr_left fun i zz=>by rw[Int.zero_add]
 rw[er];refine gr (M:=200) (J:=fun ao=>get ao 91=some (.int (r:Int))∧get ao 92=some (.list (ls.map .int))∧get ao 93=some (.int u)) (fun(i:Nat)=>V.int (i:Int)) (fun(i:Nat)=>V.int ((r:Int)+((ls.take i).count u:Nat)-((ls.take i).count (u+1):Nat))) (fun i hi ao acc K' hJ hM fP=>?_) ⟨by rw[eu (by simp)];exact XI,by rw[eu (by simp)];exact XJ,by rw[eu (by simp)];exact XK⟩ (by simp;exact ag 1 0 (aa (ae ab fe) (ae ab (nk 199))) (by kd_p) hlen) (fun ao zz=>?_)
 ·have j91:get (bg.set ao 80 (.int (i:Int))) 91=some (.int (r:Int)):=gn hJ.1
  have SJ:get (bg.set ao 80 (.int (i:Int))) 92=some (.list (ls.map .int)):=gn hJ.2.1;have j93:get (bg.set ao 80 (.int (i:Int))) 93=some (.int u):=gn hJ.2.2;have MS:get (bg.set ao 80 (.int (i:Int))) 80=some (.int (i:Int)):=gs;first|show aX _ _ _ _ _ _ _|show eh _ _ _ _ _ _ _|skip
  generalize bg.set ao 80 (.int (i:Int))=b9 at *;refine cR ?_;kd_all;refine bB ?_;kd_all;refine tZ (by decide) (gM.of (by rw[List.length_map];exact we hlen)) ?_
  rw[oY,←List.map_take];refine⟨_,dw,?_⟩;kd_all;refine dT ?_;kd_all;refine bB ?_;kd_all;refine tZ (by decide) (gM.of (by rw[List.length_map];exact we hlen)) ?_
  rw[oY,←List.map_take];refine⟨_,dw,?_⟩;kd_all;refine dT ?_;k_upd;exact⟨.of (by exact ag 1 0 (aa (ae (aj ab aC) (nk 200)) (ae (aj ab aC) aQ)) (by kd_p) hM),fP b9 ⟨j91,SJ,j93⟩⟩
 ·refine bK ?_
  have ep:((List.range (ls.length+1)).map fun(i:Nat)=>V.int ((r:Int)+((ls.take i).count u:Nat)-((ls.take i).count (u+1):Nat)))=(vd ls (r:Int) u).map .int:=by
   unfold vd;rw[List.map_map]
   rfl
  rw[ep];kd_all;refine Ls (CG ls r u) (least_le ls r u) ?_;kd_all;refine MR hG dW (ls:=ls) (r:=r) (u:=u) (le:=eH ls r u) (e:=e) (k:=k) (gn XJ) (gn XI) (gn XK) (gn k60) (gn XM) (gn XN) (gs) (by exact NX hlen) (by exact ag 1 0 (aa (ak ab cm) (aT (ai (zk (-100)) (az ab)) (ai (az ab) dm))) (by kd_p) XH) J9 ?_
  refine hK _ (fun j hj=>?_) (gs);have n1:¬ 118=j:=fun e=>hj (by rw[←e];simp)
  have n2:¬ 122=j:=fun e=>hj (by rw[←e];simp)
  rw[get_set,if_neg (by first|exact n1|exact fun e=>n1 e.symm),get_set,if_neg (by first|exact n2|exact fun e=>n2 e.symm)]
  exact kk j hj
structure TA(U:aw)(cs:List Int)(fi mi x y z:Int)(s:Nat×Nat×Nat)(ah:List Nat):Prop where
 l:m8 U cs fi mi x y z s ah
 w:get U 102=some (.ml 0)
 d:get U 105=some (.ml 1)
theorem TA.set{U:aw}{cs:List Int}{fi mi x y z:Int}{s:Nat×Nat×Nat}{ah:List Nat}(h:TA U cs fi mi x y z s ah){k:Nat}{v:V}(hk:k∉[60,63,127,130,69,68,113,112,102,105]):TA (bg.set U k v) cs fi mi x y z s ah:=by
 simp only[List.mem_cons,List.not_mem_nil,or_false,not_or]at hk;refine zc hk ?_;clear hk;intro k1 k2 k3 k4 k5 k6 k7 k8 k9 SK;exact⟨h.l.set (by simp only[List.mem_cons,List.not_mem_nil,or_false,not_or];exact⟨k1,k2,k3,k4,k5,k6,k7,k8⟩),by rw[get_set,if_neg k9];exact h.w,by rw[get_set,if_neg SK];exact h.d⟩
theorem TA.keep{U ao:aw}{cs:List Int}{fi mi x y z:Int}{s:Nat×Nat×Nat}{ah:List Nat}(h:TA U cs fi mi x y z s ah)(hk:∀j∈[60,63,127,130,69,68,113,112,102,105],get ao j=get U j):TA ao cs fi mi x y z s ah:=
 ⟨⟨by rw[hk _ (by decide)];exact h.l.c,by rw[hk _ (by decide)];exact h.l.f,by rw[hk _ (by decide)];exact h.l.e,by rw[hk _ (by decide)];exact h.l.m,by rw[hk _ (by decide)];exact h.l.p,by rw[hk _ (by decide)];exact h.l.s,by rw[hk _ (by decide)];exact h.l.o,by rw[hk _ (by decide)];exact h.l.t⟩,
  by rw[hk _ (by decide)];exact h.w,by rw[hk _ (by decide)];exact h.d⟩
noncomputable def q5(x y z:Int)(ls:List Int):Int:=x ^ ls.count 1*y ^ ls.count 2*z ^ ls.count 3
noncomputable def gX(ws:List Int)(m:List (List Int×Int)):Mu:=[some (ws.map .int),some (m.map bT)]
noncomputable def Ka:Ss:=(.cons (.expr (.cA (.var 102) "append" (.cons (.bin .Mult (.bin .Mult (.bin .Pow (.sub (.var 69) (.int 0)) (.cA (.var 92) "count" (.cons (.int 1) .nil))) (.bin .Pow (.sub (.var 69) (.int 1)) (.cA (.var 92) "count" (.cons (.int 2) .nil)))) (.bin .Pow (.sub (.var 69) (.int 2)) (.cA (.var 92) "count" (.cons (.int 3) .nil)))) .nil))) .nil)
noncomputable def Kb:Ss:=(.cons (.iff (.val (.var 118)) (.cons (.expr (.mC (.glob 119) (.cons (.var 105) (.cons (.tup (.cons (.var 120) (.cons (.neg (.call (.glob 6) (.cons (.var 102) .nil))) .nil))) .nil)) "key" (.glob 116))) .nil) .nil) Ka)
noncomputable def Kc:Ss:=(.cons (.iff (.cmp .IsNot (.cmp .Eq (.call (.glob 121) (.cons (.var 77) (.cons (.var 68) .nil))) (.eB false (.bin .Mult (.list false (.cons (.bin .Add (.var 80) (.int 1)) .nil)) (.sub (.var 120) (.var 80))) 80 (.call (.glob 57) (.cons (.int 3) .nil)) .nil [120] [80])) (.var 118)) (.cons (.ret (.bool false)) .nil) .nil) Kb)
noncomputable def DS:Ss:=(.cons (.for 93 (.list false (.cons (.int 1) (.cons (.int 2) .nil))) J8) Kc)
noncomputable def Kd:Ss:=(.cons (.kE [125,118] (.tup (.cons (.sub (.var 127) (.bin .Mod (.bin .Add (.bin .FloorDiv (.sub (.var 60) (.int 5)) (.int 1920)) (.call (.glob 6) (.cons (.var 102) .nil))) (.int 5))) (.cons (.bool true) .nil)))) DS)
noncomputable def Ke:Ss:=(.cons (.asg (.name 120) (.eB false (.bin .Add (.sub (.var 68) (.var 80)) (.cA (.var 92) "count" (.cons (.bin .Add (.var 80) (.int 1)) .nil))) 80 (.call (.glob 57) (.cons (.int 3) .nil)) .nil [68,92] [80])) Kd)
noncomputable def DT:Ss:=(.cons (.asg (.name 92) (.t4 false (.var 71) 72 (.slice (.var 77) .no .no (.neg (.int 1))) .nil 71 (.var 72) .nil [] [72,71])) Ke)
noncomputable def vq:Ss:=DT
theorem MT:vq=DT:=rfl
section
variable{n:Nat}{U:aw}{K:Fl→aw→Mu→Prop}{cs:List Int}{fi mi x y z:Int}{s:Nat×Nat×Nat}{ah:List Nat}{ls:List Int}{ws:List Int}{m:List (List Int×Int)}
theorem Kf(T:TA U cs fi mi x y z s ah)(hx:Sz 10 x)(hy:Sz 10 y)(hz:Sz 10 z)(n3:get U 92=some (.list (ls.map .int)))(FX:ls.length≤10)(lS:ws.length≤100)
  (hK:K .next U (gX (ws++[q5 x y z ls]) m)):aX G bX n Ka U (gX ws m) K:=by
 have l3:cp [V.int x,V.int y,V.int z].length:=.of (by simp)
 have hc:∀k:Int,ls.count k≤10:=fun k=>Nat.le_trans List.count_le_length FX;have JQ:=T.w;have J1:=T.l.p;have hi:((gX ws m)[0]?:Option (Option (List V)))=some (some (ws.map .int)):=rfl;unfold Ka;kd_all;refine bB ?_;kd_all;refine⟨_,fC hi,?_⟩;kd_all;refine V_at (v:=.int x) rfl (by simp) l3 ?_
 kd_all;refine bB ?_;kd_all;refine⟨_,dw,?_⟩;kd_all;refine dT ?_;kd_all;refine qr (pC.sz hx (by exact Int.natCast_nonneg _) 10 (by have:=hc 1;exact GU this) (by decide)) ?_
 kd_all;refine V_at (v:=.int y) rfl (by simp) l3 ?_
 kd_all;refine bB ?_;kd_all;refine⟨_,dw,?_⟩;kd_all;refine dT ?_;kd_all;refine qr (pC.sz hy (by exact Int.natCast_nonneg _) 10 (by have:=hc 2;exact GU this) (by decide)) ?_
 kd_all;rw[Int.toNat_natCast,Int.toNat_natCast];have s1:=hx.yl (m:=10) (ls.count 1) (hc 1);have s2:=hy.yl (m:=10) (ls.count 2) (hc 2);have s3:=hz.yl (m:=10) (ls.count 3) (hc 3);refine gh (gZ.sz s1 s2 (by decide)) ?_
 kd_all;refine V_at (v:=.int z) rfl (by simp) l3 ?_
 kd_all;refine bB ?_;kd_all;refine⟨_,dw,?_⟩;kd_all;refine dT ?_;kd_all;refine qr (pC.sz hz (by exact Int.natCast_nonneg _) 10 (by have:=hc 3;exact GU this) (by decide)) ?_
 kd_all;rw[Int.toNat_natCast];refine gh (gZ.sz (s1.mul s2) s3 (by decide)) ?_
 kd_all;refine fD hi (by rw[sizeLine_eq,List.length_map];exact NT lS) .int ?_
 kd_all;have e:(gX ws m).set 0 (some (ws.map .int++[V.int (q5 x y z ls)]))=gX (ws++[q5 x y z ls]) m:=by
  unfold gX;rw[List.map_append]
  rfl
 unfold q5 at e hK;rw[e];exact hK
theorem SM(hG:bx G){kp:Bool}(T:TA U cs fi mi x y z s ah)(hx:Sz 10 x)(hy:Sz 10 y)(hz:Sz 10 z)(n3:get U 92=some (.list (ls.map .int)))(FX:ls.length≤10)(lS:ws.length≤100)(hm:m.length≤1000)
  (vt:get U 120=some (.list ((bF s ls).map .int)))(vp:get U 118=some (.bool kp))
  (hK:K .next U (gX (ws++[q5 x y z ls]) (if kp then m6 m (bF s ls,-(ws.length:Int)) else m))):aX G bX (n+3) Kb U (gX ws m) K:=by
 have JQ:=T.w;have u9:=T.d;have hi:((gX ws m)[0]?:Option (Option (List V)))=some (some (ws.map .int)):=rfl;unfold Kb;kd_all;cases kp
 ·kd_all
  exact Kf T hx hy hz n3 FX lS hK
 ·kd_all
  refine fj hi (by rw[List.length_map];have:(2:Nat) ^ 62=4611686018427387904:=(by decide);exact Oe lS) ?_
  kd_all;refine CK hG (qL hG (n:=n) (j:=1) (xs:=m.map bT) (sh:=dz m) (x:=bF s ls) (rest:=[.int (-((ws.map V.int).length:Int))]) rfl (ku m) (by rw[List.length_map];exact Nr hm) (by simp) (fun v hv=>by cases hv with|head=>exact .int|tail _ h=>cases h) (mR _ _ _ (Nat.zero_le _)).2 ?_)
  have e:(gX ws m).set 1 (some ((m.map bT).take (cP (fun i=>fk (bF s ls) (dz m i)) (m.map bT).length 0 (m.map bT).length)++V.tuple (V.list ((bF s ls).map V.int)::[V.int (-((ws.map V.int).length:Int))])::(m.map bT).drop (cP (fun i=>fk (bF s ls) (dz m i)) (m.map bT).length 0 (m.map bT).length)))=gX ws (m6 m (bF s ls,-(ws.length:Int))):=by
   have:=FV m (bF s ls,-(ws.length:Int));unfold gX;rw[←this,List.length_map (as:=ws)]
   rfl
  rw[e];kd_all;exact Kf (m:=m6 m (bF s ls,-(ws.length:Int))) T hx hy hz n3 FX lS hK
theorem SN(hG:bx G)(hs:s∈bZ)(hl:ah∈bJ){f:List (List Int)}(hf:f∈fillAll ah)(T:TA U cs fi mi x y z s ah)(hx:Sz 10 x)(hy:Sz 10 y)(hz:Sz 10 z)(n3:get U 92=some (.list ((aD f).map .int)))(lS:ws.length≤100)(hm:m.length≤1000)
  (sJ:get U 77=some (cH f))(vt:get U 120=some (.list ((bF s (aD f)).map .int)))(vp:get U 118=some (.bool (p5 s (aD f))))
  (hK:K .next U (gX (ws++[q5 x y z (aD f)]) (lW s f ws.length m))):aX G bX (n+3) Kc U (gX ws m) K:=by
 have SO:=T.l.s;have hC:=lV hl hf;have FY:s.1<3∧s.2.1<3∧s.2.2<3:=by
  have key:bZ.all (fun s=>decide (s.1<3)&&decide (s.2.1<3)&&decide (s.2.2<3))=true:=by decide
  have:=List.all_eq_true.mp key s hs;simp only[Bool.and_eq_true,decide_eq_true_eq]at this;exact ag 3 0 (aa (aT (aT (ak au cm) (ak af cm)) (ak ab cm)) (aT (ak au cm) (aT (ak af cm) (ak ab cm)))) (by kd_p) this
 have hp:yT s f=true:=(nT hs hl).1 f hf;unfold Kc;kd_all;refine CK hG (uO hG (n:=n+1) (F:=f) (a:=((s.1+s.2.1+s.2.2:Nat):Int)) (b:=((s.2.1+s.2.2:Nat):Int)) (c:=(s.2.2:Int)) (by omega) (fun c hc=>by have:=hC.2.1 c hc;exact ag 1 0 (aa (ae ab cm) (ae ab cy)) (by kd_p) this) (by exact ag 3 0 (aa (aT (ak au cm) (aT (ak af cm) (ak ab cm))) (aT (ai aJ (az (aj (aj au af) ab))) (ai (az (aj (aj au af) ab)) dm))) (by kd_p) FY) (by exact ag 3 0 (aa (aT (ak ab cm) (aT (ak au cm) (ak af cm))) (aT (ai aJ (az (aj au af))) (ai (az (aj au af)) dm))) (by kd_p) FY) (by exact ag 3 0 (aa (aT (ak af cm) (aT (ak ab cm) (ak au cm))) (aT (ai aJ (az au)) (ai (az au) dm))) (by kd_p) FY) ?_)
 kd_all;refine dE ?_;kd_all;refine d5 ?_;refine⟨_,Iter.gE (by decide),?_⟩
 have e3:cJ 0 3=(List.range 3).map fun(i:Nat)=>V.int (i:Int):=rfl;rw[e3];refine gr (M:=3) (J:=fun ao=>get ao 120=some (.list ((bF s (aD f)).map .int))) (fun(i:Nat)=>V.int (i:Int)) (fun(i:Nat)=>e8 (List.replicate ((bF s (aD f)).getD i 0).toNat ((i:Int)+1))) (fun i hi ao acc K' hJ hM fP=>?_) (by rw[eu (by simp)];exact vt) (by simp) (fun ao zz=>?_)
 ·have XO:get (bg.set ao 80 (.int (i:Int))) 120=some (.list ((bF s (aD f)).map .int)):=gn hJ
  have MS:get (bg.set ao 80 (.int (i:Int))) 80=some (.int (i:Int)):=gs;first|show aX _ _ _ _ _ _ _|show eh _ _ _ _ _ _ _|skip
  generalize bg.set ao 80 (.int (i:Int))=b9 at *;have hi:=List.mem_range.mp hi;have hv:((bF s (aD f)).map V.int)[cF (i:Int) ((bF s (aD f)).map V.int).length]?=some (.int ((bF s (aD f)).getD i 0)):=by
   have:i=0∨i=1∨i=2:=by exact CZ hi
   rcases this with rfl|rfl|rfl<;>rfl
  have hg:0≤(bF s (aD f)).getD i 0∧(bF s (aD f)).getD i 0≤20:=by
   have c1:(aD f).count 1≤10:=Nat.le_trans List.count_le_length hC.2.2;have c2:(aD f).count 2≤10:=Nat.le_trans List.count_le_length hC.2.2;have c3:(aD f).count 3≤10:=Nat.le_trans List.count_le_length hC.2.2;have:i=0∨i=1∨i=2:=by exact CZ hi
   rcases this with rfl|rfl|rfl
   ·show 0≤(((s.1+s.2.1+s.2.2+(aD f).count 1:Nat):Int))∧(((s.1+s.2.1+s.2.2+(aD f).count 1:Nat):Int))≤(20:Int);exact ag 4 0 (aa (aT (ak aM cm) (aT (ak au cm) (ak af cm))) (aa (ae ab fe) (aT (ai aJ (az (aj (aj (aj aM au) af) ab))) (ai (az (aj (aj (aj aM au) af) ab)) dC)))) (by kd_p) FY c1
   ·show 0≤(((s.2.1+s.2.2+(aD f).count 2:Nat):Int))∧(((s.2.1+s.2.2+(aD f).count 2:Nat):Int))≤(20:Int);exact ag 4 0 (aa (aT (ak ab cm) (aT (ak aM cm) (ak au cm))) (aa (ae af fe) (aT (ai aJ (az (aj (aj aM au) af))) (ai (az (aj (aj aM au) af)) dC)))) (by kd_p) FY c2
   ·show 0≤(((s.2.2+(aD f).count 3:Nat):Int))∧(((s.2.2+(aD f).count 3:Nat):Int))≤(20:Int);exact ag 4 0 (aa (aT (ak af cm) (aT (ak ab cm) (ak aM cm))) (aa (ae au fe) (aT (ai aJ (az (aj aM au))) (ai (az (aj aM au)) dC)))) (by kd_p) FY c3
  refine cR ?_;kd_all;refine V_at hv (by exact Of hi) (.of (by simp[bF])) ?_
  generalize (bF s (aD f)).getD i 0=gi at *;have zT:(2:Int) ^ 63=9223372036854775808:=by decide
  have EH:(2:Nat) ^ 24=16777216:=by decide
  refine lx ⟨by exact ag 0 1 (aa (aT (ai aJ aq) (ai aq dC)) (ai (cI (zk (2 ^ 63))) aq)) (by kd_p) hg,by exact ag 0 1 (aa (aT (ai aJ aq) (ai aq dC)) (aK aq (zk (2 ^ 63)))) (by kd_p) hg,by simp;exact ag 0 1 (aa (aT (ai aJ aq) (ai aq dC)) (ai aq (zk 16777216))) (by kd_p) hg⟩ ?_
  rw[eO];have:=fP b9 XO;unfold e8 at this;rw[List.map_replicate]at this;exact⟨.of (by exact GS hM),this⟩
 refine bK ?_;have eb:((List.range 3).map fun(i:Nat)=>e8 (List.replicate ((bF s (aD f)).getD i 0).toNat ((i:Int)+1)))=(yS s (aD f)).map e8:=by
  unfold yS;rw[List.map_map]
  rfl
 rw[eb];refine Ba (FT _ _) ?_;kd_all;unfold yT at hp;have hp:=eq_of_beq hp;rw[show decide (gC f ((s.1+s.2.1+s.2.2:Nat):Int) ((s.2.1+s.2.2:Nat):Int) (s.2.2:Int)=yS s (aD f))=p5 s (aD f) by rw[←hp];exact Bool.eq_iff_iff.mpr (by simp),bne_self_eq_false]
 kd_all;exact SM hG T hx hy hz n3 hC.2.2 lS hm vt vp hK
end
theorem Kg(c:Int):∃e∈kQ,(kQ.map V.str)[cF (c.fmod 5) (kQ.map V.str).length]?=some (.str e):=by
 have hb:=jm c 5 (by decide)
 obtain⟨k,hk,e⟩:∃k:Nat,k<kQ.length∧c.fmod 5=(k:Int):=⟨(c.fmod 5).toNat,by show _<5;exact ag 0 1 (aa (aT (ai aJ aq) (aK aq (zk 5))) (ak (dB aq) (nk 5))) (by kd_p) hb,by exact Ob hb⟩
 refine⟨kQ[k],List.getElem_mem hk,?_⟩;rw[e,gS,List.getElem?_map,List.getElem?_eq_getElem (by simpa using hk)]
 rfl
noncomputable def MU(s:Nat×Nat×Nat)(ls:List Int):Nat→Bool
 |0=>true
 |1=>true&&decide (0≤eH ls (jo s 1:Nat) 1)
 |_=>(true&&decide (0≤eH ls (jo s 1:Nat) 1))&&decide (0≤eH ls (jo s 2:Nat) 2)
theorem SP(r:aw)(a b:V):bc r ([125,118].reverse.zip [a,b].reverse)=bg.set (bg.set r 118 b) 125 a:=rfl
section
variable{n:Nat}{U:aw}{K:Fl→aw→Mu→Prop}{c0 c1 c2 c3 c4 c5:Int}{fi mi x y z:Int}{s:Nat×Nat×Nat}{ah:List Nat}{ws:List Int}{m:List (List Int×Int)}{f:List (List Int)}
theorem SQ(hG:bx G)(dW:∀a∈tabs,G.Bs a=none)(hs:s∈bZ)(hl:ah∈bJ)(hf:f∈fillAll ah)(T:TA U [c0,c1,c2,c3,c4,c5] fi mi x y z s ah)(hx:Sz 10 x)(hy:Sz 10 y)(hz:Sz 10 z)(n3:get U 92=some (.list ((aD f).map .int)))(lS:ws.length≤100)(hm:m.length≤1000)
  (sJ:get U 77=some (cH f))(vt:get U 120=some (.list ((bF s (aD f)).map .int)))(vp:get U 118=some (.bool true)){e:Str}(he:e∈kQ)(DR:get U 125=some (.str e))
  (hK:∀ao,(∀j,j∉[91,122,118,93]→get ao j=get U j)→K .next ao (gX (ws++[q5 x y z (aD f)]) (lW s f ws.length m))):aX G bX (n+10) DS U (gX ws m) K:=by
 unfold DS;refine ic (gN ?_);kd_all;refine⟨_,Iter.list,?_⟩;refine dA (J:=fun i ao ar=>ar=gX ws m∧(∀j,j∉[91,122,118,93]→get ao j=get U j)∧get ao 118=some (.bool (MU s (aD f) i))) (fun i v a9 aA k hx hJ hk hb hr=>?_) (fun a9 aA hJ=>?_) ⟨rfl,fun zz zz=>rfl,vp⟩
 ·refine qe hJ ?_;clear hJ;intro z1;subst z1;intro hJ Kh
  have O5:∃u:Int,(u=1∨u=2)∧v=.int u∧MU s (aD f) (i+1)=(MU s (aD f) i&&decide (0≤eH (aD f) (jo s u:Nat) u)):=by
   match i,hx with
   |0,hx=>cases hx;exact⟨1,.inl rfl,rfl,rfl⟩
   |1,hx=>cases hx;exact⟨2,.inr rfl,rfl,rfl⟩
  refine gJ O5 ?_;clear O5;intro u hu z1;subst z1;intro hkp;have h:∀j,j∉[91,122,118,93]→get (bg.set a9 93 (.int u)) j=get U j:=by
   intro j hj;rw[get_set,if_neg (fun e=>hj (by rw[←e];simp))]
   exact hJ j hj
  refine SI hG dW hs hl hf hu he (k:=MU s (aD f) i) (by rw[h _ (by decide)];exact T.l.s) (by rw[h _ (by decide)];exact n3) (gs) (by rw[h _ (by decide)];exact T.l.c) (by rw[h _ (by decide)];exact DR) (gn Kh) fun b9 h2 SR=>?_
  refine hk b9 _ ⟨rfl,fun j hj=>?_,by rw[SR,hkp]⟩
  rw[h2 j (fun hm=>hj (by simp only[List.mem_cons,List.not_mem_nil,or_false]at hm ⊢;exact ag 1 0 (aa (lpo (ax ab (nk 91)) (lpo (ax ab (nk 122)) (ax ab (nk 118)))) (lpo (ax ab (nk 91)) (lpo (ax ab (nk 122)) (lpo (ax ab (nk 118)) (ax ab (nk 93)))))) (by kd_p) hm))]
  exact h j hj
 ·refine qe hJ ?_;clear hJ;intro z1;subst z1;intro hJ Kh
  exact SN (n:=n+7) hG hs hl hf (T.keep fun j hj=>hJ j (by intro hm;simp only[List.mem_cons,List.not_mem_nil,or_false]at hm hj;exact Og hm hj)) hx hy hz (by rw[hJ _ (by decide)];exact n3) lS hm (by rw[hJ _ (by decide)];exact sJ) (by rw[hJ _ (by decide)];exact vt) Kh (hK _ hJ)
theorem SS(hG:bx G)(dW:∀a∈tabs,G.Bs a=none)(hs:s∈bZ)(hl:ah∈bJ)(hf:f∈fillAll ah)(T:TA U [c0,c1,c2,c3,c4,c5] fi mi x y z s ah)(hx:Sz 10 x)(hy:Sz 10 y)(hz:Sz 10 z)(n3:get U 92=some (.list ((aD f).map .int)))(lS:ws.length≤100)(hm:m.length≤1000)
  (sJ:get U 77=some (cH f))(vt:get U 120=some (.list ((bF s (aD f)).map .int)))
  (hK:∀ao,TA ao [c0,c1,c2,c3,c4,c5] fi mi x y z s ah→K .next ao (gX (ws++[q5 x y z (aD f)]) (lW s f ws.length m))):aX G bX (n+10) Kd U (gX ws m) K:=by
 have JQ:=T.w;have EU:=T.l.c;have JZ:=T.l.e;unfold qX at JZ;have l6:cp ([c0,c1,c2,c3,c4,c5].map V.int).length:=.of (by simp)
 have hi:((gX ws m)[0]?:Option (Option (List V)))=some (some (ws.map .int)):=rfl;have BE:(2:Nat) ^ 62=4611686018427387904:=by decide
 unfold Kd;generalize hP:DS=P3;kd_all;refine V_at (v:=.int c5) rfl (by simp) l6 ?_
 kd_all;refine dR ⟨by decide,by decide +kernel⟩ ?_
 kd_all;refine fj hi (by rw[List.length_map];exact Oe lS) ?_
 kd_all;refine dD (by decide) ?_
 refine aW (Kg (c5.fdiv 1920+((ws.map V.int).length:Int))) ?_;intro e he EX;refine V_at EX (by have:=jm (c5.fdiv 1920+((ws.map V.int).length:Int)) 5 (by decide);exact Oc this) (.of (by decide)) ?_
 kd_all;rw[SP,←hP];have T':TA (bg.set (bg.set U 118 (.bool true)) 125 (.str e)) [c0,c1,c2,c3,c4,c5] fi mi x y z s ah:=(T.set (by decide)).set (by decide)
 refine SQ hG dW hs hl hf T' hx hy hz (gn (gn n3)) lS hm (gn (gn sJ)) (gn (gn vt)) (gn gs) he (gs) fun ao h=>?_;exact hK ao (T'.keep fun j hj=>h j (by intro hm;simp only[List.mem_cons,List.not_mem_nil,or_false]at hm hj;exact Og hm hj))
theorem SU(hG:bx G)(dW:∀a∈tabs,G.Bs a=none)(hs:s∈bZ)(hl:ah∈bJ)(hf:f∈fillAll ah)(T:TA U [c0,c1,c2,c3,c4,c5] fi mi x y z s ah)(hx:Sz 10 x)(hy:Sz 10 y)(hz:Sz 10 z)(n3:get U 92=some (.list ((aD f).map .int)))(lS:ws.length≤100)(hm:m.length≤1000)
  (sJ:get U 77=some (cH f))
  (hK:∀ao,TA ao [c0,c1,c2,c3,c4,c5] fi mi x y z s ah→K .next ao (gX (ws++[q5 x y z (aD f)]) (lW s f ws.length m))):aX G bX (n+10) Ke U (gX ws m) K:=by
 have SO:=T.l.s;unfold Ke;kd_all;refine dE ?_;kd_all;refine d5 ?_;refine⟨_,Iter.gE (by decide),?_⟩
 have e3:cJ 0 3=(List.range 3).map fun(i:Nat)=>V.int (i:Int):=rfl;rw[e3];refine gr (M:=3) (J:=fun ao=>get ao 68=some (.list ((rowsOf s).map .int))∧get ao 92=some (.list ((aD f).map .int))) (fun(i:Nat)=>V.int (i:Int)) (fun(i:Nat)=>V.int ((bF s (aD f)).getD i 0)) (fun i hi ao acc K' hJ hM fP=>?_) ⟨by rw[eu (by simp)];exact SO,by rw[eu (by simp)];exact n3⟩ (by simp) (fun ao zz=>?_)
 ·have j68:get (bg.set ao 80 (.int (i:Int))) 68=some (.list ((rowsOf s).map .int)):=gn hJ.1
  have SJ:get (bg.set ao 80 (.int (i:Int))) 92=some (.list ((aD f).map .int)):=gn hJ.2;have MS:get (bg.set ao 80 (.int (i:Int))) 80=some (.int (i:Int)):=gs;first|show aX _ _ _ _ _ _ _|show eh _ _ _ _ _ _ _|skip
  generalize bg.set ao 80 (.int (i:Int))=b9 at *;have hi:=List.mem_range.mp hi;have hv:((rowsOf s).map V.int)[cF (i:Int) ((rowsOf s).map V.int).length]?=some (.int ((rowsOf s).getD i 0)):=by
   have:i=0∨i=1∨i=2:=by exact CZ hi
   rcases this with rfl|rfl|rfl<;>rfl
  have hg:(rowsOf s).getD i 0+(((aD f).count ((i:Int)+1):Nat):Int)=(bF s (aD f)).getD i 0:=by
   have:i=0∨i=1∨i=2:=by exact CZ hi
   rcases this with rfl|rfl|rfl<;>rfl
  refine cR ?_;kd_all;refine V_at hv (by exact Of hi) (.of (by simp[rowsOf])) ?_
  kd_all;refine bB ?_;kd_all;refine⟨_,dw,?_⟩;kd_all;refine dT ?_;k_upd;rw[hg];exact⟨.of (by exact GS hM),fP b9 ⟨j68,SJ⟩⟩
 refine bK ?_;rw[show((List.range 3).map fun(i:Nat)=>V.int ((bF s (aD f)).getD i 0))=(bF s (aD f)).map .int from rfl];kd_all;exact SS hG dW hs hl hf (T.set (by decide)) hx hy hz (gn n3) lS hm (gn sJ) (gs) hK
theorem SV(hG:bx G)(dW:∀a∈tabs,G.Bs a=none)(hs:s∈bZ)(hl:ah∈bJ)(hf:f∈fillAll ah)(T:TA U [c0,c1,c2,c3,c4,c5] fi mi x y z s ah)(hx:Sz 10 x)(hy:Sz 10 y)(hz:Sz 10 z)(lS:ws.length≤100)(hm:m.length≤1000)
  (sJ:get U 77=some (cH f))
  (hK:∀ao,TA ao [c0,c1,c2,c3,c4,c5] fi mi x y z s ah→K .next ao (gX (ws++[q5 x y z (aD f)]) (lW s f ws.length m))):aX G bX (n+10) DT U (gX ws m) K:=by
 have hC:=lV hl hf;have XP:=sJ;unfold cH at XP;unfold DT;kd_all;refine zx ?_;kd_all;refine tZ (by decide) (gM.of (by rw[List.length_map];omega)) ?_
 rw[xr,←List.map_reverse];refine⟨_,Iter.list,?_⟩;have ef:f.reverse.flatMap (fun c:List Int=>c.map V.int)=(aD f).map .int:=by
  unfold aD;rw[List.map_flatten,List.flatMap_def]
 have el:((aD f).map V.int).length≤10:=by rw[List.length_map];exact hC.2.2
 refine dZ (M:=10) (J:=fun zz=>True) (fun c:List Int=>V.list (c.map .int)) (fun c:List Int=>c.map V.int) (fun c hc ao acc K' hJ hM fP=>?_) trivial (by rw[ef];simpa using el) (fun ao zz=>?_)
 ·have j72:get (bg.set ao 72 (.list (c.map .int))) 72=some (.list (c.map .int)):=gs
  first|show aX _ _ _ _ _ _ _|show eh _ _ _ _ _ _ _|skip
  generalize bg.set ao 72 (.list (c.map .int))=b9 at *;refine cR ?_;kd_all;refine⟨_,Iter.list,?_⟩;have ec:c.flatMap (fun l:Int=>[V.int l])=c.map .int:=by
   clear hC el ef j72 hM fP hc
   induction c with
   |nil=>rfl
   |cons a r ih=>rw[List.flatMap_cons,ih];rfl
  refine dZ (M:=10) (J:=fun zz=>True) (fun l:Int=>V.int l) (fun l:Int=>[V.int l]) (fun l hl gG WE K2 Jy Cc Fw=>?_) trivial (by rw[ec];exact hM) (fun gG zz=>by rw[ec];exact fP _ trivial)
  have j71:get (bg.set gG 71 (.int l)) 71=some (.int l):=gs;first|show aX _ _ _ _ _ _ _|show eh _ _ _ _ _ _ _|skip
  generalize bg.set gG 71 (.int l)=pv at *;refine cR ?_;k_upd;exact⟨.of (by simp at Cc;exact ag 1 0 (aa (ae ab (nk 9)) (ae (aj ab aC) aQ)) (by kd_p) Cc),Fw pv trivial⟩
 refine bK ?_;rw[ef,List.nil_append];kd_all;exact SU hG dW hs hl hf (T.set (by decide)) hx hy hz (gs) lS hm (gn sJ) hK
end
noncomputable def iK(x y z:Int)(F:List (List (List Int))):List Int:=F.map fun f=>q5 x y z (aD f)
theorem Ki(hG:bx G)(dW:∀a∈tabs,G.Bs a=none){n:Nat}{U:aw}{K:Fl→aw→Mu→Prop}{c0 c1 c2 c3 c4 c5:Int}{fi mi x y z:Int}{s:Nat×Nat×Nat}{ah:List Nat}(hs:s∈bZ)(hl:ah∈bJ)(T:TA U [c0,c1,c2,c3,c4,c5] fi mi x y z s ah)(hx:Sz 10 x)(hy:Sz 10 y)(hz:Sz 10 z)
  (SW:get U 74=some (cG (fillAll ah)))
  (hK:∀ao,TA ao [c0,c1,c2,c3,c4,c5] fi mi x y z s ah→K .next ao (gX (iK x y z (fillAll ah)) (aF s ah))):wpS G bX (n+10) (.for 77 (.var 74) vq) U (gX [] []) K:=by
 have hle:=FU hl;unfold cG at SW;try refine gN ?_
 kd_all;refine⟨_,Iter.list,?_⟩;rw[MT];refine dA (J:=fun i ao ar=>TA ao [c0,c1,c2,c3,c4,c5] fi mi x y z s ah∧ar=gX (iK x y z ((fillAll ah).take i)) (jk s ((fillAll ah).take i) 0 [])) (fun i v a9 aA k Br hJ hk hb hr=>?_) (fun a9 aA hJ=>?_) ⟨T,rfl⟩
 ·obtain⟨T1,rfl⟩:=hJ
  rw[List.getElem?_map]at Br;refine aW (Option.map_eq_some_iff.mp Br) ?_;intro f hf z1;subst z1;have XQ:=List.mem_of_getElem? hf;have hi:i<(fillAll ah).length:=(List.getElem?_eq_some_iff.mp hf).1;have e1:(fillAll ah).take (i+1)=(fillAll ah).take i++[f]:=by rw[List.take_add_one,hf];rfl
  have el:((fillAll ah).take i).length=i:=by rw[List.length_take];exact ag 2 0 (aa (ak af ab) (ax (jS af ab) af)) (by kd_p) hi
  have SX:(iK x y z ((fillAll ah).take i)).length=i:=by unfold iK;rw[List.length_map,el]
  have hm:=sa s ((fillAll ah).take i) 0 [];rw[el]at hm;refine SV hG dW hs hl XQ (T1.set (by decide)) hx hy hz (by exact ag 4 0 (aa (ae au cy) (aa (ak af au) (aa (ax ab af) (aa (ax aM af) (ae aM cy))))) (by kd_p) hle hi el SX) (by simp at hm;exact ag 5 0 (aa (ae aM cy) (aa (ak au aM) (aa (ax af au) (aa (ax ab au) (aa (ae de au) (ae de bw)))))) (by kd_p) hle hi el SX hm) (gs) fun b9 T2=>hk b9 _ ⟨T2,?_⟩
  rw[e1,p9,el,SX,Nat.zero_add];unfold iK;rw[List.map_append]
  rfl
 ·obtain⟨T1,rfl⟩:=hJ
  rw[List.length_map,List.take_of_length_le (Nat.le_refl _)];exact hK a9 T1
structure CA(U:aw)(c5 fi mi x y z:Int)(s:Nat×Nat×Nat)(ah:List Nat):Prop where
 c:∃c0 c1 c2 c3 c4,get U 60=some (.list ([c0,c1,c2,c3,c4,c5].map .int))
 f:get U 63=some (.int fi)
 m:get U 130=some (.int mi)
 p:get U 69=some (.list [.int x,.int y,.int z])
 h:get U 68=some (.list ((rowsOf s).map .int))
 o:get U 113=some (.int (ah.count 1:Nat))
 t:get U 112=some (.int (ah.count 2:Nat))
 w:get U 102=some (.list ((iK x y z (fillAll ah)).map .int))
 d:get U 105=some (.list ((aF s ah).map bT))
theorem CA.set{U:aw}{c5 fi mi x y z:Int}{s:Nat×Nat×Nat}{ah:List Nat}(h:CA U c5 fi mi x y z s ah){k:Nat}{v:V}(hk:k∉[60,63,130,69,68,113,112,102,105]):CA (bg.set U k v) c5 fi mi x y z s ah:=by
 simp only[List.mem_cons,List.not_mem_nil,or_false,not_or]at hk;refine AW hk ?_;clear hk;intro k1 k2 k4 k5 k6 k7 k8 k9 SK;refine Dc h.c ?_;intro c0 c1 c2 c3 c4 hc;exact⟨⟨c0,c1,c2,c3,c4,by rw[get_set,if_neg k1];exact hc⟩,by rw[get_set,if_neg k2];exact h.f,by rw[get_set,if_neg k4];exact h.m,by rw[get_set,if_neg k5];exact h.p,by rw[get_set,if_neg k6];exact h.h,by rw[get_set,if_neg k7];exact h.o,by rw[get_set,if_neg k8];exact h.t,by rw[get_set,if_neg k9];exact h.w,by rw[get_set,if_neg SK];exact h.d⟩
theorem Kj{n:Nat}{U:aw}{K:Fl→aw→Mu→Prop}{c0 c1 c2 c3 c4 c5:Int}{fi mi x y z:Int}{s:Nat×Nat×Nat}{ah:List Nat}{r:Ss}(T:TA U [c0,c1,c2,c3,c4,c5] fi mi x y z s ah)
  (h:∀ao ar,CA ao c5 fi mi x y z s ah→aX G bX n r ao ar K):aX G bX n (.su 102 (.su 105 r)) U (gX (iK x y z (fillAll ah)) (aF s ah)) K:=by
 have hd:=T.d;refine nE (xs:=(iK x y z (fillAll ah)).map .int) T.w rfl ?_;refine nE (i:=1) (xs:=(aF s ah).map bT) (gn T.d) rfl ?_;refine h _ _ ⟨⟨c0,c1,c2,c3,c4,?_⟩,?_,?_,?_,?_,?_,?_,?_,?_⟩
 ·rw[get_set,if_neg (by decide),get_set,if_neg (by decide)];exact T.l.c
 ·rw[get_set,if_neg (by decide),get_set,if_neg (by decide)];exact T.l.f
 ·rw[get_set,if_neg (by decide),get_set,if_neg (by decide)];exact T.l.m
 ·rw[get_set,if_neg (by decide),get_set,if_neg (by decide)];exact T.l.p
 ·rw[get_set,if_neg (by decide),get_set,if_neg (by decide)];exact T.l.s
 ·rw[get_set,if_neg (by decide),get_set,if_neg (by decide)];exact T.l.o
 ·rw[get_set,if_neg (by decide),get_set,if_neg (by decide)];exact T.l.t
 ·rw[get_set,if_neg (by decide),get_set];rfl
 ·rw[get_set];rfl
theorem FZ{m:List (List Int×Int)}{p q:List Int×Int}(h:q∈m6 m p):q=p∨q∈m:=by
 unfold m6 at h;rcases List.mem_append.mp h with h|h
 ·exact .inr (List.mem_of_mem_take h)
 ·rcases List.mem_cons.mp h with h|h
  ·exact .inl h
  ·exact .inr (List.mem_of_mem_drop h)
theorem sd(s:Nat×Nat×Nat):∀ (l:List (List (List Int))) (t:Nat) (m:List (List Int×Int)) (p:List Int×Int),p∈jk s l t m→p∈m∨∃f∈l,p.1=bF s (aD f)
 |[],t,m,p,h=>.inl h
 |g::l,t,m,p,h=>by
  rcases sd s l (t+1) _ p h with h|⟨f,hf,e⟩
  ·split at h
   ·rcases FZ h with rfl|h
    ·exact .inr ⟨g,.head _,rfl⟩
    ·exact .inl h
   ·exact .inl h
  ·exact .inr ⟨f,.tail _ hf,e⟩
theorem count3:∀ls:List Int,ls.count 1+ls.count 2+ls.count 3≤ls.length
 |[]=>Nat.le_refl _
 |l::ls=>by
  have:=count3 ls;rw[List.count_cons,List.count_cons,List.count_cons,List.length_cons]
  by_cases h1:l=1
  ·subst h1;simp;exact ag 4 0 (aa (ae (aj (aj aM au) af) ab) (ae (aj (aj (aj aM aC) au) af) (aj ab aC))) (by kd_p) this
  ·by_cases h2:l=2
   ·subst h2;simp;exact ag 4 0 (aa (ae (aj (aj aM au) af) ab) (ae (aj (aj aM (aj au aC)) af) (aj ab aC))) (by kd_p) this
   ·by_cases h3:l=3
    ·subst h3;simp;exact ag 4 0 (aa (ae (aj (aj aM au) af) ab) (ae (aj (aj aM au) (aj af aC)) (aj ab aC))) (by kd_p) this
    ·simp[h1,h2,h3];exact ag 4 0 (aa (ae (aj (aj aM au) af) ab) (ae (aj (aj aM au) af) (aj ab aC))) (by kd_p) this
theorem pb{s:Nat×Nat×Nat}(hs:s∈bZ):s.1+2*s.2.1+3*s.2.2≤6:=by
 have key:bZ.all (fun s=>decide (s.1+2*s.2.1+3*s.2.2≤6))=true:=by decide
 exact of_decide_eq_true (List.all_eq_true.mp key s hs)
theorem vu{s:Nat×Nat×Nat}(hs:s∈bZ){ah:List Nat}(hl:ah∈bJ){x:List Int}(hx:x∈bO (aF s ah)):∃a b c:Nat,x=[(a:Int),(b:Int),(c:Int)]∧a+b+c≤16:=by
 unfold bO at hx;refine aW (List.mem_flatMap.mp hx) ?_;intro k hk hx;have hk:=List.mem_range.mp hk;split at hx
 ·have hx:=List.mem_singleton.mp hx
  have hp:(aF s ah)[k]?=some (aF s ah)[k]:=List.getElem?_eq_getElem hk;rw[qZ hp]at hx;rcases sd s _ _ _ _ (List.getElem_mem hk) with h|⟨f,hf,e⟩
  ·cases h
  ·rw[e]at hx
   refine⟨_,_,_,hx,?_⟩;have h6:=pb hs;have:=count3 (aD f);have:=(lV hl hf).2.2;exact ag 7 0 (aa (ae (aj (aj Tb (cZ 2 Gu)) (cZ 3 de)) (nk 6)) (aa (ae (aj (aj aM au) af) ab) (aa (ae ab fe) (ae (aj (aj (aj (aj (aj Tb Gu) de) aM) (aj (aj Gu de) au)) (aj de af)) (nk 16))))) (by kd_p) h6 (by assumption) this
 ·cases hx
theorem Kk(p:Nat→Bool)(m:Nat)(h:m<64):0≤cP p m 0 m∧cP p m 0 m≤64:=⟨Nat.zero_le _,by have:=(mR (p:=p) m 0 m (Nat.zero_le _)).2;exact ag 2 0 (aa (ak ab eg) (aa (ae af ab) (ae af eg))) (by kd_p) h this⟩
theorem Kl{m:List (List Int×Int)}(h:m.length<64){k:Int}(hk:k∈b8 m) : -64≤k∧k≤64:=by
 unfold b8 at hk;refine aW (List.mem_map.mp hk) ?_;intro x zz z1;subst z1;have h1:=Kk (fun i=>fk x (dz m i)) m.length h;have h2:=Kk (fun i=>!fk (dz m i) x) m.length h;show -64≤((cP (fun i=>fk x (dz m i)) m.length 0 m.length:Nat):Int)-((cP (fun i=>!fk (dz m i) x) m.length 0 m.length:Nat):Int)∧((cP (fun i=>fk x (dz m i)) m.length 0 m.length:Nat):Int)-((cP (fun i=>!fk (dz m i) x) m.length 0 m.length:Nat):Int)≤64;exact ag 2 0 (aa (aT (ae b6 af) (ae af eg)) (aa (aT (ae b6 ab) (ae ab eg)) (aT (ai (zk (-64)) (bR (az af) (az ab))) (ai (bR (az af) (az ab)) (zk 64))))) (by kd_p) h1 h2
theorem pe(m:List (List Int×Int)):(bO m).length≤m.length:=by
 have:∀l:List Nat,(l.flatMap fun k=>if m7 m (dz m k)=k then[dz m k] else[]).length≤l.length:=by
  intro l
  induction l with
  |nil=>exact Nat.le_refl _
  |cons a r ih=>
   rw[List.flatMap_cons,List.length_append,List.length_cons];split
   ·rw[List.length_singleton];exact ag 2 0 (aa (ae af ab) (ae (aj aC af) (aj ab aC))) (by kd_p) ih
   ·rw[List.length_nil];exact ag 2 0 (aa (ae af ab) (ae (aj b6 af) (aj ab aC))) (by kd_p) ih
 have h:=this (List.range m.length);rw[List.length_range]at h;exact h
theorem vv{p B r:Int}(hB:0<B)(h0:0≤r)(h1:r<B):(p*B+r).fdiv B=p∧(p*B+r).fmod B=r:=by
 rw[fd _ hB,nZ _ hB];refine⟨?_,?_⟩
 ·rw[Int.add_comm,Int.add_mul_ediv_right _ _ (by exact y8 hB),Int.ediv_eq_zero_of_lt h0 h1];exact ag 0 1 (aS (bh aJ aq) aq) (by kd_p)
 ·rw[Int.add_comm,Int.add_mul_emod_self_right,Int.emod_eq_of_lt h0 h1]
theorem CM{p B r:Int}(hB:B<0)(h0:r≤0)(h1:B<r):(p*B+r).fdiv B=p∧(p*B+r).fmod B=r:=by
 have h:=vv (p:=p) (B := -B) (r := -r) (by exact ag 0 1 (aa (aK aq aJ) (aK aJ (cI aq))) (by kd_p) hB) (by exact ag 0 1 (aa (ai aq aJ) (ai aJ (cI aq))) (by kd_p) h0) (by exact ag 0 2 (aa (aK aq aN) (aK (cI aN) (cI aq))) (by kd_p) h1)
 have e:p * -B + -r = -(p*B+r):=by rw[Int.mul_neg];exact N5
 rw[e]at h;have hd:(p*B+r).fdiv B=p:=by rw[←Int.neg_fdiv_neg];exact h.1
 refine⟨hd,?_⟩;rw[Int.fmod_def,hd,Int.mul_comm B p];exact ag 0 2 (aS (bR (bh aN aq) aN) aq) (by kd_p)
noncomputable def restOf(B k:Int):Int:=((if B<0 then -B else B)*k).fdiv 8*(if 0<B then 1 else -1)
theorem F9{B k:Int}(h:0<B):restOf B k=(B*k)/8:=by
 unfold restOf;rw[if_neg (by exact ag 0 1 (aa (aK aJ aq) (dJ (aK aq aJ))) (by kd_p) h),if_pos h,fd (B*k) (b:=8) (by decide),Int.mul_one]
theorem Ga{B k:Int}(h:B<0):restOf B k = -((-B*k)/8):=by
 unfold restOf;rw[if_pos h,if_neg (by exact ag 0 1 (aa (aK aq aJ) (dJ (aK aJ aq))) (by kd_p) h),fd (-B*k) (b:=8) (by decide),Int.mul_neg,Int.mul_one]
theorem vw{B k:Int}(h:0<B)(hk:0≤k∧k<8):0≤restOf B k∧restOf B k<B:=by
 rw[F9 h];have h1:0≤B*k:=Int.mul_nonneg (by exact tB h) hk.1
 have h2:B*k≤B*7:=Int.mul_le_mul_of_nonneg_left (by exact Oh hk) (by exact tB h)
 exact TR h h1 h2
theorem vx{B k:Int}(h:B<0)(hk:0≤k∧k<8):restOf B k≤0∧B<restOf B k:=by
 rw[Ga h];have h1:0 ≤ -B*k:=Int.mul_nonneg (by exact Oi h) hk.1
 have h2 : -B*k ≤ -B*7:=Int.mul_le_mul_of_nonneg_left (by exact Oh hk) (by exact Oi h)
 exact TS h h1 h2
theorem m9{B k:Int}(hB:B≠0)(hk:0≤k∧k<8)(p:Int):(p*B+restOf B k).fdiv B=p∧(p*B+restOf B k).fmod B=restOf B k:=by
 by_cases h:0<B
 ·exact vv h (vw h hk).1 (vw h hk).2
 ·exact CM (by exact y9 hB h) (vx (by exact y9 hB h) hk).1 (vx (by exact y9 hB h) hk).2
theorem Gb{B k:Int}(hB:B≠0)(hk:0≤k∧k<8):(restOf B k).natAbs≤B.natAbs:=by
 by_cases h:0<B
 ·have:=vw h hk;exact ag 0 2 (aa (aK aJ aq) (aa (aT (ai aJ aN) (aK aN aq)) (ae (ja aN) (ja aq)))) (by kd_p) h this
 ·have:=vx (B:=B) (by exact y9 hB h) hk;exact ag 0 2 (aa (dJ (aK aJ aq)) (aa (aT (ai aN aJ) (aK aq aN)) (ae (ja aN) (ja aq)))) (by kd_p) h this
theorem tu{x y z:Int}(hx:Sz 10 x)(hy:Sz 10 y)(hz:Sz 10 z)(a b c:Nat):Sz (10*(a+b+c+3)+6) (c7 x y z a b c):=by
 have e1:((a:Int)+2).toNat=a+2:=by exact N6
 have e2:((b:Int)+1).toNat=b+1:=by exact N7
 have e3:((c:Int)).toNat=c:=by exact N8
 unfold c7;rw[e1,e2,e3];have key:∀A B C:Nat,A+B+C=a+b+c+3→Sz (10*(a+b+c+3)+4) (x ^ A*(y ^ B*z ^ C-y ^ C*z ^ B)):=by
  intro A B C h;have t1:=((hy.pow B).mul (hz.pow C)).mono (k:=10*(B+C)+2) (by exact ag 2 0 (ae (aj (aj (cZ 10 af) aC) (aj (cZ 10 ab) aC)) (aj (cZ 10 (aj af ab)) gU)) (by kd_p))
  have t2:=((hy.pow C).mul (hz.pow B)).mono (k:=10*(B+C)+2) (by exact ag 2 0 (ae (aj (aj (cZ 10 af) aC) (aj (cZ 10 ab) aC)) (aj (cZ 10 (aj ab af)) gU)) (by kd_p))
  exact((hx.pow A).mul (t1.sub t2)).mono (by exact ag 6 0 (aa (ax (aj (aj Gu de) aM) (aj (aj (aj au af) ab) cm)) (ae (aj (aj (cZ 10 Gu) aC) (aj (aj (cZ 10 (aj de aM)) gU) aC)) (aj (cZ 10 (aj (aj (aj au af) ab) cm)) (nk 4)))) (by kd_p) h)
 have aal:∀A B C:Nat,A+B+C=a+b+c+3→Sz (10*(a+b+c+3)+4) (x ^ A*(y ^ B*z ^ C-y ^ C*z ^ B)):=key;exact(((key (a+2) (b+1) c (by exact ag 3 0 (ax (aj (aj (aj au gU) (aj af aC)) ab) (aj (aj (aj au af) ab) cm)) (by kd_p))).sub (key (b+1) (a+2) c (by exact ag 3 0 (ax (aj (aj (aj au aC) (aj af gU)) ab) (aj (aj (aj af au) ab) cm)) (by kd_p)))).add ((key c (a+2) (b+1) (by exact ag 3 0 (ax (aj (aj au (aj af gU)) (aj ab aC)) (aj (aj (aj af ab) au) cm)) (by kd_p))).mono (by exact ag 3 0 (ae (aj (cZ 10 (aj (aj (aj au af) ab) cm)) (nk 4)) (aj (aj (cZ 10 (aj (aj (aj au af) ab) cm)) (nk 4)) aC)) (by kd_p)))).mono (by exact Nat.le_refl _)
noncomputable def AE:Ss:=(.cons (.asg (.name 100) (.eB false (.call (.glob 37) (.cons (.bin .Add (.var 99) (.var 104)) (.cons (.var 107) .nil))) 99 (.var 108) .nil [104,107] [99])) .nil)
noncomputable def AF:Ss:=(.cons (.asg (.name 108) (.list false (.cons (.call (.glob 110) (.cons (.var 69) (.cons (.var 68) .nil))) (.cons (.call (.glob 110) (.cons (.var 69) (.cons (.list false (.cons (.bin .Add (.var 113) (.var 112)) (.cons (.var 112) (.cons (.int 0) .nil)))) .nil))) (.cons (.call (.glob 101) (.cons (.eB false (.bin .Mult (.sub (.var 109) (.var 80)) (.call (.glob 110) (.cons (.var 69) (.cons (.sub (.var 111) (.var 80)) .nil)))) 80 (.call (.glob 57) (.cons (.call (.glob 6) (.cons (.var 111) .nil)) .nil)) .nil [109,69,111] [80]) .nil)) .nil))))) AE)
noncomputable def AG:Ss:=(.cons (.asg (.name 104) (.bin .Mult (.bin .FloorDiv (.bin .Mult (.call (.glob 114) (.cons (.var 107) .nil)) (.bin .Mod (.bin .FloorDiv (.sub (.var 60) (.int 5)) (.int 960)) (.int 8))) (.int 8)) (.zq (.cmp .Gt (.var 107) (.int 0)) (.int 1) (.neg (.int 1))))) AF)
noncomputable def AH:Ss:=(.cons (.asg (.name 107) (.call (.glob 110) (.cons (.var 69) (.cons (.list false (.cons (.int 0) (.cons (.int 0) (.cons (.int 0) .nil)))) .nil)))) AG)
noncomputable def AI:Ss:=(.cons (.asg (.name 109) (.eB false (.bin .Sub (.mC (.glob 42) (.cons (.var 105) (.cons (.var 115) .nil)) "key" (.glob 116)) (.mC (.glob 117) (.cons (.var 105) (.cons (.var 115) .nil)) "key" (.glob 116))) 115 (.var 111) .nil [105] [115])) AH)
noncomputable def DU:Ss:=(.cons (.asg (.name 111) (.eB false (.sub (.sub (.var 105) (.var 80)) (.int 0)) 80 (.call (.glob 57) (.cons (.call (.glob 6) (.cons (.var 105) .nil)) .nil)) (.cons (.cmp .Eq (.mC (.glob 117) (.cons (.var 105) (.cons (.sub (.sub (.var 105) (.var 80)) (.int 0)) .nil)) "key" (.glob 116)) (.var 80)) .nil) [105] [80])) AI)
noncomputable def vy:Ss:=DU
theorem MV:vy=DU:=rfl
noncomputable def xw(x y z:Int)(l:List Int):Int:=c7 x y z (l.getD 0 0) (l.getD 1 0) (l.getD 2 0)
noncomputable def xx(x y z:Int)(m:List (List Int×Int)):Int:=((List.range (bO m).length).map fun i=>(b8 m).getD i 0*xw x y z ((bO m).getD i [])).sum
noncomputable def O6(S:List Int)(r B:Int):V:=.list (S.map fun v=>.tuple [.int ((v+r).fdiv B),.int ((v+r).fmod B)])
section
variable{n:Nat}{U:aw}{O:Mu}{K:Fl→aw→Mu→Prop}{c5:Int}{fi mi x y z:Int}{s:Nat×Nat×Nat}{ah:List Nat}
theorem SY(hG:bx G){S:List Int}{r B:Int}(hS:∀v∈S,Sz 240 v)(hl:S.length≤10)(hr:Sz 240 r)(hB:B≠0)(sB:Sz 4000 B)
  (aam:get U 108=some (.list (S.map .int)))(Km:get U 104=some (.int r))(O7:get U 107=some (.int B))
  (hK:K .next (bg.set U 100 (O6 S r B)) O):aX G bX (n+320) AE U O K:=by
 unfold AE;kd_all;refine dE ?_;kd_all;refine⟨_,Iter.list,?_⟩;refine gr (M:=10) (J:=fun ao=>get ao 104=some (.int r)∧get ao 107=some (.int B)) (fun v:Int=>V.int v) (fun v:Int=>V.tuple [.int ((v+r).fdiv B),.int ((v+r).fmod B)]) (fun v hv ao acc K' hJ hM fP=>?_) ⟨by rw[eu (by simp)];exact Km,by rw[eu (by simp)];exact O7⟩ hl (fun ao zz=>?_)
 ·have XR:get (bg.set ao 99 (.int v)) 104=some (.int r):=gn hJ.1
  have XS:get (bg.set ao 99 (.int v)) 107=some (.int B):=gn hJ.2;have j99:get (bg.set ao 99 (.int v)) 99=some (.int v):=gs;first|show aX _ _ _ _ _ _ _|show eh _ _ _ _ _ _ _|skip
  generalize bg.set ao 99 (.int v)=b9 at *;refine cR ?_;k_upd;refine CK hG (uL hG (n:=n+319) (by exact ag 1 0 (ae (nk 306) (aj ab (nk 319))) (by kd_p)) hB sB (((hS v hv).add hr).mono (by decide)) ?_)
  exact⟨.of (by exact ag 1 0 (aa (ae (aj ab aC) fe) (ae (aj ab aC) aQ)) (by kd_p) hM),fP b9 ⟨XR,XS⟩⟩
 refine bK ?_;kd_all<;>exact hK
theorem S0(hG:bx G)(hs:s∈bZ)(hl:ah∈bJ)(C:CA U c5 fi mi x y z s ah)(hx:Sz 10 x)(hy:Sz 10 y)(hz:Sz 10 z)
  (O8:get U 111=some (.list ((bO (aF s ah)).map e8)))(XT:get U 109=some (.list ((b8 (aF s ah)).map .int)))
  (hK:aX G bX (n+320) AE (bg.set U 108 (.list ([c7 x y z ((s.1+s.2.1+s.2.2:Nat):Int) ((s.2.1+s.2.2:Nat):Int) (s.2.2:Int),c7 x y z ((ah.count 1:Nat)+(ah.count 2:Nat)) (ah.count 2:Nat) 0,xx x y z (aF s ah)].map .int))) O K):aX G bX (n+320) AF U O K:=by
 have J1:=C.p;have SO:=C.h;have aan:=C.o;have aao:=C.t;have h6:=pb hs;have JY:ah.length≤5:=(jP (List.all_eq_true.mp xq _ hl)).le;have n1:ah.count 1≤5:=Nat.le_trans List.count_le_length JY;have n2:ah.count 2≤5:=Nat.le_trans List.count_le_length JY;have yO:=fun{x}=>vu hs hl (x:=x);have se:=(nT hs hl).2.2.2.1;have XU:=fun{k}=>Kl se (k:=k);have gW:=pe (aF s ah);have wc:(b8 (aF s ah)).length=(bO (aF s ah)).length:=by unfold b8;rw[List.length_map]
 unfold AF;generalize hP:AE=P5 at *;kd_all;refine CK hG (dX hG (n:=n+319) (a:=((s.1+s.2.1+s.2.2:Nat):Int)) (b:=((s.2.1+s.2.2:Nat):Int)) (c:=(s.2.2:Int)) hx hy hz (by exact ag 3 0 (aa (ae (aj (aj au (cZ 2 af)) (cZ 3 ab)) (nk 6)) (aT (ai aJ (az (aj (aj au af) ab))) (ai (az (aj (aj au af) ab)) dC))) (by kd_p) h6) (by exact ag 3 0 (aa (ae (aj (aj ab (cZ 2 au)) (cZ 3 af)) (nk 6)) (aT (ai aJ (az (aj au af))) (ai (az (aj au af)) dC))) (by kd_p) h6) (by exact ag 3 0 (aa (ae (aj (aj af (cZ 2 ab)) (cZ 3 au)) (nk 6)) (aT (ai aJ (az au)) (ai (az au) dC))) (by kd_p) h6) ?_)
 kd_all;refine CK hG (dX hG (n:=n+319) hx hy hz (by exact ag 2 0 (aa (ae af (nk 5)) (aa (ae ab (nk 5)) (aT (ai aJ (bh (az af) (az ab))) (ai (bh (az af) (az ab)) dC)))) (by kd_p) n1 n2) (by exact ag 1 0 (aa (ae ab (nk 5)) (aT (ai aJ (az ab)) (ai (az ab) dC))) (by kd_p) n2) (by decide) ?_)
 kd_all;refine dE ?_;kd_all;refine cN (cp.of (by rw[List.length_map];exact ag 3 0 (aa (ak af eg) (aa (ae au af) (aa (ax ab au) (ae au aQ)))) (by kd_p) se gW wc)).ok ?_
 kd_all;refine d5 ?_;rw[List.length_map];refine⟨_,Iter.gE (eN (by decide) (by decide) (by exact ag 2 0 (aa (ax ab af) (ai (zk (-1000000)) (az af))) (by kd_p) wc) (by exact ag 3 0 (aa (ak af eg) (aa (ae au af) (aa (ax ab au) (ai (az au) (zk 1000000))))) (by kd_p) se gW wc)),?_⟩
 have er:cJ 0 (((bO (aF s ah)).length:Int))=(List.range (bO (aF s ah)).length).map fun(i:Nat)=>V.int (i:Int):=by
  unfold cJ;rw[show(((bO (aF s ah)).length:Int)-0).toNat=(bO (aF s ah)).length by exact ag 2 0 (aa (ax ab af) (ax (dB (bR (az af) aJ)) af)) (by kd_p) wc]
  exact List.map_congr_left fun i zz=>by rw[Int.zero_add]
 rw[er];refine gr (M:=100) (J:=fun ao=>get ao 109=some (.list ((b8 (aF s ah)).map .int))∧get ao 69=some (.list [.int x,.int y,.int z])∧get ao 111=some (.list ((bO (aF s ah)).map e8))) (fun(i:Nat)=>V.int (i:Int)) (fun(i:Nat)=>V.int ((b8 (aF s ah)).getD i 0*xw x y z ((bO (aF s ah)).getD i []))) (fun i hi ao acc K' hJ hM fP=>?_) ⟨by rw[eu (by simp)];exact XT,by rw[eu (by simp)];exact J1,by rw[eu (by simp)];exact O8⟩ (by simp;exact ag 3 0 (aa (ak af eg) (aa (ae au af) (aa (ax ab au) (ae au cy)))) (by kd_p) se gW wc) (fun ao zz=>?_)
 ·have XW:get (bg.set ao 80 (.int (i:Int))) 109=some (.list ((b8 (aF s ah)).map .int)):=gn hJ.1
  have j69:get (bg.set ao 80 (.int (i:Int))) 69=some (.list [.int x,.int y,.int z]):=gn hJ.2.1;have XX:get (bg.set ao 80 (.int (i:Int))) 111=some (.list ((bO (aF s ah)).map e8)):=gn hJ.2.2;have MS:get (bg.set ao 80 (.int (i:Int))) 80=some (.int (i:Int)):=gs;first|show aX _ _ _ _ _ _ _|show eh _ _ _ _ _ _ _|skip
  generalize bg.set ao 80 (.int (i:Int))=b9 at *;have hi:=List.mem_range.mp hi;have kF:i<(b8 (aF s ah)).length:=by exact N3 wc hi
  refine oz (yO (List.getElem_mem hi)) ?_;intro a b c hk rW;have ho:=XU (List.getElem_mem kF);have eo:(b8 (aF s ah)).getD i 0=(b8 (aF s ah))[i]:=by rw[List.getD_eq_getElem?_getD,List.getElem?_eq_getElem kF];rfl
  have ek:(bO (aF s ah)).getD i []=[(a:Int),(b:Int),(c:Int)]:=by rw[List.getD_eq_getElem?_getD,List.getElem?_eq_getElem hi,hk];rfl
  have eo':((b8 (aF s ah)).map V.int)[cF (i:Int) ((b8 (aF s ah)).map V.int).length]?=some (.int ((b8 (aF s ah)).getD i 0)):=by rw[gS,List.getElem?_map,List.getElem?_eq_getElem kF,eo];rfl
  have ek':((bO (aF s ah)).map e8)[cF (i:Int) ((bO (aF s ah)).map e8).length]?=some (.list [.int (a:Int),.int (b:Int),.int (c:Int)]):=by rw[gS,List.getElem?_map,List.getElem?_eq_getElem hi,hk];rfl
  rw[ek]at fP;rw[←eo]at ho;have so:Sz 7 ((b8 (aF s ah)).getD i 0):=kK (m:=128) (by exact ag 2 2 (aa (ak af ab) (aa (aT (ai (zk (-64)) aN) (ai aN (zk 64))) (aa (aS aN aq) (aK (cI (az (nk 128))) aN)))) (by kd_p) kF ho eo) (by exact ag 2 2 (aa (ak af ab) (aa (aT (ai (zk (-64)) aN) (ai aN (zk 64))) (aa (aS aN aq) (aK aN (az (nk 128)))))) (by kd_p) kF ho eo) (by decide)
  refine cR ?_;kd_all;refine V_at eo' (by exact Oj se gW wc hi kF) (.of (by rw[List.length_map];exact ag 4 0 (aa (ak au eg) (aa (ae af au) (aa (ax aM af) (aa (ak ab aM) (ae aM aQ))))) (by kd_p) se gW wc kF)) ?_
  kd_all;refine V_at ek' (by exact Oj se gW wc hi kF) (.of (by rw[List.length_map];exact ag 4 0 (aa (ak au eg) (aa (ae aM au) (aa (ax af aM) (aa (ak ab af) (ae aM aQ))))) (by kd_p) se gW wc kF)) ?_
  kd_all;refine CK hG (dX hG (n:=n+319) hx hy hz (by exact ag 5 0 (aa (ak aM au) (aa (ae (aj (aj de af) ab) (nk 16)) (aT (ai aJ (az de)) (ai (az de) dC)))) (by kd_p) kF rW) (by exact ag 5 0 (aa (ak aM au) (aa (ae (aj (aj af de) ab) (nk 16)) (aT (ai aJ (az de)) (ai (az de) dC)))) (by kd_p) kF rW) (by exact ag 5 0 (aa (ak aM au) (aa (ae (aj (aj af ab) de) (nk 16)) (aT (ai aJ (az de)) (ai (az de) dC)))) (by kd_p) kF rW) ?_)
  k_upd;refine gh (gZ.sz so (tu hx hy hz a b c) (by exact ag 5 0 (aa (ak af ab) (aa (ae (aj (aj de aM) au) (nk 16)) (ae (aj (nk 7) (aj (cZ 10 (aj (aj (aj de aM) au) cm)) (nk 6))) (nk 100000000)))) (by kd_p) kF rW)) ?_
  exact⟨.of (by exact ag 3 0 (aa (ae (aj au aC) cy) (aa (ak af ab) (ae (aj au aC) aQ))) (by kd_p) hM kF),fP b9 ⟨XW,j69,XX⟩⟩
 refine bK ?_;rw[show((List.range (bO (aF s ah)).length).map fun(i:Nat)=>V.int ((b8 (aF s ah)).getD i 0*xw x y z ((bO (aF s ah)).getD i [])))=((List.range (bO (aF s ah)).length).map fun(i:Nat)=>((b8 (aF s ah)).getD i 0*xw x y z ((bO (aF s ah)).getD i []))).map .int by rw[List.map_map];rfl]
 kd_all;refine Dm ?_;kd_all<;>exact hK
theorem S1{B:Int}(C:CA U c5 fi mi x y z s ah)(sB:Sz 1000 B)(O7:get U 107=some (.int B))
  (hK:aX G bX (n+320) AF (bg.set U 104 (.int (restOf B ((c5.fdiv 960).fmod 8)))) O K):aX G bX (n+320) AG U O K:=by
 refine Dc C.c ?_;intro c0 c1 c2 c3 c4 EU;have l6:cp ([c0,c1,c2,c3,c4,c5].map V.int).length:=.of (by simp)
 have hb:=jm (c5.fdiv 960) 8 (by decide)
 unfold AG;generalize hP:AF=P4 at *;kd_all;refine Lr ?_;kd_all;refine V_at (v:=.int c5) rfl (by simp) l6 ?_
 kd_all;refine dR ⟨by decide,by decide +kernel⟩ ?_
 kd_all;refine dD (by decide) ?_
 kd_all;unfold restOf at hK;generalize (c5.fdiv 960).fmod 8=k at *;have sk:Sz 4 k:=by unfold Sz;exact ag 0 1 (aa (aT (ai aJ aq) (aK aq (zk 8))) (ak (ja aq) (nk (2 ^ 4)))) (by kd_p) hb
 have sA:Sz 1000 (if B<0 then -B else B):=by split;exact sB.neg;exact sB
 have sM:=sA.mul sk;refine gh (gZ.sz sA sk (by decide)) ?_
 kd_all;refine dR ⟨by decide,by decide +kernel⟩ ?_
 kd_all;have sD:Sz 1004 (((if B<0 then -B else B)*k).fdiv 8):=by
  unfold Sz at *;rw[fd _ (by decide)]
  omega
 by_cases h:0<B
 ·rw[decide_eq_true h]
  rw[if_pos h]at hK;kd_all;refine gh (gZ.sz sD (k:=1) (by unfold Sz;decide) (by decide)) ?_
  kd_all<;>exact hK
 ·rw[decide_eq_false h]
  rw[if_neg h]at hK;kd_all;refine gh (gZ.sz sD (k:=1) (by unfold Sz;decide) (by decide)) ?_
  kd_all<;>exact hK
theorem S2(hG:bx G)(C:CA U c5 fi mi x y z s ah)(hx:Sz 10 x)(hy:Sz 10 y)(hz:Sz 10 z)
  (hK:aX G bX (n+320) AG (bg.set U 107 (.int (c7 x y z 0 0 0))) O K):aX G bX (n+320) AH U O K:=by
 have J1:=C.p;unfold AH;generalize hP:AG=P3 at *;kd_all;refine CK hG (dX hG (n:=n+319) hx hy hz (by decide) (by decide) (by decide) ?_)
 kd_all<;>exact hK
theorem S3(hG:bx G)(C:CA U c5 fi mi x y z s ah)(hm:(aF s ah).length<64)
  (O8:get U 111=some (.list ((bO (aF s ah)).map e8)))
  (hK:aX G bX (n+320) AH (bg.set U 109 (.list ((b8 (aF s ah)).map .int))) O K):aX G bX (n+320) AI U O K:=by
 have u9:=C.d;have gW:=pe (aF s ah);unfold AI;generalize hP:AH=P2 at *;kd_all;refine dE ?_;kd_all;refine⟨_,Iter.list,?_⟩;refine gr (M:=100) (J:=fun ao=>get ao 105=some (.list ((aF s ah).map bT))) e8 (fun k=>V.int ((Cq (aF s ah) k:Int)-(m7 (aF s ah) k:Int))) (fun k hk ao acc K' hJ hM fP=>?_) (by rw[eu (by simp)];exact u9) (by exact Ol hm gW) (fun ao zz=>?_)
 ·have DV:get (bg.set ao 115 (e8 k)) 105=some (.list ((aF s ah).map bT)):=gn hJ
  have aap:get (bg.set ao 115 (e8 k)) 115=some (.list (k.map .int)):=gs;first|show aX _ _ _ _ _ _ _|show eh _ _ _ _ _ _ _|skip
  generalize bg.set ao 115 (e8 k)=b9 at *;refine cR ?_;kd_all;refine CK hG (mP hG (n:=n+318) (.inl rfl) (ku _) (by rw[List.length_map];exact GV hm) ?_)
  kd_all;refine CK hG (i7 hG (n:=n+318) (.inl rfl) (ku _) (by rw[List.length_map];exact GV hm) ?_)
  k_upd;rw[List.length_map];exact⟨.of (by exact ag 1 0 (aa (ae (aj ab aC) cy) (ae (aj ab aC) aQ)) (by kd_p) hM),fP b9 DV⟩
 refine bK ?_;rw[show((bO (aF s ah)).map fun k=>V.int ((Cq (aF s ah) k:Int)-(m7 (aF s ah) k:Int)))=(b8 (aF s ah)).map .int by unfold b8;rw[List.map_map];rfl]
 kd_all<;>exact hK
theorem S4(hG:bx G)(C:CA U c5 fi mi x y z s ah)(hm:(aF s ah).length<64)
  (hK:aX G bX (n+320) AI (bg.set U 111 (.list ((bO (aF s ah)).map e8))) O K):aX G bX (n+320) DU U O K:=by
 have u9:=C.d;have gW:=pe (aF s ah);unfold DU;generalize hP:AI=P1 at *;kd_all;refine dE ?_;kd_all;refine cN (cp.of (by rw[List.length_map];exact Om hm)).ok ?_
 kd_all;refine d5 ?_;rw[List.length_map];refine⟨_,Iter.gE (eN (by decide) (by decide) (by exact ag 1 0 (aa (ak ab eg) (ai (zk (-1000000)) (az ab))) (by kd_p) hm) (by exact ag 1 0 (aa (ak ab eg) (ai (az ab) (zk 1000000))) (by kd_p) hm)),?_⟩
 have er:cJ 0 (((aF s ah).length:Int))=(List.range (aF s ah).length).map fun(i:Nat)=>V.int (i:Int):=by
  unfold cJ;rw[show(((aF s ah).length:Int)-0).toNat=(aF s ah).length by exact ag 1 0 (aa (ak ab eg) (ax (dB (bR (az ab) aJ)) ab)) (by kd_p) hm]
  exact List.map_congr_left fun i zz=>by rw[Int.zero_add]
 rw[er];have ek:(List.range (aF s ah).length).flatMap (fun i=>if m7 (aF s ah) (dz (aF s ah) i)=i then[e8 (dz (aF s ah) i)] else[])=(bO (aF s ah)).map e8:=by
  unfold bO;rw[List.map_flatMap]
  congr 1
  funext i
  split<;>rfl
 refine dZ (M:=100) (J:=fun ao=>get ao 105=some (.list ((aF s ah).map bT))) (fun(i:Nat)=>V.int (i:Int)) (fun i=>if m7 (aF s ah) (dz (aF s ah) i)=i then[e8 (dz (aF s ah) i)] else[]) (fun i hi ao acc K' hJ hM fP=>?_) (by rw[eu (by simp)];exact u9) (by rw[ek,List.length_map];simp;exact Ol hm gW) (fun ao zz=>?_)
 ·have DV:get (bg.set ao 80 (.int (i:Int))) 105=some (.list ((aF s ah).map bT)):=gn hJ
  have MS:get (bg.set ao 80 (.int (i:Int))) 80=some (.int (i:Int)):=gs;first|show aX _ _ _ _ _ _ _|show eh _ _ _ _ _ _ _|skip
  generalize bg.set ao 80 (.int (i:Int))=b9 at *;have hi:=List.mem_range.mp hi;have hp:(aF s ah)[i]?=some (aF s ah)[i]:=List.getElem?_eq_getElem hi;have EX:((aF s ah).map bT)[cF (i:Int) ((aF s ah).map bT).length]?=some (.tuple [.list ((dz (aF s ah) i).map .int),.int (aF s ah)[i].2]):=by
   rw[gS,List.getElem?_map,hp,qZ hp];rfl
  have yz:cp ((aF s ah).map bT).length:=.of (by rw[List.length_map];exact Om hm)
  refine kU ?_;kd_all;refine V_at EX (by exact wd) yz ?_
  kd_all;refine jz (v:=.list ((dz (aF s ah) i).map .int)) rfl (by decide) (.of (by simp)) ?_
  kd_all;refine CK hG (i7 hG (n:=n+318) (.inl rfl) (ku _) (by rw[List.length_map];exact GV hm) ?_)
  kd_all;rw[List.length_map];show(match ((m7 (aF s ah) (dz (aF s ah) i):Nat):Int)==(i:Int) with|false=>_|true=>_)
  by_cases c:m7 (aF s ah) (dz (aF s ah) i)=i
  ·rw[if_pos c]at hM fP
   rw[show(((m7 (aF s ah) (dz (aF s ah) i):Nat):Int)==(i:Int))=true by rw[c];simp]
   kd_all;refine V_at EX (by exact ag 3 0 (aa (ax ab af) (ai (cI (az au)) (az af))) (by kd_p) c) yz ?_
   kd_all;refine jz (v:=.list ((dz (aF s ah) i).map .int)) rfl (by decide) (.of (by simp)) ?_
   exact⟨.of (by simp at hM;exact NZ hM),fP b9 DV⟩
  ·rw[if_neg c,List.append_nil]at fP
   rw[show(((m7 (aF s ah) (dz (aF s ah) i):Nat):Int)==(i:Int))=false by simpa using fun h=>c (by exact ag 2 0 (aa (aS (az af) (az ab)) (ax af ab)) (by kd_p) h)]
   exact fP b9 DV
 refine bK ?_;rw[ek,List.nil_append];kd_all<;>exact hK
end
noncomputable def q6:Ss→Ss→Ss
 |.nil,b=>b
 |.cons s r,b=>.cons s (q6 r b)
 |.su x r,b=>.su x (q6 r b)
theorem yY{nm:Nat→Str}{b:Ss}{sc:Scope}{own:List Nat}:∀ (a:Ss) {ys:List Stmt},cX nm (q6 a b) sc own ys=true→∃zs,dS nm (q6 a b) ys=dS nm a ys++dS nm b zs∧cX nm a sc own ys=true∧cX nm b sc own zs=true
 |.nil,ys,h=>⟨ys,rfl,rfl,h⟩
 |.cons s r,ys,h=>by
  refine gJ (yY r (aR h)) ?_;intro zs e h1 h2;exact⟨zs,congrArg (pE nm s _ :: ·) e,Bool.and_eq_true_iff.mpr ⟨aL h,h1⟩,h2⟩
 |.su _ r,ys,h=>yY r (ys:=ys) h
theorem Gd{n:Nat}{a b:Ss}{K:Fl→aw→Mu→Prop}{U:aw}{O:Mu}(w:aX G bX n a U O (fun f U O=>match f with | .next=>aX G bX n b U O K|f=>K f U O)):aX G bX n (q6 a b) U O K:=fun hg sc own ys env hk h hs=>by
 refine gJ (yY a h) ?_;intro zs e h1 h2;rw[e];refine wI (cn.mono (w hg sc own ys env hk h1 hs) fun f a9 aA w1=>?_);cases f with
 |next=>exact w1 hg sc own zs env hk h2 hs
 |brk=>exact w1
 |cont=>exact w1
 |ret v=>exact w1
section
variable{x y z:Int}
theorem Kn(t:Int):t ^ 1=t:=by rw[Int.pow_succ,Int.pow_zero,Int.one_mul]
theorem XY(x y z:Int):c7 x y z 0 0 0=(x-y)*((x-z)*(y-z)):=by
 have h:vb (vc 0 0 0++va (p4 [((1,0,0),1),((0,1,0),-1)] (p4 [((1,0,0),1),((0,0,1),-1)] [((0,1,0),1),((0,0,1),-1)])))=true:=by decide +kernel
 have h:=jj h x y z;rw[m4,lp,lp]at h;have e1:cE x y z [((1,0,0),1),((0,1,0),-1)]=x-y:=by simp[cE,gI,Kn];exact GW
 have e2:cE x y z [((1,0,0),1),((0,0,1),-1)]=x-z:=by simp[cE,gI,Kn];exact GW
 have e3:cE x y z [((0,1,0),1),((0,0,1),-1)]=y-z:=by simp[cE,gI,Kn];exact GW
 rw[e1,e2,e3]at h;exact h
theorem MW(h1:x≠y)(h2:x≠z)(h3:y≠z):c7 x y z 0 0 0≠0:=by
 rw[XY];refine Int.mul_ne_zero (by exact ag 0 3 (aa (fI cu aN) (aa (fI cu aq) (aa (fI aN aq) (fI (bR cu aN) aJ)))) (by kd_p) h1 h2 h3) (Int.mul_ne_zero (by exact ag 0 3 (aa (fI cu aN) (aa (fI aq aN) (fI (bR cu aN) aJ))) (by kd_p) h2 h3) (by exact ag 0 2 (aa (fI aN aq) (fI (bR aN aq) aJ)) (by kd_p) h3))
theorem Ge(x y:Int):c7 x y x 0 0 0=0:=by
 rw[XY,Int.sub_self,Int.zero_mul,Int.mul_zero]
theorem qa(ah:List Nat):cE x y z (nL ah)=(iK x y z (fillAll ah)).sum:=by
 unfold nL iK;generalize fillAll ah=F
 induction F with
 |nil=>rfl
 |cons f r ih=>
  rw[List.flatMap_cons,iJ,ih,List.map_cons,List.sum_cons];have:cE x y z (ve f)=q5 x y z (aD f):=by
   unfold ve q5;simp only[cE,gI];rw[Int.one_mul,Int.add_zero,Int.mul_assoc]
  rw[this]
theorem DW{a b c:Nat}:cE x y z (vf [(a:Int),(b:Int),(c:Int)])=xw x y z [(a:Int),(b:Int),(c:Int)]:=by
 unfold vf;rw[m4]
 rfl
theorem AJ(x y z:Int):∀ (A:List Int) (B:List (List Int)),A.length=B.length→(∀b∈B,∃i j k:Nat,b=[(i:Int),(j:Int),(k:Int)])→
  cE x y z ((A.zip B).flatMap fun p=>JR p.1 (vf p.2))=((List.range B.length).map fun i=>A.getD i 0*xw x y z (B.getD i [])).sum
 |[],[],_,_=>rfl
 |a::A,b::B,h,hB=>by
  have ih:=AJ x y z A B (by simpa using h) (fun b hb=>hB b (.tail _ hb))
  rw[List.zip_cons_cons,List.flatMap_cons,iJ,ih,DP,List.length_cons,List.range_succ_eq_map,List.map_cons,List.sum_cons,List.map_map];refine GY (hB b (.head _)) ?_;intro i j k z1;subst z1;rw[DW]
  rfl
theorem Gf{s:Nat×Nat×Nat}(hs:s∈bZ){ah:List Nat}(hl:ah∈bJ):cE x y z (JT (aF s ah))=xx x y z (aF s ah):=by
 unfold JT xx;refine AJ x y z _ _ (by unfold b8;rw[List.length_map]) fun b hb=>?_
 refine oz (vu hs hl hb) ?_;intro i j k e zz;exact⟨i,j,k,e⟩
theorem xy(s:Nat×Nat×Nat):cE x y z (vf (rowsOf s))=c7 x y z ((s.1+s.2.1+s.2.2:Nat):Int) ((s.2.1+s.2.2:Nat):Int) (s.2.2:Int):=DW (a:=s.1+s.2.1+s.2.2) (b:=s.2.1+s.2.2) (c:=s.2.2)
theorem Gg{s:Nat×Nat×Nat}(hs:s∈bZ):c7 x y z ((s.1+s.2.1+s.2.2:Nat):Int) ((s.2.1+s.2.2:Nat):Int) (s.2.2:Int)=c7 x y z 0 0 0*cE x y z (nM s):=by
 have h:=jj (List.all_eq_true.mp Cr s hs) x y z;rw[xy,lp,m4]at h;exact h
theorem Ko{ah:List Nat}(hl:ah∈bJ):c7 x y z ((ah.count 1:Nat)+(ah.count 2:Nat)) (ah.count 2:Nat) 0=c7 x y z 0 0 0*(iK x y z (fillAll ah)).sum:=by
 have h:=jj (List.all_eq_true.mp FI ah hl) x y z;rw[lp,m4,m4,qa]at h;exact h
theorem S5{s:Nat×Nat×Nat}(hs:s∈bZ){ah:List Nat}(hl:ah∈bJ):xx x y z (aF s ah)=c7 x y z ((s.1+s.2.1+s.2.2:Nat):Int) ((s.2.1+s.2.2:Nat):Int) (s.2.2:Int)*(iK x y z (fillAll ah)).sum:=by
 have h:=jj (nT hs hl).2.2.2.2 x y z;rw[lp,xy,qa,Gf hs hl]at h;exact h
theorem AK{k:Nat}{v a:Int}(hv:v≠0)(h:Sz k (v*a)):Sz k a:=by
 unfold Sz at *;rw[Int.natAbs_mul]at h;have:1≤v.natAbs:=by exact ag 0 1 (aa (fI aq aJ) (ae aC (ja aq))) (by kd_p) hv
 have:=Nat.le_mul_of_pos_left a.natAbs (show 0<v.natAbs by exact ag 0 1 (aa (ae aC (ja aq)) (ak b6 (ja aq))) (by kd_p) this)
 exact ag 2 1 (aa (ak ab af) (aa (ae (ja aq) ab) (ak (ja aq) af))) (by kd_p) h this
theorem CN{ah:List Nat}(hl:ah∈bJ):ah.count 1+ah.count 2+ah.count 2≤5:=by
 have key:bJ.all (fun l=>decide (l.count 1+l.count 2+l.count 2≤5))=true:=by decide
 exact of_decide_eq_true (List.all_eq_true.mp key ah hl)
theorem AL{m:List (List Int×Int)}(h:p6 m=true)(i:Nat)(p q:List Int×Int)(hp:m[i]?=some p)(hq:m[i+1]?=some q):v8 (q.1,-q.2) (p.1,-p.2)=false:=by
 unfold p6 at h;have hi:i+1<m.length:=(List.getElem?_eq_some_iff.mp hq).1;have h:=of_decide_eq_true (List.all_eq_true.mp h i (List.mem_range.mpr (by exact N9 hi))) hi
 rw[List.getD_eq_getElem?_getD,List.getD_eq_getElem?_getD,hp,hq]at h;exact h
end
def Kp(U:aw):Prop:=∃ (ps:List (List Int×Int)) (a b c rest fi mi:Int) (ws:List Int),get U 105=some (.list (ps.map bT))∧1≤ps.length∧ps.length<64∧(∀ (i:Nat) p q,ps[i]?=some p→ps[i+1]?=some q→v8 (q.1,-q.2) (p.1,-p.2)=false) ∧
  get U 100=some (.list [.tuple [.int a,.int rest],.tuple [.int b,.int rest],.tuple [.int c,.int rest]])∧get U 104=some (.int rest)∧get U 102=some (.list (ws.map .int))∧ws.sum=b ∧
  get U 63=some (.int fi)∧get U 130=some (.int mi)∧Sz 10 fi∧Sz 10 mi∧c7 fi mi fi 0 0 0=0∧IntMulOk a b∧a*b=c
theorem Gh(hG:bx G){n:Nat}{U:aw}{O:Mu}{K:Fl→aw→Mu→Prop}{c5:Int}{fi mi x y z:Int}{s:Nat×Nat×Nat}{ah:List Nat}(hs:s∈bZ)(hl:ah∈bJ)(C:CA U c5 fi mi x y z s ah)(hx:Sz 10 x)(hy:Sz 10 y)(hz:Sz 10 z)(Mr:Sz 10 fi)(Ms:Sz 10 mi)
  (h1:x≠y)(h2:x≠z)(h3:y≠z)(hK:∀ao,Kp ao→K .next ao O):aX G bX (n+320) vy U O K:=by
 refine PF (nT hs hl) ?_;intro f1 f2 f3 f4 f5;have hV:=MW h1 h2 h3;have hk:=jm (c5.fdiv 960) 8 (by decide)
 have sV:Sz 36 (c7 x y z 0 0 0):=tu hx hy hz 0 0 0;have h6:=pb hs;have h5:=CN hl;have s1:Sz 96 (c7 x y z ((s.1+s.2.1+s.2.2:Nat):Int) ((s.2.1+s.2.2:Nat):Int) (s.2.2:Int)):=(tu hx hy hz _ _ _).mono (by exact ag 3 0 (aa (ae (aj (aj au (cZ 2 af)) (cZ 3 ab)) (nk 6)) (ae (aj (cZ 10 (aj (aj (aj (aj (aj au af) ab) (aj af ab)) ab) cm)) (nk 6)) (nk 96))) (by kd_p) h6)
 have s2:Sz 86 (c7 x y z ((ah.count 1:Nat)+(ah.count 2:Nat)) (ah.count 2:Nat) 0):=(tu hx hy hz (ah.count 1+ah.count 2) (ah.count 2) 0).mono (by exact ag 2 0 (aa (ae (aj (aj af ab) ab) (nk 5)) (ae (aj (cZ 10 (aj (aj (aj (aj af ab) ab) b6) cm)) (nk 6)) (nk 86))) (by kd_p) h5)
 have e1:=Gg (x:=x) (y:=y) (z:=z) hs;have e2:=Ko (x:=x) (y:=y) (z:=z) hl;have e3:=S5 (x:=x) (y:=y) (z:=z) hs hl;have sA:Sz 96 (cE x y z (nM s)):=AK hV (by rw[←e1];exact s1)
 have sW:Sz 86 ((iK x y z (fillAll ah)).sum):=AK hV (by rw[←e2];exact s2)
 have s3:Sz 182 (xx x y z (aF s ah)):=by rw[e3];exact s1.mul sW
 have C1:=C.set (k:=111) (v:=.list ((bO (aF s ah)).map e8)) (by decide)
 have C2:=C1.set (k:=109) (v:=.list ((b8 (aF s ah)).map .int)) (by decide)
 have C3:=C2.set (k:=107) (v:=.int (c7 x y z 0 0 0)) (by decide)
 have C4:=C3.set (k:=104) (v:=.int (restOf (c7 x y z 0 0 0) ((c5.fdiv 960).fmod 8))) (by decide)
 rw[MV];refine S4 hG C f4 (S3 hG C1 f4 (gs) (S2 hG C2 hx hy hz (S1 C3 (sV.mono (by decide)) (gs) (S0 hG hs hl C4 hx hy hz (gn (gn (gn gs))) (gn (gn gs)) ?_))))
 have sr:Sz 240 (restOf (c7 x y z 0 0 0) ((c5.fdiv 960).fmod 8)):=by
  have:=Gb hV hk;have sV':=sV.mono (k:=240) (by decide)
  unfold Sz at *;exact ag 0 2 (aa (ak (ja aq) (nk (2 ^ 36))) (aa (ae (ja aN) (ja aq)) (ak (ja aN) (nk (2 ^ 240))))) (by kd_p) sV this
 refine SY hG (S:=[c7 x y z ((s.1+s.2.1+s.2.2:Nat):Int) ((s.2.1+s.2.2:Nat):Int) (s.2.2:Int),c7 x y z ((ah.count 1:Nat)+(ah.count 2:Nat)) (ah.count 2:Nat) 0,xx x y z (aF s ah)]) (r:=restOf (c7 x y z 0 0 0) ((c5.fdiv 960).fmod 8)) (B:=c7 x y z 0 0 0) ?_ (by simp) sr hV (sV.mono (by decide)) (gs) (gn gs) (gn (gn gs)) ?_
 ·intro v hv
  rcases List.mem_cons.mp hv with rfl|hv
  ·exact s1.mono (by decide)
  ·rcases List.mem_cons.mp hv with rfl|hv
   ·exact s2.mono (by decide)
   ·rcases List.mem_cons.mp hv with rfl|hv
    ·exact s3.mono (by decide)
    ·cases hv
 ·refine hK _ ⟨aF s ah,cE x y z (nM s),(iK x y z (fillAll ah)).sum,cE x y z (nM s)*(iK x y z (fillAll ah)).sum,restOf (c7 x y z 0 0 0) ((c5.fdiv 960).fmod 8),fi,mi,iK x y z (fillAll ah),?_,f3,f4,fun i p q=>AL f2 i p q,?_,?_,?_,rfl,?_,?_,Mr,Ms,Ge _ _,sA.Iz sW (by decide),rfl⟩
  ·rw[get_set,if_neg (by decide),get_set,if_neg (by decide)];exact C4.d
  ·rw[get_set,if_pos rfl,e1,e2,e3,e1]
   generalize c7 x y z 0 0 0=V at *;generalize cE x y z (nM s)=A at *;generalize (iK x y z (fillAll ah)).sum=W at *;have r1:=m9 hV hk A;have r2:=m9 hV hk W;have r3:=m9 hV hk (A*W);have m1:V*A=A*V:=Int.mul_comm _ _;have m2:V*W=W*V:=Int.mul_comm _ _;have m3:A*V*W=A*W*V:=Int.mul_right_comm _ _ _;unfold O6;simp only[List.map_cons,List.map_nil];rw[m1,m2,m3,r1.1,r1.2,r2.1,r2.2,r3.1,r3.2]
  ·rw[get_set,if_neg (by decide),get_set,if_neg (by decide),get_set];rfl
  ·rw[get_set,if_neg (by decide),get_set,if_neg (by decide)];exact C4.w
  ·rw[get_set,if_neg (by decide),get_set,if_neg (by decide)];exact C4.f
  ·rw[get_set,if_neg (by decide),get_set,if_neg (by decide)];exact C4.m
noncomputable def jR:Ss:=q6 vl (.cons (.for 77 (.var 74) vq) (.su 102 (.su 105 vy)))
theorem AM(hG:bx G)(dW:∀a∈tabs,G.Bs a=none){n:Nat}{U:aw}{xs:List Int}(hx:xs.length≤100000)(XE:get U 62=some (.list (xs.map .int))):
  aX G bX (n+320) jR U [] fun r ao zz=>r=.next∧Kp ao:=by
 unfold jR;refine Gd ?_;refine FQ (n:=n+315) hG hx XE fun a9 c0 c1 c2 c3 c4 c5 x z Kq L SW Kr Ks=>?_;have hf : -50≤sS c0∧sS c0≤49:=by unfold sS;have:=jm (c0+50) 100 (by decide);exact ag 0 1 (aa (aT (ai aJ aq) (aK aq dm)) (aT (ai (zk (-50)) (bR aq (zk 50))) (ai (bR aq (zk 50)) (zk 49)))) (by kd_p) this
 have hm:sS c0<sU c0 c1∧sU c0 c1≤149:=by unfold sU;have:=jm c1 100 (by decide);exact ag 0 2 (aa (aT (ai (zk (-50)) aN) (ai aN (zk 49))) (aa (aT (ai aJ aq) (aK aq dm)) (aT (aK aN (bh (bh aN bV) aq)) (ai (bh (bh aN bV) aq) (zk 149))))) (by kd_p) hf this
 have hl:sU c0 c1<Cz c0 c1 c2∧Cz c0 c1 c2≤249:=by unfold Cz;have:=jm c2 100 (by decide);exact ag 0 3 (aa (aT (ai (zk (-50)) aq) (ai aq (zk 49))) (aa (aT (aK aq cu) (ai cu (zk 149))) (aa (aT (ai aJ aN) (aK aN dm)) (aT (aK cu (bh (bh cu bV) aN)) (ai (bh (bh cu bV) aN) (zk 249)))))) (by kd_p) hf hm this
 have vA:(2:Nat) ^ 10=1024:=by decide
 have sf:Sz 10 (sS c0):=by unfold Sz;exact ag 0 1 (aa (aT (ai (zk (-50)) aq) (ai aq (zk 49))) (ak (ja aq) (nk (2 ^ 10)))) (by kd_p) hf
 have sm:Sz 10 (sU c0 c1):=by unfold Sz;exact ag 0 2 (aa (aT (ai (zk (-50)) aq) (ai aq (zk 49))) (aa (aT (aK aq aN) (ai aN (zk 149))) (ak (ja aN) (nk (2 ^ 10))))) (by kd_p) hf hm
 have sl:Sz 10 (Cz c0 c1 c2):=by unfold Sz;exact ag 0 3 (aa (aT (ai (zk (-50)) aN) (ai aN (zk 49))) (aa (aT (aK aN aq) (ai aq (zk 149))) (aa (aT (aK aq cu) (ai cu (zk 249))) (ak (ja cu) (nk (2 ^ 10)))))) (by kd_p) hf hm hl
 have sx:Sz 10 x:=by rcases Kq with⟨rfl,_⟩|⟨rfl,_⟩<;>assumption
 have sz:Sz 10 z:=by rcases Kq with⟨_,rfl⟩|⟨_,rfl⟩<;>assumption
 have hs:=Cy c3;have XZ:=xt c4;have T:TA a9 [c0,c1,c2,c3,c4,c5] (sS c0) (sU c0 c1) x (sU c0 c1) z (shapeOf c3) (fH c4):=⟨L,Kr,Ks⟩;refine ic (Ki (n:=n+310) hG dW hs XZ T sx sm sz SW fun b9 T2=>?_);refine Kj T2 fun gG dN C=>?_;exact Gh hG hs XZ C sx sm sz sf sm (by exact ag 0 5 (aa (lpo (aT (aS kR cu) (aS aN aq)) (aT (aS kR aq) (aS aN cu))) (aa (aT (aK cu fy) (ai fy (zk 149))) (aa (aT (aK fy aq) (ai aq (zk 249))) (fI kR fy)))) (by kd_p) Kq hm hl) (by exact ag 0 5 (aa (lpo (aT (aS kR cu) (aS fy aN)) (aT (aS kR aN) (aS fy cu))) (aa (aT (aK cu aq) (ai aq (zk 149))) (aa (aT (aK aq aN) (ai aN (zk 249))) (fI kR fy)))) (by kd_p) Kq hm hl) (by exact ag 0 5 (aa (lpo (aT (aS cu aN) (aS fy aq)) (aT (aS cu aq) (aS fy aN))) (aa (aT (aK aN kR) (ai kR (zk 149))) (aa (aT (aK kR aq) (ai aq (zk 249))) (fI kR fy)))) (by kd_p) Kq hm hl) fun ao h=>⟨rfl,h⟩
theorem Gi{n:Nat}{a:Addr}{fd:FuncData}{oc:Value}{od:Option Addr}{osl:Array (Option Value)}{body:List Stmt}{vs:List V}(own:List Nat)(ps:List (Nat×V))
  (EK:G.K.lookup a=some ⟨oc,od,.func fd,osl⟩)(jG:codeIn G.K fd.code fd.qualname=true)(ft:fd.body=.stmts body)(zJ:fd.closure=[])(hg:fd.globals=mainGlobals)(hb:fd.builtins=builtinsNs)
  (uu:fd.scope.isCoroutine=false)(l9:fd.scope.isGenerator=false)(hk:fd.scope.kind=.function)
  (lF:∀s xs B Z,G.K.In s.heap→aB B Z vs xs→∃binds,BindsTo s fd ⟨xs,[]⟩ binds∧gb (G:=G) B Z binds ps)
  (sG:∀p∈ps,p.1∈own∧(fd.scope.names.lookup (G.nm p.1)=some .local∨fd.scope.names.lookup (G.nm p.1)=some .cell))
  {A:Around}(hA:bY (n+1) A)(v9:A.frames=some [])
  (h:∀ (env:Env) (A':Around) (B:ay) (Z:List Addr) (s:Shared),env.scope=fd.scope→env.code=fd.code→env.qual=fd.qualname++".<locals>."→env.frame=some env.locals→A'.frames=some [env]→bY n A'→
   Inv G B Z [] s.heap→bt G env B Z (bc [] ps) s.heap→wpAny (model G.prog G.w) A' (execs body env) (PS G env own B Z s fun r zz zz=>r=.ret (.bool true)) bM s)
  {B:ay}{s:Shared}{xs:List Value}(I:Inv G B [] [] s.heap)(rv:aB B [] vs xs):
  wpAny (model G.prog G.w) A (call (.ref a) xs []) (fun x s'=>x=.bool true∧∃B' aH ar,aG G [] B [] s B' aH ar s') bM s:=by
 refine aW (lF s xs B [] I.jV rv) ?_;intro binds qC kI;refine wpAny_call (codeAny_call_function hA.room (I.jV a _ EK) rfl uu l9 ft (codeRec_of I.jV jG) (qC _ _ _ _ ?_));rw[zJ,hg,hb];refine dr ?_;have k1:=bN s.heap {cls:=.type "frame",data:=.dict #[]};have k2:=pushCells_keeps fd.scope.names (s.heap.push {cls:=.type "frame",data:=.dict #[]});have k:∀b o,s.heap.get? b=some o→(pushCells (s.heap.push {cls:=.type "frame",data:=.dict #[]}) fd.scope.names).get? b=some o:=fun b o e=>k2 b o (k1 b o e);have F:=bt.fresh (scope:=fd.scope) (cl:=[]) (fo:={cls:=.type "frame",data:=.dict #[]})
  (env:=newEnv fd.scope s.heap.objs.size mainGlobals (cellsFrom (s.heap.objs.size+1) fd.scope.names []) (fd.qualname++".<locals>.") (some a) fd.code none builtinsNs) I ⟨_,rfl⟩ ⟨(fun zz zz m=>nomatch m),.nil⟩ (fun zz zz=>trivial) rfl rfl rfl hk rfl rfl
 refine jq (s:={s with heap:=_}) kI (fun p hp=>sG p hp) (I.keeps k) F ?_
 intro bf tk F1 P1;refine⟨P1.inv.noLimit,codeAny_func ?_⟩;refine wpAny_mono (h _ _ B [] _ rfl rfl rfl rfl (by show A.frames.map _=_;rw[v9];rfl) (hA.deeper _) P1.inv F1) ?_ fun zz zz x=>x.elim
 rintro fl s' ⟨r,ao,ar,B',aH,q,P',F',r'⟩;subst q;have P:=P1.trans P';have out:=aG.wF (s:=s) I.ey.1 k .heap P (fun a' m=>by
  rcases ez m with e|⟨n',eA⟩
  ·rw[e];exact cx _
  ·have m':(n',a')∈cellsFrom (s.heap.objs.size+1) fd.scope.names []:=mem_of_lookup eA
   have ok:=cK fd.scope.names (s.heap.push {cls:=.type "frame",data:=.dict #[]}) (s.heap.objs.size+1) [] [] (fun zz zz m=>nomatch m) (fun zz zz m=>nomatch m) .nil (by rw[Heap.size_push];exact Nat.le_refl _)
   rw[Heap.size_push]at ok;rcases ok.1 n' a' m' with z|z
   ·cases z
   ·exact fA (by omega))
 cases r' with
 |ret r=>refine VR.tH r ?_;exact⟨rfl,_,_,_,out⟩
noncomputable def MX:Stmt→Stmt×ExceptHandler
 |.Try b h _ _ _=>(b.headD default,h.headD default)
 |_=>default
noncomputable def hpt:ExceptHandler→Expr×Stmt
 |.ExceptHandler t _ b _=>(t.getD default,b.headD default)
section
variable(P:Params)
noncomputable abbrev xA:List Stmt:=dy (ba (KP P) 225).body
noncomputable abbrev qb:Stmt:=(xA P).getD 20 default
noncomputable abbrev AO:Stmt:=(xA P).getD 21 default
noncomputable abbrev O9:Expr:=sk 0 (MX (AO P)).1
noncomputable abbrev DX:Expr×Stmt:=hpt (MX (AO P)).2
theorem X0:xA P=dS aI jR (xA P)++JP (bj 0 (sk 0 (qb P))) (bj 1 (sk 0 (qb P))) (bj 2 (sk 0 (qb P))) (O9 P) (DX P).1 (sk 0 (DX P).2) (sb 0 (qb P)) ((xA P).drop 22)
  (sk 0 (qb P)).pos (qb P).pos (MX (AO P)).1.pos (DX P).2.pos (MX (AO P)).2.pos (AO P).pos:=by kd_p
theorem X2:DO (ba (KP P) 225).scope (bj 0 (sk 0 (qb P))) (bj 1 (sk 0 (qb P))) (bj 2 (sk 0 (qb P))) (O9 P) (DX P).1:=
 ⟨⟨by kd_p,⟨by kd_p,by kd_p,by kd_p,by kd_p,by kd_p,by kd_p⟩,by kd_p,by kd_p⟩,by kd_p,by kd_p,⟨by kd_p,by kd_p,by kd_p,by kd_p,by kd_p,by kd_p⟩⟩
theorem X3:cX aI jR (ba (KP P) 225).scope yg (xA P)=true:=by kd_p
theorem AP:(vL (KP P) 225&&(codeHdIn (KP P) 224 222&&((ba (KP P) 225).code == .ref 224&&(((ba (KP P) 225).qualname++".<locals>.")++"<lambda>"==ux&&jW aI (ba (KP P) 225).scope yg 62))))=true:=by kd_p
end
theorem MY(hG:bx G)(dW:∀a∈tabs,G.Bs a=none){n:Nat}{A:Around}(hA:bY (n+321) A)(v9:A.frames=some []){xs:List Int}(hx:xs.length≤100000)
  {B:ay}{s:Shared}{v:Value}(I:Inv G B [] [] s.heap)(rv:VR B [] (.list (xs.map .int)) v):
  wpAny (model G.prog G.w) A (call (.ref 225) [v] []) (fun x s'=>x=.bool true∧∃B' aH ar,aG G [] B [] s B' aH ar s') bM s:=by
 obtain⟨P,hP⟩:=hG.K;have hf:=aL (AP P);have h4:=aL (aR (AP P));have h5:=aL (aR (aR (AP P)));have h6:=aL (aR (aR (aR (AP P))));have h7:=aR (aR (aR (aR (AP P))));have h2:=X2 P;have h1:=X3 P;have h3:=X0 P;unfold vL at hf;split at hf
 ·rename_i oc od fd osl e
  have lH:ba (KP P) 225=fd:=by unfold ba;rw[e]
  rw[lH]at h1 h2 h5 h6 h7
  replace h3:=congrArg dy (congrArg FuncData.body lH).symm |>.trans h3
  simp only[Bool.and_eq_true,Bool.not_eq_true']at hf;obtain⟨⟨⟨⟨⟨⟨⟨f1,f2⟩,f3⟩,f4⟩,f5⟩,f6⟩,f7⟩,f8⟩:=hf;have ft:fd.body=.stmts (dy fd.body):=by
   cases q:fd.body<;>first|rfl|(rw[q]at f1;cases f1)
  have hk:fd.scope.kind=.function:=eq_of_beq f8;refine Gi (n:=n+320) (fd:=fd) (body:=dy fd.body) yg [(62,.list (xs.map .int))] (by rw[hP];exact e) (by rw[hP];exact f2) ft (List.isEmpty_iff.mp f3) (eq_of_beq f4) (eq_of_beq f5) f6 f7 hk ?_ (fun p hq=>?_) hA v9 ?_ I (.cons rv .nil)
  ·intro s' jX B' aH X QX
   refine aB.aO QX ?_;intro y _ r1 r;refine aB.bE r ?_;rw[hP]at X;have hpk:∀S,peek (KP P) S (bindArgs fd ⟨[y],[]⟩)=some [(aI 62,y)]:=by
    intro S;rw[←lH]
    kd_p
   exact⟨_,kp_binds X hpk,qD hG.nm (ps:=[(62,.list (xs.map .int))]) (.cons r1 .nil)⟩
  ·cases List.mem_singleton.mp hq
   exact fB (G:=G) (env:=zt fd.scope) rfl hG.nm h7
  ·intro env A' B1 aE s1 hs gm hq Al X4 jU I1 F1
   rw[h3];refine Cp (n:=n+320) (R:=fun U _=>Kp U) jU I1 F1 (eP hG.nm hG.gl jR hk h1 hs (AM (n:=n) hG dW hx (by rfl))) ?_
   intro ao ar B2 aV s2 hE I2 F2;refine ky hE ?_;clear hE;intro ps a b c rest fi mi ws Ks l1 lz hso X5 Km Kr hw FP xu sf sm halt hm rW;exact FG (n:=n+315) hG jU X4 Al (own:=yg) (cd:=224) (by rw[gm];exact eq_of_beq h5) (by rw[hP];exact h4) (by rw[hq];exact eq_of_beq h6) (by decide) (by rw[hs];exact h2) Ks l1 lz hso X5 Km Kr hw FP xu sf sm halt hm rW I2 F2
 ·exact iO hf
noncomputable def lq(h:Heap):ay:=fun a=>if a∈tabs then none else h.get? a
theorem Kt{h:Heap}{a:Addr}{o:Obj}(e:lq h a=some o):h.get? a=some o:=by
 unfold lq at e;split at e
 ·exact bk e
 ·exact e
theorem nU{h:Heap}{a:Addr}(ha:a∉tabs):lq h a=h.get? a:=by unfold lq;rw[if_neg ha]
theorem xB{h:Heap}:∀a∈tabs,lq h a=none:=fun a ha=>by unfold lq;rw[if_pos ha]
noncomputable def noTabs(K:Frag):Bool:=tabs.all fun a=>(K.lookup a).isNone
theorem CP(P:Params):noTabs (KP P)=true:=by kd_p
theorem MZ{P:Params}{a:Addr}{o:Obj}(e:(KP P).lookup a=some o):a∉tabs:=fun m=>by
 have:=List.all_eq_true.mp (CP P) a m;rw[e]at this;cases this
theorem DY{h:Heap}{a:Addr}{m:Str→Option Value}(hT:∀P∈tabs,h.get? P=some (tabObj #[]))(hn:h.Ns a m):a∉tabs:=fun ha=>by
 refine ph hn ?_;clear hn;intro o es ep e d zz;rw[hT a ha]at e;cases Option.some.inj e;cases d
theorem qc{h h':Heap}{a:Addr}{m:Str→Option Value}(hT:∀P∈tabs,h.get? P=some (tabObj #[]))(hk:∀a o,lq h a=some o→h'.get? a=some o)(hn:h.Ns a m):h'.Ns a m:=by
 have ha:=DY hT hn;refine oz hn ?_;clear hn;intro o es ep e r;exact⟨o,es,ep,hk a o (by rw[nU ha];exact e),r⟩
noncomputable def yZ:List Str→Bool
 |[]=>true
 |x::r=>!r.contains x&&yZ r
theorem si:∀ {l:List Str},yZ l=true→∀ (i j:Nat) (s:Str),l[i]?=some s→l[j]?=some s→i=j
 |[],_,i,j,s,h,_=>by cases h
 |x::r,hd,i,j,s,h1,h2=>by
  have hd:=Bool.and_eq_true_iff.mp hd;have hx:x∉r:=fun m=>by
   have:=hd.1;rw[List.contains_iff_mem.mpr m]at this;cases this
  match i,j with
  |0,0=>rfl
  |0,j+1=>
   cases h1;exact absurd (List.mem_of_getElem? (by simpa using h2)) hx
  |i+1,0=>
   cases h2;exact absurd (List.mem_of_getElem? (by simpa using h1)) hx
  |i+1,j+1=>rw[si hd.2 i j s (by simpa using h1) (by simpa using h2)]
noncomputable def pg(s:Str):Bool:=s.cps.size !=1||Nat.blt (s.cps.getD 0 0) 1000
theorem DZ:(yZ vJ&&vJ.all pg&&vJ.all (fun s=>!(s==("__debug__":Str)) && !(s==("__classdict__":Str))))=true:=by decide +kernel
theorem qd{i:Nat}{s:Str}(h:vJ[i]?=some s):aI i=s:=by unfold aI;rw[h]
theorem nf{i:Nat}(h:vJ[i]?=none):aI i=⟨#[i+1000]⟩:=by unfold aI;rw[h]
theorem xC{s:Str}{i:Nat}(h:pg s=true):s≠⟨#[i+1000]⟩:=fun e=>by
 subst e;unfold pg at h;simp[Nat.blt_eq]at h;exact ag 1 0 (aa (ak (aj ab bw) bw) KH) (by kd_p) h
theorem Ku(i j:Nat)(h:aI i=aI j):i=j:=by
 have ok:=DZ;simp only[Bool.and_eq_true]at ok;cases hi:vJ[i]? with
 |some s=>
  cases hj:vJ[j]? with
  |some t=>
   rw[qd hi,qd hj]at h;subst h;exact si ok.1.1 i j s hi hj
  |none=>
   rw[qd hi,nf hj]at h;exact absurd h (xC (List.all_eq_true.mp ok.1.2 s (List.mem_of_getElem? hi)))
 |none=>
  cases hj:vJ[j]? with
  |some t=>
   rw[nf hi,qd hj]at h;exact absurd h.symm (xC (List.all_eq_true.mp ok.1.2 t (List.mem_of_getElem? hj)))
  |none=>
   rw[nf hi,nf hj]at h;have:(#[i+1000]:Array Nat)=#[j+1000]:=congrArg Str.cps h;simp at this;exact this
theorem Kv(i:Nat):(aI i==("__debug__":Str))=false∧(aI i==("__classdict__":Str))=false:=by
 have ok:=DZ;simp only[Bool.and_eq_true]at ok;cases hi:vJ[i]? with
 |some s=>
  have:=List.all_eq_true.mp ok.2 s (List.mem_of_getElem? hi);simp only[Bool.and_eq_true,Bool.not_eq_true']at this;rw[qd hi];exact this
 |none=>
  rw[nf hi];have h1:(⟨#[i+1000]⟩:Str)≠("__debug__":Str):=fun e=>by
   have h:(1:Nat)=9:=congrArg (fun s:Str=>s.cps.size) e;exact absurd h (by decide)
  have h2:(⟨#[i+1000]⟩:Str)≠("__classdict__":Str):=fun e=>by
   have h:(1:Nat)=13:=congrArg (fun s:Str=>s.cps.size) e;exact absurd h (by decide)
  exact⟨beq_false_of_ne h1,beq_false_of_ne h2⟩
noncomputable def y3(K:Frag)(x:Str):Option Value:=match K.lookup mainGlobals with
 |some ⟨_,_,.dict es _,_⟩=>nsFind es x
 |_=>none
noncomputable def Kw(K:Frag):Bool:=(match K.lookup mainGlobals with|some ⟨_,_,.dict _ _,_⟩=>true|_=>false)&&(U2.all fun p=>match y3 K (aI p.1) with|some u=>u==p.2|none=>bootBuiltins (aI p.1)==some p.2&&aI p.1 !="__name__")&&y3 K (Str.ofString "law")==some (.ref 225)
theorem D0(P:Params):Kw (KP P)=true:=by kd_p
theorem xD{K:Frag}{h:Heap}{mg:Str→Option Value}(hK:K.In h)(hB:Kw K=true)(hn:h.Ns mainGlobals mg)(x:Str):y3 K x=mg x:=by
 unfold Kw at hB;simp only[Bool.and_eq_true]at hB;have h1:=hB.1.1;unfold y3;split at h1
 ·rename_i c d es n sl e
  refine br hn ?_;clear hn;intro o sH ep e' d' _ f;have:=hK _ _ e;rw[e']at this;cases Option.some.inj this;cases d';exact f x
 ·exact iO h1
theorem Kx{prog:Program}{w:World}{P:Params}{h:Heap}{mg mb:Str→Option Value}(hK:(KP P).In h)(hT:∀P∈tabs,h.get? P=some (tabObj #[]))(hg:h.Ns mainGlobals mg)(hb:h.Ns builtinsNs mb)(CQ:∀x:Str,x≠"__name__"→mb x=bootBuiltins x)
  {A:Around}{E:Value→Shared→Prop}{s:Shared}{env:Env}{x:Nat}{v:Value}{Q:Value→Shared→Prop}(hx:bX x=some v)(h1:env.globals=mainGlobals)(h2:env.builtins=builtinsNs)
  (hs:∀a o,lq h a=some o→s.heap.get? a=some o)(q:Q v s):wpAny (model prog w) A (loadGlobal env (aI x)) Q E s:=by
 have hB:=D0 P;have AY:=hB;unfold Kw at AY;simp only[Bool.and_eq_true]at AY;have AQ:=List.all_eq_true.mp AY.1.2 (x,v) (Dn hx);dsimp only at AQ;have hf:=xD hK hB hg (aI x);rw[hf]at AQ;have X6:s.heap.Ns env.globals mg:=by rw[h1];exact qc hT hs hg
 have yo:s.heap.Ns env.builtins mb:=by rw[h2];exact qc hT hs hb
 cases hm:mg (aI x) with
 |some u=>
  rw[hm]at AQ;have:u=v:=eq_of_beq AQ;subst this;exact loadGlobal_global X6 hm q
 |none=>
  rw[hm]at AQ;simp only[Bool.and_eq_true]at AQ;refine loadGlobal_builtin X6 hm yo (v:=v) ?_ q;rw[CQ _ (by simpa using AQ.2)]
  exact eq_of_beq AQ.1
noncomputable def y4(prog:Program)(w:World){P:Params}{h:Heap}{mg mb:Str→Option Value}(hK:(KP P).In h)(hT:∀P∈tabs,h.get? P=some (tabObj #[]))(hg:h.Ns mainGlobals mg)(hb:h.Ns builtinsNs mb)(CQ:∀x:Str,x≠"__name__"→mb x=bootBuiltins x)(pS:h.NoLimit):dn where
 prog:=prog
 w:=w
 Bs:=lq h
 A₀:=[]
 K:=KP P
 hK:=fun a o e=>by rw[nU (MZ e)];exact hK a o e
 TI:=oQ
 hT:=EL
 nm:=aI
 gl:=bX
 nolimit:=fun h' hk=>let⟨mc,a,b⟩:=pS;⟨mc,qc hT hk a,b⟩
 inj:=Ku
 odd:=Kv
 load:=fun hx h1 h2 hs q=>Kx hK hT hg hb CQ hx h1 h2 hs q
section
variable{prog:Program}{w:World}{P:Params}{h:Heap}{mg mb:Str→Option Value}{hK:(KP P).In h}{hT:∀P∈tabs,h.get? P=some (tabObj #[])}{hg:h.Ns mainGlobals mg}{hb:h.Ns builtinsNs mb}{CQ:∀x:Str,x≠"__name__"→mb x=bootBuiltins x}{pS:h.NoLimit}
theorem M0(Fh:∃bm ob,mg "__builtins__"=some (.ref bm)∧bm≠builtinsNs∧h.get? bm=some ob∧ob.cls=.type "module"∧ob.dict=some builtinsNs∧ob.data=.plain):
  bx (y4 prog w hK hT hg hb CQ pS):=by
 refine⟨rfl,fun h' hk=>⟨mg,qc hT hk hg,fun T X7=>⟨fun e=>DY hT hg (e▸X7),?_⟩⟩,fun zz=>rfl,fun zz zz e=>e,⟨P,rfl⟩⟩;refine D5 Fh ?_;clear Fh;intro bm ob e1 e2 e3 e4 e5 e6;have qC:bm∉tabs:=fun m=>by
  rw[hT bm m]at e3;cases Option.some.inj e3;cases e4
 have hbg:bm≠mainGlobals:=fun e=>by
  refine ph hg ?_;intro o es ep eo d zz;rw[e,eo]at e3;cases Option.some.inj e3;rw[d]at e6;cases e6
 exact⟨bm,ob,e1,e2,hbg,fun e=>qC (e▸X7),hk bm ob (by rw[show(y4 prog w hK hT hg hb CQ pS).Bs=lq h from rfl,nU qC];exact e3),e4,e5,e6⟩
theorem M1:Inv (y4 prog w hK hT hg hb CQ pS) (lq h) [] [] h:=
 ⟨fun zz zz e=>e,fun zz zz e=>Kt e,rfl,(fun i a xs h1=>by cases h1),(fun zz m=>nomatch m),.nil,fun a ha=>⟨xB a ha,(fun m=>nomatch m)⟩,⟨.inl (hT 58 (by simp[tabs])),.inl (hT 65 (by simp[tabs])),.inl (hT 222 (by simp[tabs]))⟩,⟨List.prefix_refl _,(fun zz m=>nomatch m)⟩⟩
end
theorem vz{P:Params}{h:Heap}{B:ay}:∀ {ns:List Int} {vs:List Value},WellAll P h vs (ofPys (ns.map .int))→aB B [] (ns.map V.int) vs
 |[],vs,x=>by
  cases x;exact .nil
 |n::ns,vs,x=>by
  rw[List.map_cons]at x;unfold ofPys at x;cases x with
  |cons y z=>
   unfold ofPy at y;cases y;exact .cons .int (vz z)
theorem CR{P:Params}{h:Heap}{a:Addr}{ns:List Int}(hT:∀P∈tabs,h.get? P=some (tabObj #[]))(x:Well P h (.ref a) (ofPy (.list (ns.map .int)))):VR (lq h) [] (.list (ns.map .int)) (.ref a):=by
 unfold ofPy at x;cases x with
 |list e y=>
  have ha:a∉tabs:=fun m=>by
   rw[hT a m]at e;cases Option.some.inj e
  have r:=vz (B:=lq h) y;exact .list (by rw[nU ha];exact e) r.1 r.2
noncomputable def D1(K:Frag):Bool:=codeHdIn K 62 58&&codeHdIn K 69 65&&codeHdIn K 224 222
theorem Gj(P:Params):D1 (KP P)=true:=by kd_p
theorem Ky{G:dn}{P:Params}{h:Heap}{s s':Shared}(hs:s.heap=h)(hTI:G.TI=oQ)(hK:(KP P).In h)(hT:∀P∈tabs,h.get? P=some (tabObj #[])){B B':ay}{aH:List Addr}{ar:Mu}(p:aG G [] B [] s B' aH ar s'):OldK s.heap s'.heap:=by
 subst hs;have hc:=Gj P;unfold D1 at hc;simp only[Bool.and_eq_true]at hc;have key:∀T∈tabs,isCodeTable s.heap T∧∃more,s'.heap.get? T=some (tabObj (#[]++more)):=by
  intro T hm;have hI:=p.inv.tab;rw[hTI]at hI;refine qe hI ?_;clear hI;intro i1 i2 i3;have fin:∀ {l c:Nat} {q:Str},mN B' s'.heap T l c q→∃more,s'.heap.get? T=some (tabObj (#[]++more)):=fun x=>x.elim (fun e=>⟨#[],by rw[e];rfl⟩) fun⟨c',zz,e⟩=>⟨_,by rw[Array.empty_append];exact e⟩
  rcases List.mem_cons.mp hm with rfl|hm
  ·exact⟨((codeHd_of_K hK hc.1.2).tab (hT _ (by simp[tabs]))).isCodeTable,fin i2⟩
  rcases List.mem_cons.mp hm with rfl|hm
  ·exact⟨((codeHd_of_K hK hc.1.1).tab (hT _ (by simp[tabs]))).isCodeTable,fin i1⟩
  obtain rfl:=List.mem_singleton.mp hm;exact⟨((codeHd_of_K hK hc.2).tab (hT _ (by simp[tabs]))).isCodeTable,fin i3⟩
 have keep:∀b o,b∉tabs→s.heap.get? b=some o→s'.heap.get? b=some o:=fun b o hb e=>p.keep b o (by simpa using hb) e
 refine⟨fun b o e=>?_,fun b o e=>?_⟩
 ·by_cases hb:b∈tabs
  ·refine PD (key b hb) ?_;intro ht more em
   have e2:=hT b hb;rw[e]at e2;cases Option.some.inj e2;exact .inr (.inl ⟨ht,rfl,#[],more,rfl,em⟩)
  ·exact .inl (keep b o hb e)
 ·by_cases hb:b∈tabs
  ·refine PD (key b hb) ?_;intro zz more em
   exact⟨_,em⟩
  ·exact⟨o,keep b o hb e⟩
end
end
end
section
set_option maxHeartbeats 8000000
theorem CS:PySem.Challenge.rw_tc0078_01.Holds:=hd (by
 intro w s0 s1 mg mb G Y fa o pm cd doc dV kV ho hd jG hD X8 hg args vals as X9 Ya hrd hwl hU;clear hd jG hD ho;have hK:=km_in_of Y;have hT:∀P∈tabs,s1.heap.get? P=some (tabObj #[]):=km_tabs_of Y;have T:=G.T;have IX:fa=225:=by
  have h1:mg (Str.ofString "law")=some (.ref fa):=X8;have hB:=D0 w.params;have h2:=xD hK hB T.g (Str.ofString "law");unfold Kw at hB;simp only[Bool.and_eq_true]at hB;rw[eq_of_beq hB.2,h1]at h2;cases Option.some.inj h2
  rfl
 subst IX;clear X8
 wrow_args X9 Ya hrd hwl hU
 rename_i ns _ _ _ _ _ _ _ a _ _ _ _ w1 _ _ _ hlen _;show wpAny (model Challenge.rw_tc0078_01.row.prog w) callerA (call (.ref 225) [.ref a] []) _ _ _;refine wpAny_mono (MY (G:=y4 Challenge.rw_tc0078_01.row.prog w hK hT T.g T.b T.builtins T.nolimit) (M0 T.bmain) (fun a ha=>xB a ha) (n:=0) (A:=callerA) ⟨rfl,by decide,by decide,rfl⟩ rfl (xs:=ns) (by exact ag 1 0 (aa (dJ (aK (az (nk 63)) (az ab))) (ae ab (nk 100000))) (by kd_p) hlen) M1 (CR hT w1)) ?_ (fun _ _ x=>x.elim)
 rintro v s' ⟨rfl,B',aH,ar,p⟩;refine⟨.inl ⟨_,.bool true,[],rfl,?_,.bool true,?_,fun _=>⟨.nil,fun _ h=>by cases h⟩⟩,Ky rfl rfl hK hT p,p.rest.os,p.rest.bare (.of_eq hg)⟩
 ·intro cls
  rfl
 ·wrow_post)
end
end bg
theorem PySem.Challenge.cw_tc0078_01_holds : PySem.Challenge.rw_tc0078_01.Holds :=
 bg.CS
