import PyProof.Rows.All
import Wide.All
import OpenK.AllK
import Wide.FinOn
import KE.KSortTup
import PyProof.ExcFactsAll.ZeroDivisionError
import PyProof.ExcStrAll.ZeroDivisionError
import PyProof.ExcStrCall
import PyProof.ExcAttrAll.ZeroDivisionError
import KE.KRevSl
import PySem.Challenge.RW_tc0078_01
open PySem PySem.Spec PySem.Calls PyProof.Rows PySem.W
open Sem (wp)
set_option Elab.async false
set_option compiler.extract_closed false
set_option genSizeOf false
set_option genInjectivity false
set_option maxRecDepth 100000
set_option linter.unusedVariables false
set_option linter.unusedSimpArgs false
namespace bg
section
local macro_rules | `(tactic| kd_p) => `(tactic| kernel_rfl)
local macro_rules | `(tactic| k_upd) => `(tactic| repeat kd_in)
inductive Cd where
 |v (i:Nat)|z (i:Nat)|k (c:Int)|ad (a b:Cd)|sb (a b:Cd)|ml (c:Int) (a:Cd)|ts (a b:Cd)
inductive Pc where
 |le (a b:Cd)|im (p q:Pc)|fl
structure Cx where
 a:List Nat
 b:List Int
noncomputable abbrev fK{τ:Type}(d:τ)(l:List τ):τ:=l.rec d fun a zz zz=>a
noncomputable abbrev DI{τ:Type}(l:List τ):List τ:=l.rec [] fun zz a zz=>a
noncomputable abbrev at'{τ:Type}(d:τ)(l:List τ)(i:Nat):τ:=i.rec (motive:=fun zz=>List τ→τ) (fun l=>fK d l) (fun zz r l=>r (DI l)) l
noncomputable def Cd.ev(x:Cx):Cd→Int
 |v i=>(at' 0 x.a i:Nat)
 |z i=>at' 0 x.b i
 |k c=>c
 |ad a b=>a.ev x+b.ev x
 |sb a b=>a.ev x-b.ev x
 |ml c a=>c*a.ev x
 |ts a b=>(a.ev x-b.ev x).toNat
noncomputable def Pc.ev(x:Cx):Pc→Prop
 |le a b=>a.ev x≤b.ev x
 |im p q=>p.ev x→q.ev x
 |fl=>False
structure Li where
 c:Int
 l:List Int
noncomputable def fv(a:List Nat)(b:List Int):Nat→Int
 |0=>(fK 0 a:Nat)
 |1=>fK 0 b
 |i+2=>fv (DI a) (DI b) i
noncomputable def dot(f:Nat→Int)(l:List Int):Int:=l.rec (motive:=fun zz=>(Nat→Int)→Int) (fun zz=>0) (fun a zz r f=>a*f 0+r fun i=>f (i+1)) f
noncomputable def Li.ev(f:Nat→Int)(l:Li):Int:=l.c+dot f l.l
noncomputable def un:Nat→List Int
 |0=>[1]
 |n+1=>0::0::un n
noncomputable def uz:Nat→List Int
 |0=>[0,1]
 |n+1=>0::0::uz n
noncomputable def FN(l b:List Int):List Int:=l.rec (motive:=fun zz=>List Int→List Int) (fun b=>b) (fun x zz r b=>(x+fK 0 b)::r (DI b)) b
noncomputable def yO(c:Int)(l:List Int):List Int:=l.map (c * ·)
noncomputable def Li.ad(a b:Li):Li:=⟨a.c+b.c,FN a.l b.l⟩
noncomputable def Li.sc(c:Int)(a:Li):Li:=⟨c*a.c,yO c a.l⟩
noncomputable def Li.sb(a b:Li):Li:=a.ad (.sc (-1) b)
noncomputable def Li.pd(a:Li):Li:=⟨-1+a.c,a.l⟩
theorem Kc{f:Int→Int→Int}{a b c d:Int}(h:a=b)(e:c=d):f a c=f b d:=by rw[h,e]
theorem a4{a b c d:Int}:a+b+(c+d)=a+c+(b+d):=by rw[Int.add_assoc,Int.add_left_comm b,←Int.add_assoc]
theorem FO{f:Nat→Int}{a:Int}{l:List Int}:dot f (a::l)=a*f 0+dot (fun i=>f (i+1)) l:=rfl
theorem z2{a b c:Int}:0*a+(0*b+c)=c:=by rw[Int.zero_mul,Int.zero_mul,Int.zero_add,Int.zero_add]
theorem u1{a:Int}:1*a+0=a:=by rw[Int.one_mul,Int.add_zero]
theorem Ct(i:Nat):∀ {a:List Nat} {b:List Int},dot (fv a b) (un i)=(at' 0 a i:Nat):=by
 induction i with
 |zero=>exact u1
 |succ i ih=>exact z2.trans ih
theorem Kd(i:Nat):∀ {a:List Nat} {b:List Int},dot (fv a b) (uz i)=at' 0 b i:=by
 induction i with
 |zero=>exact(congrArg (· + _) (Int.zero_mul _)).trans ((Int.zero_add _).trans u1)
 |succ i ih=>exact z2.trans ih
theorem Cu{f:Nat→Int}(l:List Int):dot f l=fK 0 l*f 0+dot (fun i=>f (i+1)) (DI l):=by
 cases l with
 |nil=>exact((congrArg (· + 0) (Int.zero_mul (f 0))).trans (Int.zero_add 0)).symm
 |cons=>rfl
theorem FP(a:List Int):∀ {f:Nat→Int} {b:List Int},dot f (FN a b)=dot f a+dot f b:=by
 induction a with
 |nil=>exact(Int.zero_add _).symm
 |cons x a ih=>
  intro f b;rw[Cu b,FO];refine(Kc (f:=(· + ·)) (Int.add_mul x (fK 0 b) (f 0)) ih).trans ?_
  exact a4
theorem yP(c:Int)(a:List Int):∀ {f:Nat→Int},dot f (yO c a)=c*dot f a:=by
 induction a with
 |nil=>exact(Int.mul_zero c).symm
 |cons x a ih=>
  intro f;rw[FO,Int.mul_add,←Int.mul_assoc];exact congrArg (fun z=>_+z) ih
section
variable{f:Nat→Int}{a b:Li}
theorem Li.Av:(a.ad b).ev f=a.ev f+b.ev f:=(congrArg (fun z=>_+z) (FP ..)).trans a4
theorem Li.xp{c:Int}:(a.sc c).ev f=c*a.ev f:=(congrArg (fun z=>_+z) (yP ..)).trans (Int.mul_add ..).symm
theorem Li.tc:(a.sb b).ev f=a.ev f-b.ev f:=by
 rw[show a.sb b=a.ad (.sc (-1) b) from rfl,Li.Av,Li.xp,Int.neg_mul,Int.one_mul,Int.sub_eq_add_neg]
theorem Li.FQ:a.pd.ev f = -1+a.ev f:=Int.add_assoc ..
end
noncomputable abbrev Sy:=List Li
noncomputable def Sat(f:Nat→Int)(s:Sy):Prop:=∀l∈s,0≤l.ev f
noncomputable def go:Cd→Sy→(Li→Sy→Bool)→Bool
 |.v i,s,k=>k ⟨0,un i⟩ s
 |.z i,s,k=>k ⟨0,uz i⟩ s
 |.k c,s,k=>k ⟨c,[]⟩ s
 |.ad a b,s,k=>go a s fun a s=>go b s fun b s=>k (a.ad b) s
 |.sb a b,s,k=>go a s fun a s=>go b s fun b s=>k (a.sb b) s
 |.ml c a,s,k=>go a s fun a s=>k (a.sc c) s
 |.ts a b,s,k=>go a s fun a s=>go b s fun b s=>k (a.sb b) (a.sb b::s)&&k ⟨0,[]⟩ ((b.sb a).pd::s)
noncomputable def as:Pc→Bool→Sy→(Sy→Bool)→Bool
 |.le a b,t,s,k=>go a s fun a s=>go b s fun b s=>k ((bif t then b.sb a else(a.sb b).pd)::s)
 |.im p q,t,s,k=>bif t then as p false s k&&as q true s k else as p true s fun s=>as q false s k
 |.fl,t,s,k=>t||k s
theorem Sat.cons{f:Nat→Int}{s:Sy}{l:Li}(h:Sat f s)(e:0≤l.ev f):Sat f (l::s):=fun m hm=>by
 cases hm with
 |head=>exact e
 |tail _ hm=>exact h m hm
theorem FR{a b:Int}(h:b<a):0 ≤ -1+(a-b):=Int.add_comm .. ▸ Int.le_sub_one_of_lt (Int.sub_pos_of_lt h)
theorem FT{x:Cx}{f:Nat→Int}(hf:f=fv x.a x.b)(a:Cd):∀ {s:Sy} {k:Li→Sy→Bool},go a s k=true→Sat f s→(∀l s,l.ev f=a.ev x→Sat f s→k l s=true→False)→False:=by
 induction a with
 |v i=>exact fun h hs K=>K _ _ (by rw[hf];exact(Int.zero_add _).trans (Ct i)) hs h
 |z i=>exact fun h hs K=>K _ _ (by rw[hf];exact(Int.zero_add _).trans (Kd i)) hs h
 |k c=>exact fun h hs K=>K ⟨c,[]⟩ _ (Int.add_zero c) hs h
 |ad a b ia ib=>exact fun h hs K=>ia h hs fun ag s e hs h=>ib h hs fun lb s e' hs h=>K _ s (by rw[Li.Av,e,e'];rfl) hs h
 |sb a b ia ib=>exact fun h hs K=>ia h hs fun ag s e hs h=>ib h hs fun lb s e' hs h=>K _ s (by rw[Li.tc,e,e'];rfl) hs h
 |ml c a ia=>exact fun h hs K=>ia h hs fun ag s e hs h=>K _ s (by rw[Li.xp,e];rfl) hs h
 |ts a b ia ib=>
  refine fun h hs K=>ia h hs fun ag s e hs h=>ib h hs fun lb s e' hs h=>?_;have h:=(Bool.and_eq_true ..).mp h;have e1:(ag.sb lb).ev f=a.ev x-b.ev x:=by rw[Li.tc,e,e']
  by_cases c:b.ev x≤a.ev x
  ·have c:=Int.sub_nonneg_of_le c
   exact K _ _ (e1.trans (Int.toNat_of_nonneg c).symm) (hs.cons (e1▸c)) h.1
  ·have c:=Int.lt_of_not_ge c
   exact K _ _ (congrArg Nat.cast (Int.toNat_of_nonpos (Int.le_of_lt (Int.sub_neg_of_lt c))).symm) (hs.cons (by rw[Li.FQ,Li.tc,e,e'];exact FR c)) h.2
theorem OI{x:Cx}{f:Nat→Int}(hf:f=fv x.a x.b)(p:Pc):∀ {t:Bool} {s:Sy} {k:Sy→Bool},as p t s k=true→(p.ev x↔t=true)→Sat f s→(∀s,Sat f s→k s=true→False)→False:=by
 induction p with
 |le a b=>
  refine fun{t} {zz zz} h hp hs K=>FT hf a h hs fun ag s e hs h=>FT hf b h hs fun lb s e' hs h=>K _ (hs.cons ?_) h;cases t with
  |true=>
   show 0≤(lb.sb ag).ev f;rw[Li.tc,e,e'];exact Int.sub_nonneg_of_le (hp.mpr rfl)
  |false=>
   show 0≤(ag.sb lb).pd.ev f;rw[Li.FQ,Li.tc,e,e'];exact FR (Int.lt_of_not_ge fun z=>nomatch hp.mp z)
 |im p q ip iq=>
  intro t s k h hp hs K;cases t with
  |true=>
   have h:=(Bool.and_eq_true ..).mp h
   by_cases c:p.ev x
   ·exact iq h.2 ⟨fun zz=>rfl,fun zz=>hp.mpr rfl c⟩ hs K
   ·exact ip h.1 ⟨fun z=>absurd z c,fun z=>nomatch z⟩ hs K
  |false=>
   have hn:(p.ev x→q.ev x)→False:=fun z=>nomatch hp.mp z
   by_cases c:p.ev x
   ·exact ip h ⟨fun zz=>rfl,fun zz=>c⟩ hs fun s hs h=>iq h ⟨fun z=>(hn fun zz=>z).elim,fun z=>nomatch z⟩ hs K
   ·exact hn fun z=>absurd z c
 |fl=>
  intro t s k h hp hs K;cases t with
  |true=>exact hp.mpr rfl
  |false=>exact K s hs h
noncomputable def tl(l:Li):Li:=⟨l.c,DI l.l⟩
noncomputable def ti(g:Int)(l:Li):Li:=bif decide (0<g)&&yO g (l.l.map (· / g))==l.l then⟨l.c/g,l.l.map (· / g)⟩ else l
noncomputable def OJ(l:Li):Li:=ti (l.l.foldr (fun a g=>Nat.gcd g a.natAbs) 0:Nat) l
theorem OK{f:Nat→Int}{l:Li}{g:Int}(h:0≤l.ev f):0≤(ti g l).ev f:=by
 unfold ti;cases c:decide (0<g)&&yO g (l.l.map (· / g))==l.l with
 |false=>exact h
 |true=>
  have c:=(Bool.and_eq_true ..).mp c;have e:=eq_of_beq c.2;show 0≤l.c/g+dot f (l.l.map (· / g))
  have h:0≤l.c+dot f l.l:=h;rw[←e,yP]at h;rw[←Int.add_mul_ediv_left _ _ (Int.ne_of_gt (of_decide_eq_true c.1))];exact Int.ediv_nonneg h (Int.le_of_lt (of_decide_eq_true c.1))
noncomputable def pr(p q:Li):Li:=.ad (.sc (-fK 0 q.l) p) (.sc (fK 0 p.l) q)
noncomputable def pairs(p:Li)(s:Sy):Sy:=(s.filter fun q=>decide (fK 0 q.l<0)).map fun q=>OJ (tl (pr p q))
noncomputable def elim(s:Sy):Sy:=((s.filter fun p=>decide (fK 0 p.l=0)).map tl)++(s.filter fun p=>decide (0<fK 0 p.l)).flatMap fun p=>pairs p s
noncomputable def bad(l:Li):Bool:=decide (l.c<0)&&l.l.all fun a=>decide (a=0)
noncomputable def fm:Nat→Sy→Bool
 |0,s=>s.any bad
 |n+1,s=>s.any bad||fm n (elim s)
theorem DJ(l:List Int):∀ {f:Nat→Int},(l.all fun a=>decide (a=0))=true→dot f l=0:=by
 induction l with
 |nil=>exact fun zz=>rfl
 |cons a l ih=>
  intro f h;have h:=(Bool.and_eq_true ..).mp h;rw[FO,ih h.2,of_decide_eq_true h.1,Int.zero_mul];rfl
theorem yQ{f:Nat→Int}{s:Sy}(h:s.any bad=true)(hs:Sat f s):False:=
 let⟨l,m,b⟩:=List.any_eq_true.mp h
 have b:=(Bool.and_eq_true ..).mp b
 absurd (of_decide_eq_true b.1) (Int.not_lt_of_ge ((Int.add_zero l.c)▸DJ l.l (f:=f) b.2▸hs l m))
theorem OL{f:Nat→Int}{l:Li}:l.ev f=fK 0 l.l*f 0+(tl l).ev (fun i=>f (i+1)):=
 (congrArg (l.c + ·) (Cu l.l)).trans (Int.add_left_comm ..)
theorem MA{f:Nat→Int}{l:Li}(h:fK 0 l.l=0):(tl l).ev (fun i=>f (i+1))=l.ev f:=by
 rw[OL (f:=f) (l:=l),h,Int.zero_mul,Int.zero_add]
theorem Cv{c:Int}{a:List Int}:fK 0 (yO c a)=c*fK 0 a:=by
 cases a with
 |nil=>exact(Int.mul_zero c).symm
 |cons=>rfl
theorem Ke{a b:List Int}:fK 0 (FN a b)=fK 0 a+fK 0 b:=by
 cases a with
 |nil=>exact(Int.zero_add _).symm
 |cons=>rfl
theorem OM{p q:Li}:fK 0 (pr p q).l=0:=by
 refine Ke.trans ?_;rw[show fK 0 (Li.sc (-fK 0 q.l) p).l=_ from Cv,show fK 0 (Li.sc (fK 0 p.l) q).l=_ from Cv,Int.neg_mul,Int.mul_comm];exact Int.add_left_neg _
theorem FU{f:Nat→Int}{s:Sy}(hs:Sat f s):Sat (fun i=>f (i+1)) (elim s):=fun l m=>by
 rcases List.mem_append.mp m with m|m
 ·let⟨p,m,e⟩:=List.mem_map.mp m
  have m:=List.mem_filter.mp m;exact e▸MA (f:=f) (of_decide_eq_true m.2)▸hs p m.1
 ·let⟨p,m,e⟩:=List.mem_flatMap.mp m
  have m:=List.mem_filter.mp m
  let⟨q,n,e⟩:=List.mem_map.mp e
  have n:=List.mem_filter.mp n;rw[←e];refine OK ?_;rw[MA OM];have:=Int.le_of_lt (of_decide_eq_true m.2);have:=Int.neg_nonneg_of_nonpos (Int.le_of_lt (of_decide_eq_true n.2));rw[show pr p q=.ad (.sc (-fK 0 q.l) p) (.sc (fK 0 p.l) q) from rfl,Li.Av,Li.xp,Li.xp];exact Int.add_nonneg (Int.mul_nonneg this (hs p m.1)) (Int.mul_nonneg (Int.le_of_lt (of_decide_eq_true m.2)) (hs q n.1))
theorem ON(n:Nat):∀ {f:Nat→Int} {s:Sy},fm n s=true→Sat f s→False:=by
 induction n with
 |zero=>exact yQ
 |succ n ih=>exact fun h hs=>((Bool.or_eq_true ..).mp h).elim (fun h=>yQ h hs) fun h=>ih h (FU hs)
noncomputable def nn:Nat→Sy
 |0=>[]
 |n+1=>⟨0,un n⟩::nn n
noncomputable def S1(n m:Nat)(p:Pc):Bool:=as p false (nn n) (fm (n+n+m+m))
theorem OO{a:List Nat}{b:List Int}(n:Nat):Sat (fv a b) (nn n):=by
 induction n with
 |zero=>exact fun l m=>nomatch m
 |succ n ih=>exact ih.cons (((Int.zero_add _).trans (Ct n)).symm.subst (motive:=fun z=>0≤z) (Int.natCast_nonneg _))
theorem Kf{n m:Nat}{p:Pc}(h:S1 n m p=true)(x:Cx):p.ev x:=Classical.byContradiction fun c=>
 OI rfl p h ⟨fun z=>absurd z c,fun z=>nomatch z⟩ (OO n) fun s hs h=>ON _ h hs
structure Nx where
 d:Cx→Nat
 c:Cd
 ok:∀x,((d x:Nat):Int)=c.ev x
structure Zx where
 d:Cx→Int
 c:Cd
 ok:∀x,d x=c.ev x
structure Px where
 d:Cx→Prop
 c:Pc
 ok:∀x,d x↔c.ev x
theorem S2{a b:Int}:a=b↔((a≤b→b≤a→False)→False):=⟨fun e k=>k (Int.le_of_eq e) (Int.le_of_eq e.symm),fun h=>Classical.byContradiction fun c=>h fun p q=>c (Int.le_antisymm p q)⟩
theorem OP{m n:Nat}:((m-n:Nat):Int)=((m:Int)-(n:Int)).toNat:=congrArg Nat.cast (Int.toNat_sub m n).symm
theorem OQ{a b:Int}:min a b=a-(a-b).toNat:=by
 rw[Int.min_def]
 by_cases h:a≤b
 ·rw[if_pos h,Int.toNat_of_nonpos (Int.sub_nonpos_of_le h)];exact(Int.sub_zero a).symm
 ·rw[if_neg h,Int.toNat_of_nonneg (Int.sub_nonneg_of_le (Int.le_of_lt (Int.not_le.mp h))),Int.sub_sub_self]
theorem OR{a b:Int}:max a b=b+(a-b).toNat:=by
 rw[Int.max_def]
 by_cases h:a≤b
 ·rw[if_pos h,Int.toNat_of_nonpos (Int.sub_nonpos_of_le h)];exact(Int.add_zero b).symm
 ·rw[if_neg h,Int.toNat_of_nonneg (Int.sub_nonneg_of_le (Int.le_of_lt (Int.not_le.mp h))),Int.add_comm,Int.sub_add_cancel]
theorem Kg{a b:Nat}:((min a b:Nat):Int)=min (a:Int) b:=by
 rw[Nat.min_def,Int.min_def]
 by_cases h:a≤b
 ·rw[if_pos h,if_pos (Int.ofNat_le.mpr h)]
 ·rw[if_neg h,if_neg fun z=>h (Int.ofNat_le.mp z)]
noncomputable abbrev nv(i:Nat):Nx:=⟨fun x=>at' 0 x.a i,.v i,fun zz=>rfl⟩
noncomputable abbrev nk(n:Nat):Nx:=⟨fun zz=>n,.k n,fun zz=>rfl⟩
section
variable(a b:Nx)(p q:Zx)
noncomputable abbrev aj:Nx:=⟨fun x=>a.d x+b.d x,.ad a.c b.c,fun x=>Kc (f:=(· + ·)) (a.ok x) (b.ok x)⟩
noncomputable abbrev bb:Nx:=⟨fun x=>a.d x-b.d x,.ts a.c b.c,fun x=>by rw[OP,a.ok,b.ok];rfl⟩
noncomputable abbrev cY(c:Nat)(a:Nx):Nx:=⟨fun x=>c*a.d x,.ml c a.c,fun x=>congrArg ((c:Int) * ·) (a.ok x)⟩
noncomputable abbrev rZ(c:Nat):Nx:=⟨fun x=>a.d x*c,.ml c a.c,fun x=>(congrArg (· * (c:Int)) (a.ok x)).trans (Int.mul_comm ..)⟩
noncomputable abbrev Aw:Zx:=⟨fun x=>min (p.d x) (q.d x),.sb p.c (.ts p.c q.c),fun x=>by rw[OQ,p.ok,q.ok];rfl⟩
noncomputable abbrev xq:Zx:=⟨fun x=>max (p.d x) (q.d x),.ad q.c (.ts p.c q.c),fun x=>by rw[OR,p.ok,q.ok];rfl⟩
noncomputable abbrev az:Zx:=⟨fun x=>(a.d x:Nat),a.c,a.ok⟩
noncomputable abbrev jP:Nx:=⟨fun x=>min (a.d x) (b.d x),(Aw (az a) (az b)).c,fun x=>Kg.trans ((Aw (az a) (az b)).ok x)⟩
noncomputable abbrev dz:Nx:=⟨fun x=>(p.d x).toNat,.ts p.c (.k 0),fun x=>by rw[p.ok,←Int.sub_zero (p.c.ev x)];rfl⟩
noncomputable abbrev zv(i:Nat):Zx:=⟨fun x=>at' 0 x.b i,.z i,fun zz=>rfl⟩
noncomputable abbrev zk(n:Int):Zx:=⟨fun zz=>n,.k n,fun zz=>rfl⟩
noncomputable abbrev bh:Zx:=⟨fun x=>p.d x+q.d x,.ad p.c q.c,fun x=>Kc (f:=(· + ·)) (p.ok x) (q.ok x)⟩
noncomputable abbrev bR:Zx:=⟨fun x=>p.d x-q.d x,.sb p.c q.c,fun x=>Kc (f:=(· - ·)) (p.ok x) (q.ok x)⟩
noncomputable abbrev cH:Zx:=⟨fun x => -p.d x,.ml (-1) p.c,fun x=>(congrArg (- ·) (p.ok x)).trans (Int.neg_eq_neg_one_mul _)⟩
noncomputable abbrev xr(c:Int)(p:Zx):Zx:=⟨fun x=>c*p.d x,.ml c p.c,fun x=>congrArg (c * ·) (p.ok x)⟩
noncomputable abbrev OS(c:Int):Zx:=⟨fun x=>p.d x*c,.ml c p.c,fun x=>(congrArg (· * c) (p.ok x)).trans (Int.mul_comm ..)⟩
noncomputable abbrev gD:Nx:=⟨fun x=>(p.d x).natAbs,(aj (dz p) (dz (cH p))).c,fun x=>(congrArg Nat.cast (Int.toNat_add_toNat_neg_eq_natAbs _).symm).trans ((aj (dz p) (dz (cH p))).ok x)⟩
noncomputable abbrev ai:Px:=⟨fun x=>p.d x≤q.d x,.le p.c q.c,fun x=>by rw[p.ok,q.ok];rfl⟩
noncomputable abbrev aM:Px:=⟨fun x=>p.d x<q.d x,.le (.ad p.c (.k 1)) q.c,fun x=>by rw[p.ok,q.ok];rfl⟩
noncomputable abbrev aS:Px:=⟨fun x=>p.d x=q.d x,.im (.im (.le p.c q.c) (.im (.le q.c p.c) .fl)) .fl,fun x=>by rw[p.ok,q.ok];exact S2⟩
noncomputable abbrev ae:Px:=⟨fun x=>a.d x≤b.d x,.le a.c b.c,fun x=>Int.ofNat_le.symm.trans ((ai (az a) (az b)).ok x)⟩
noncomputable abbrev ak:Px:=⟨fun x=>a.d x<b.d x,.le (.ad a.c (.k 1)) b.c,fun x=>Int.ofNat_lt.symm.trans ((aM (az a) (az b)).ok x)⟩
noncomputable abbrev ax:Px:=⟨fun x=>a.d x=b.d x,(aS (az a) (az b)).c,fun x=>Int.ofNat_inj.symm.trans ((aS (az a) (az b)).ok x)⟩
end
section
variable(p q:Px)
noncomputable abbrev aa:Px:=⟨fun x=>p.d x→q.d x,.im p.c q.c,fun x=>imp_congr (p.ok x) (q.ok x)⟩
noncomputable abbrev Kh:Px:=⟨fun zz=>False,.fl,fun zz=>Iff.rfl⟩
noncomputable abbrev dH:Px:=⟨fun x=>¬p.d x,.im p.c .fl,fun x=>not_congr (p.ok x)⟩
noncomputable abbrev aT:Px:=⟨fun x=>p.d x∧q.d x,.im (.im p.c (.im q.c .fl)) .fl,fun x=>by rw[p.ok,q.ok];exact⟨fun h k=>k h.1 h.2,fun h=>Classical.byContradiction fun c=>h fun a b=>c ⟨a,b⟩⟩⟩
noncomputable abbrev lpo:Px:=⟨fun x=>p.d x∨q.d x,.im (.im p.c .fl) q.c,fun x=>by rw[p.ok,q.ok];exact⟨fun h k=>h.resolve_left k,fun h=>Classical.byCases (fun c:p.c.ev x=>.inl c) fun c=>.inr (h c)⟩⟩
end
noncomputable abbrev FV(a b:Nx):Px:=dH (ax a b)
noncomputable abbrev fH(a b:Zx):Px:=dH (aS a b)
noncomputable abbrev b6:Nx:=nk 0
noncomputable abbrev aC:Nx:=nk 1
noncomputable abbrev fb:Nx:=nk 10
noncomputable abbrev cy:Nx:=nk 100
noncomputable abbrev bw:Nx:=nk 1000
noncomputable abbrev aQ:Nx:=nk 1000000
noncomputable abbrev bq:Nx:=nk 16777216
noncomputable abbrev gU:Nx:=nk 2
noncomputable abbrev cm:Nx:=nk 3
noncomputable abbrev cR:Nx:=nk 300
noncomputable abbrev d7:Nx:=nk 64
noncomputable abbrev dX:Nx:=nk 900
noncomputable abbrev c7:Nx:=nk 9000
noncomputable abbrev ab:Nx:=nv 0
noncomputable abbrev af:Nx:=nv 1
noncomputable abbrev au:Nx:=nv 2
noncomputable abbrev aO:Nx:=nv 3
noncomputable abbrev dc:Nx:=nv 4
noncomputable abbrev FW:Nx:=nv 5
noncomputable abbrev S3:Nx:=nv 6
noncomputable abbrev aJ:Zx:=zk 0
noncomputable abbrev bV:Zx:=zk 1
noncomputable abbrev dj:Zx:=zk 100
noncomputable abbrev jQ:Zx:=zk 2
noncomputable abbrev dA:Zx:=zk 20
noncomputable abbrev aq:Zx:=zv 0
noncomputable abbrev aK:Zx:=zv 1
noncomputable abbrev cu:Zx:=zv 2
noncomputable abbrev fw:Zx:=zv 3
noncomputable abbrev kO:Zx:=zv 4
noncomputable abbrev FX:Zx:=zv 5
def S4(n:Nat)(l:List Int)(f:List Int→Prop):Prop:=n.rec (motive:=fun zz=>List Int→Prop) f (fun zz r l=>∀ {x:Int},r (x::l)) l
def S5(n:Nat)(l:List Nat)(f:List Nat→Prop):Prop:=n.rec (motive:=fun zz=>List Nat→Prop) f (fun zz r l=>∀ {x:Nat},r (x::l)) l
theorem Ki{f:List Int→Prop}(h:∀l,f l)(n:Nat):∀ {l:List Int},S4 n l f:=by
 induction n with
 |zero=>exact h _
 |succ n ih=>exact ih
theorem Kj{f:List Nat→Prop}(h:∀l,f l)(n:Nat):∀ {l:List Nat},S5 n l f:=by
 induction n with
 |zero=>exact h _
 |succ n ih=>exact ih
def LA(n m:Nat)(p:Px):Prop:=S5 n [] fun a=>S4 m [] fun b=>p.d ⟨a,b⟩
theorem ag(n m:Nat)(p:Px)(h:S1 n m p.c=true):LA n m p:=Kj (fun a=>Ki (fun b=>(p.ok ⟨a,b⟩).mpr (Kf h ⟨a,b⟩)) m) n
theorem o1:LA 3 0 (aa (ae af ab) (aa (ae (aj au ab) dX) (ae (aj au af) dX))):=@ag _ _ _ (by kd_p)
theorem o2:LA 3 0 (aa (ae af ab) (aa (ae (aj au (cY 16 ab)) c7) (ae (aj au (cY 16 af)) c7))):=@ag _ _ _ (by kd_p)
theorem o6:LA 2 0 (aa (ae (aj af (cY 16 (aj ab aC))) c7) (ae (aj (aj af cm) (cY 16 ab)) c7)):=@ag _ _ _ (by kd_p)
theorem XT:∀ {i0 i1:Int},i1<i0→(i0-i1-(1:Int))/(1:Int)+(1:Int)=(↑(i0-i1).toNat:Int):=by first|lia|omega
theorem FY:LA 2 0 (aa (ak ab af) (ak (bb af (aj ab aC)) (bb af ab))):=@ag _ _ _ (by kd_p)
theorem OT:LA 2 0 (aa (ae af ab) (aa (dH (ak af ab)) (ax af ab))):=@ag _ _ _ (by kd_p)
theorem Ax:LA 2 0 (aa (ae af ab) (ae af (aj ab aC))):=@ag _ _ _ (by kd_p)
theorem OU:LA 2 0 (aa (ae (aj af aC) ab) (ae af ab)):=@ag _ _ _ (by kd_p)
theorem S6:LA 3 1 (aa (ai (cH (az au)) aq) (aa (ak au (nk (2 ^ 62))) (aa (ax au af) (aa (ax ab au) (ai (cH (zk (2 ^ 63))) aq))))):=@ag _ _ _ (by kd_p)
theorem S7:LA 0 1 (aa (dH (aM aq aJ)) (ai aJ aq)):=@ag _ _ _ (by kd_p)
theorem S8:LA 2 1 (aa (ak af (nk (2 ^ 62))) (aa (ax af ab) (aa (ak (dz aq) af) (aM aq (zk (2 ^ 63)))))):=@ag _ _ _ (by kd_p)
theorem OV:LA 2 0 (aa (dH (ak ab af)) (ae af ab)):=@ag _ _ _ (by kd_p)
theorem OW:LA 1 0 (aa (ak ab (nk (2 ^ 62))) (aM (az ab) (zk 9223372036854775808))):=@ag _ _ _ (by kd_p)
theorem S9:LA 2 0 (aa (ax (bb af ab) b6) (ae af ab)):=@ag _ _ _ (by kd_p)
theorem OX:LA 2 0 (aa (ae ab af) (aa (dH (ak ab af)) (ae af ab))):=@ag _ _ _ (by kd_p)
theorem Ta:LA 3 0 (aa (ae au af) (aa (ax (bb af au) (aj ab aC)) (ak au af))):=@ag _ _ _ (by kd_p)
theorem FZ:LA 2 0 (aa (ae af ab) (ae (aj af aC) (aj ab aC))):=@ag _ _ _ (by kd_p)
theorem F9:LA 2 0 (aa (ak af ab) (ae (aj af aC) ab)):=@ag _ _ _ (by kd_p)
theorem XU:∀ {n0 n1:Nat},((↑n0:Int)+(↑n1:Int))/(2:Int)=(↑((n0+n1)/(2:Nat)):Int):=by first|lia|omega
theorem XW:∀ {n0 n1 n2:Nat},n1≤n2→n0<n1→(n0+n1)/(2:Nat)<n2:=by first|lia|omega
theorem Tb:∀ {n0 n1:Nat},n0<n1→n0≤(n0+n1)/(2:Nat):=by first|lia|omega
theorem OY:∀ {n0 n1:Nat},n0<n1→(n0+n1)/(2:Nat)<n1:=by first|lia|omega
theorem Ay:LA 1 0 (aa (ae ab (nk 100000)) (ae ab aQ)):=@ag _ _ _ (by kd_p)
theorem xt:LA 1 0 (dH (aM (az ab) aJ)):=@ag _ _ _ (by kd_p)
theorem Tc:LA 3 0 (aa (ae au (nk 100000)) (aa (ax ab af) (ai (cH (az au)) (az af)))):=@ag _ _ _ (by kd_p)
theorem Td:LA 1 0 (aa (aM aJ (az ab)) (ak b6 ab)):=@ag _ _ _ (by kd_p)
theorem MB:LA 0 1 (aa (ai (zk (-1000000)) aq) (aa (ai aq (zk 1000000)) (ai (zk (-4611686018427387904)) aq))):=@ag _ _ _ (by kd_p)
theorem MC:LA 0 1 (aa (ai (zk (-1000000)) aq) (aa (ai aq (zk 1000000)) (aM aq (zk 4611686018427387904)))):=@ag _ _ _ (by kd_p)
theorem MD:LA 1 0 (ai (zk (-1000000)) (az ab)):=@ag _ _ _ (by kd_p)
theorem Te:∀ {n0 n1:Nat} {i2:Int},n1=(6:Nat)→i2=(↑(n0%(6:Nat)):Int)→n0%(6:Nat)<n1:=by first|lia|omega
theorem Tf:∀ {n0 n1:Nat} {i2:Int},n1=(6:Nat)→i2=(↑(n0%(6:Nat)):Int)→(↑n0:Int)%(6:Int)<(↑n1:Int):=by first|lia|omega
theorem Th:∀ {n0 n1:Nat} {i2:Int},i2=(↑(n1%(6:Nat)):Int) → -(↑n0:Int)≤(↑(n1%(6:Nat)):Int):=by first|lia|omega
theorem Ga:∀ {n0 n1 n2:Nat} {i3:Int},n2≤(60:Nat)→n1<n2→i3=(↑(n1%(6:Nat)):Int) → -(↑n0:Int)≤(↑n1:Int):=by first|lia|omega
theorem Gb:LA 1 0 (aa (ae ab cy) (ae ab aQ)):=@ag _ _ _ (by kd_p)
theorem ME:LA 3 0 (aa (ae ab cy) (aa (ak af ab) (ai (cH (az au)) (az af)))):=@ag _ _ _ (by kd_p)
theorem Gd:LA 3 0 (aa (ae af cy) (aa (ak ab af) (aa (ae au (aj cy (cY 3 ab))) (ae au aQ)))):=@ag _ _ _ (by kd_p)
theorem Ti:∀ {n0:Nat} {i1:Int} {n2:Nat},(i1+(3:Int)*(↑n2:Int))%(8:Int)<(8:Int)→(i1+(3:Int)*(↑n2:Int))%(8:Int)=(↑n0:Int)→n0<(8:Nat):=by first|lia|omega
theorem td:LA 1 0 (aa (ae ab bw) (ae ab aQ)):=@ag _ _ _ (by kd_p)
theorem Ge:LA 1 0 (ax (bb (aj ab aC) ab) aC):=@ag _ _ _ (by kd_p)
theorem Cw:LA 2 0 (aa (ae (aj af aC) ab) (ak af ab)):=@ag _ _ _ (by kd_p)
theorem Cy:LA 1 0 (aa (ae ab cR) (ae ab aQ)):=@ag _ _ _ (by kd_p)
theorem MF:LA 2 0 (aa (dH (ax (aj af aC) ab)) (dH (aS (bh (az af) bV) (az ab)))):=@ag _ _ _ (by kd_p)
theorem MG:∀ {n0 n1:Nat},n0<n1→¬n0+(1:Nat)=n1→n0<(n0+n1)/(2:Nat):=by first|lia|omega
theorem MH:LA 2 0 (aa (ak ab af) (aS (bR (az af) (az ab)) (az (bb af ab)))):=@ag _ _ _ (by kd_p)
theorem MI:LA 2 0 (aa (ak ab af) (aa (aS (bR (az af) (az ab)) (az (bb af ab))) (aM (cH (az (nk 400))) (az (bb af ab))))):=@ag _ _ _ (by kd_p)
theorem MJ:LA 4 0 (aa (ae af cR) (aa (ae ab af) (aa (ak aO ab) (aa (aS (bR (az aO) (az au)) (az (bb aO au))) (aM (az (bb aO au)) (az (nk 400))))))):=@ag _ _ _ (by kd_p)
theorem MK:LA 1 0 (aa (ae ab (nk 5000)) (aM (cH (az (nk 5001))) (az ab))):=@ag _ _ _ (by kd_p)
theorem ML:LA 1 0 (aa (ae ab (nk 5000)) (aM (az ab) (az (nk 5001)))):=@ag _ _ _ (by kd_p)
theorem MM:LA 3 0 (aa (ak ab au) (aa (ak ab af) (aa (ak af au) (aa (aS (bR (az af) (az ab)) (az (bb af ab))) (ak (bb au af) (bb au ab)))))):=@ag _ _ _ (by kd_p)
theorem MN:LA 4 0 (aa (ae af cR) (aa (ae ab af) (aa (ak aO ab) (aa (aS (bR (az aO) (az au)) (az (bb aO au))) (ae (bb aO au) cR))))):=@ag _ _ _ (by kd_p)
theorem Gf:LA 3 0 (aa (ae ab af) (aa (ak au ab) (ae au af))):=@ag _ _ _ (by kd_p)
theorem MO:LA 3 0 (aa (ak af ab) (aa (ak au ab) (aa (aS (bR (az au) (az af)) (az (bb au af))) (ak (bb au af) (bb ab af))))):=@ag _ _ _ (by kd_p)
theorem MP:LA 5 0 (aa (ae (bb af ab) (aj au aC)) (aa (ak (bb dc aO) (bb af ab)) (ae (bb dc aO) au))):=@ag _ _ _ (by kd_p)
theorem yR:LA 0 1 (aa (aM aJ aq) (fH aq aJ)):=@ag _ _ _ (by kd_p)
theorem MQ:LA 2 0 (aa (ax ab af) (aa (ae af (nk 4000)) (aa (ak b6 af) (ae af (nk 5000))))):=@ag _ _ _ (by kd_p)
theorem MR:LA 1 0 (aa (ae (nk 302) ab) (ae (nk 301) ab)):=@ag _ _ _ (by kd_p)
theorem MS:LA 3 0 (aa (ak b6 au) (aa (ak af ab) (fH (az au) aJ))):=@ag _ _ _ (by kd_p)
theorem te:LA 0 1 (aa (aM aJ aq) (ai aJ aq)):=@ag _ _ _ (by kd_p)
theorem MT:LA 0 4 (aa (aM cu fw) (aa (aS aK (bh (bR (bR fw cu) bV) aq)) (ai aJ (bR (bR fw cu) bV)))):=@ag _ _ _ (by kd_p)
theorem MU:LA 0 2 (aa (ai aJ aq) (aM (bR (bR aK aq) bV) aK)):=@ag _ _ _ (by kd_p)
theorem MV:LA 0 5 (aa (aM aJ kO) (aa (aT (aS (bR (cH fw) bV) cu) (aS (bh kO (bR (cH aK) bV)) aq)) (ai aJ kO))):=@ag _ _ _ (by kd_p)
theorem yS:LA 0 1 (aa (fH aq aJ) (aa (dH (aM aJ aq)) (aM aq aJ))):=@ag _ _ _ (by kd_p)
theorem Tj:∀ {n0 n1 n2:Nat},n2<n1→n0≤(n2+n1)/(2:Nat)→n0≤n1:=by first|lia|omega
theorem Tn:∀ {n0 n1:Nat},n0<n1→(n0+n1)/(2:Nat)+(1:Nat)≤n1:=by first|lia|omega
theorem To:∀ {n0 n1 n2:Nat},n0<n2→(n0+n2)/(2:Nat)+(1:Nat)≤n1→n0≤n1:=by first|lia|omega
theorem MW:LA 1 0 (aa (ae ab bw) (ae ab (nk 100000))):=@ag _ _ _ (by kd_p)
theorem MX:LA 2 0 (aa (dH (ax af ab)) (dH (aS (az af) (az ab)))):=@ag _ _ _ (by kd_p)
theorem MY:LA 2 0 (aa (ae af ab) (aa (dH (ax af ab)) (ak af ab))):=@ag _ _ _ (by kd_p)
theorem Gg:LA 2 0 (ae af (aj af ab)):=@ag _ _ _ (by kd_p)
theorem MZ:LA 1 0 (aa (ae ab cy) (ae ab bw)):=@ag _ _ _ (by kd_p)
theorem Gh:LA 1 0 (aa (ae ab cm) (ae (aj ab aC) aQ)):=@ag _ _ _ (by kd_p)
theorem Gi:LA 0 1 (aa (aT (ai aJ aq) (ai aq dj)) (ai (cH (zk (2 ^ 63))) aq)):=@ag _ _ _ (by kd_p)
theorem Gj:LA 0 1 (aa (aT (ai aJ aq) (ai aq dj)) (aM aq (zk (2 ^ 63)))):=@ag _ _ _ (by kd_p)
theorem Gk:LA 0 1 (aa (aT (ai aJ aq) (ai aq dj)) (ai aq (zk 16777216))):=@ag _ _ _ (by kd_p)
theorem Gl:LA 2 0 (aa (ae ab cy) (aa (ae af ab) (ae af cy))):=@ag _ _ _ (by kd_p)
theorem M0:LA 1 0 (aS (az ab) (bR (az (aj ab aC)) bV)):=@ag _ _ _ (by kd_p)
theorem M1:LA 4 0 (aa (ae (aj au aC) aO) (aa (ax (aj au aC) af) (aa (ax au ab) (ax (bb (bb aO aC) au) (aj (bb aO (aj au aC)) b6))))):=@ag _ _ _ (by kd_p)
theorem M3:LA 4 0 (aa (ae (aj au aC) aO) (aa (ax (aj au aC) af) (aa (ax au ab) (ax (bb aO au) (aj (bb aO (aj au aC)) aC))))):=@ag _ _ _ (by kd_p)
theorem M4:LA 4 0 (aa (ae (aj aO aC) au) (aa (ax (aj aO aC) af) (aa (ax aO ab) (ae aO au)))):=@ag _ _ _ (by kd_p)
theorem yT:LA 2 0 (aa (ae af (aj ab aC)) (ae af (aj (aj ab aC) aC))):=@ag _ _ _ (by kd_p)
theorem M5:LA 2 0 (aa (ae ab bw) (aa (ae af ab) (ae af aQ))):=@ag _ _ _ (by kd_p)
theorem Gm:LA 2 0 (aa (ae ab bw) (aa (ae af ab) (ae af bw))):=@ag _ _ _ (by kd_p)
theorem Gn:LA 2 0 (aa (ax (jP af ab) af) (ae af ab)):=@ag _ _ _ (by kd_p)
theorem M6:LA 1 0 (aa (ae ab (nk 5000)) (ae ab aQ)):=@ag _ _ _ (by kd_p)
theorem Gp:LA 1 0 (aa (ae ab (nk 2000)) (ae ab aQ)):=@ag _ _ _ (by kd_p)
theorem M7:LA 2 0 (aa (dH (ae ab af)) (ak af ab)):=@ag _ _ _ (by kd_p)
theorem M8:LA 4 0 (aa (aT (ae aO (aj (aj (aj au aC) af) aC)) (ae ab (aj (aj au aC) af))) (aT (ae aO (aj (aj au (aj af aC)) aC)) (ae ab (aj au (aj af aC))))):=@ag _ _ _ (by kd_p)
theorem M9:LA 3 0 (aa (ae af ab) (aa (ae au af) (ae (aj au (aj (bb af au) aC)) (aj (aj ab aC) aC)))):=@ag _ _ _ (by kd_p)
theorem Na:LA 4 0 (aa (ae au dX) (aa (ax af au) (aa (ae aO (aj ab aC)) (aa (ak ab af) (ae aO (nk 2000)))))):=@ag _ _ _ (by kd_p)
theorem Nb:LA 2 0 (aa (ae (aj af (aj ab aC)) (nk 1001)) (ae (aj af ab) (nk 1001))):=@ag _ _ _ (by kd_p)
theorem Gq:LA 1 0 (aa (ae ab (nk 950)) (ae ab aQ)):=@ag _ _ _ (by kd_p)
theorem Nc:LA 1 1 (aa (aT (ai aJ aq) (ai aq (az ab))) (aT (ai aJ aq) (ai aq (az (aj ab aC))))):=@ag _ _ _ (by kd_p)
theorem Nd:LA 3 0 (aa (ae au af) (ae au (aj (aj af aC) ab))):=@ag _ _ _ (by kd_p)
theorem Nf:LA 1 0 (ae aC (aj gU ab)):=@ag _ _ _ (by kd_p)
theorem Ng:LA 1 1 (aa (aT (ai aJ aq) (ai aq (zk 950))) (aa (ak ab (dz aq)) (ae (aj gU ab) bw))):=@ag _ _ _ (by kd_p)
theorem Nh:∀ {n0:Nat},n0<(9:Nat)→n0/(3:Nat)<(3:Nat):=by first|lia|omega
theorem Ni:∀ {n0:Nat},n0%(3:Nat)<(3:Nat):=by first|lia|omega
theorem Nj:LA 1 0 (aS (bR (az (aj ab aC)) bV) (az ab)):=@ag _ _ _ (by kd_p)
theorem vU:LA 2 0 (ai (cH (az af)) (az ab)):=@ag _ _ _ (by kd_p)
theorem Nk:∀ {n0 n1:Nat} {i2 i3:Int},n1<(9:Nat)→i2=(↑(n1/(3:Nat)):Int)→i3=(↑(n1%(3:Nat)):Int) → -(↑n0:Int)≤(↑(n1/(3:Nat)):Int):=by first|lia|omega
theorem Gr:LA 2 0 (ai (cH (az af)) (az (aj ab aC))):=@ag _ _ _ (by kd_p)
theorem Nl:∀ {n0 n1:Nat} {i2 i3:Int},i2=(↑(n1/(3:Nat)):Int)→i3=(↑(n1%(3:Nat)):Int) → -(↑n0:Int)≤(↑(n1%(3:Nat)):Int):=by first|lia|omega
theorem vV:LA 1 0 (aa (ae ab fb) (ae ab aQ)):=@ag _ _ _ (by kd_p)
theorem Nm:LA 2 0 (aa (lpo (ax ab aC) (ax ab gU)) (aa (ax af ab) (ae af aQ))):=@ag _ _ _ (by kd_p)
theorem Nn:LA 1 0 (aa (ae ab cy) (ae ab bq)):=@ag _ _ _ (by kd_p)
theorem Np:LA 1 0 (aa (ae aC ab) (aa (ak ab cm) (lpo (ax ab aC) (ax ab gU)))):=@ag _ _ _ (by kd_p)
theorem Nq:LA 0 1 (aa (aT (ai aJ aq) (ai aq jQ)) (ai aq dA)):=@ag _ _ _ (by kd_p)
theorem Nr:LA 0 2 (aa (aT (ai aJ aK) (ai aK jQ)) (aa (aT (ai bV aq) (ai aq (zk 4))) (ai (bh aK aq) dA))):=@ag _ _ _ (by kd_p)
theorem Nt:LA 1 0 (aa (ae ab fb) (ae ab cy)):=@ag _ _ _ (by kd_p)
theorem Nu:LA 1 0 (aa (ax ab cm) (ae ab fb)):=@ag _ _ _ (by kd_p)
theorem Nv:LA 1 0 (aa (ae ab (nk 99)) (ae (aj ab aC) aQ)):=@ag _ _ _ (by kd_p)
theorem Gs:LA 2 0 (aa (ae ab (nk 5)) (aa (ak b6 ab) (aa (ak af (bb ab aC)) (ak (aj af aC) ab)))):=@ag _ _ _ (by kd_p)
theorem Nw:LA 2 0 (aa (ae ab (nk 5)) (aa (ak b6 ab) (aa (ak af (bb ab aC)) (ak af ab)))):=@ag _ _ _ (by kd_p)
theorem Ny:LA 2 0 (ax (aj (aj af aC) ab) (aj af (aj ab aC))):=@ag _ _ _ (by kd_p)
theorem Nz:LA 4 0 (aa (ax af aO) (aa (ax ab af) (aa (dH (ak au aO)) (ae aO au)))):=@ag _ _ _ (by kd_p)
theorem NA:LA 3 0 (aa (ax af ab) (aa (ak au ab) (ak au af))):=@ag _ _ _ (by kd_p)
theorem Cz:LA 2 0 (aa (ae aC ab) (aa (ak ab d7) (aa (ax af ab) (ae af bq)))):=@ag _ _ _ (by kd_p)
theorem NB:LA 1 0 (aa (ak ab bw) (ae ab aQ)):=@ag _ _ _ (by kd_p)
theorem Gu:LA 1 0 (aa (ae (aj ab aC) cm) (ae (aj ab aC) aQ)):=@ag _ _ _ (by kd_p)
theorem NC:LA 0 2 (aS (bh (cH aK) (cH aq)) (cH (bh aK aq))):=@ag _ _ _ (by kd_p)
theorem ND:LA 1 0 (ax (dz (bh (az ab) jQ)) (aj ab gU)):=@ag _ _ _ (by kd_p)
theorem NF:LA 1 0 (ax (dz (bh (az ab) bV)) (aj ab aC)):=@ag _ _ _ (by kd_p)
theorem NG:LA 1 0 (ax (dz (az ab)) ab):=@ag _ _ _ (by kd_p)
theorem NH:LA 2 0 (aa (ak (aj af aC) ab) (ak af ab)):=@ag _ _ _ (by kd_p)
theorem Tp:∀ {i0:Int},(i0%(3:Int)).toNat<(3:Nat):=by first|lia|omega
theorem Tq:∀ {i0:Int},(i0/(3:Int)%(3:Int)).toNat<(3:Nat):=by first|lia|omega
theorem Tr:∀ {i0:Int},i0%(9:Int)<(4:Int)→(i0%(3:Int)).toNat+(3:Nat)*(i0/(3:Int)%(3:Int)).toNat<(4:Nat):=by first|lia|omega
theorem Tt:∀ {i0:Int},(↑(i0%(3:Int)).toNat:Int)=i0%(3:Int):=by first|lia|omega
theorem Tu:∀ {i0:Int},(↑(i0/(3:Int)%(3:Int)).toNat:Int)=i0/(3:Int)%(3:Int):=by first|lia|omega
theorem Tv:∀ {i0:Int},(i0%(5:Int)).toNat<(5:Nat):=by first|lia|omega
theorem Tw:∀ {i0:Int},(1:Int)+i0/(16:Int)%(2:Int)=(1:Int)∨(1:Int)+i0/(16:Int)%(2:Int)=(2:Int):=by first|lia|omega
theorem Tx:∀ {i0:Int},i0/(32:Int)%(3:Int)=(0:Int)∨i0/(32:Int)%(3:Int)=(1:Int)∨i0/(32:Int)%(3:Int)=(2:Int):=by first|lia|omega
theorem Tz:∀ {i0:Int},(0:Int)≤i0/(16:Int)%(2:Int)∧i0/(16:Int)%(2:Int)≤(1:Int):=by first|lia|omega
theorem NI:LA 0 1 (aa (aT (ai aJ aq) (ai aq bV)) (aM aJ (bh (zk 3) aq))):=@ag _ _ _ (by kd_p)
theorem TB:∀ {i0:Int},(0:Int)≤i0%(5:Int)∧i0%(5:Int)<(5:Int):=by first|lia|omega
theorem NJ:LA 0 1 (aa (aT (ai aJ aq) (aM aq (zk 5))) (aS aq (az (dz aq)))):=@ag _ _ _ (by kd_p)
theorem NK:LA 1 1 (aa (aT (ai aJ aq) (aM aq (zk 5))) (ai (cH (az ab)) aq)):=@ag _ _ _ (by kd_p)
theorem NL:LA 1 0 (aa (ae ab (nk 5)) (ak (gD (bh (az ab) bV)) (nk (2 ^ 10)))):=@ag _ _ _ (by kd_p)
theorem TF:∀ {i0:Int} {n1:Nat},(i0%(8:Int)+(3:Int)*(↑n1:Int))%(8:Int)=(i0+(3:Int)*(↑n1:Int))%(8:Int):=by first|lia|omega
theorem TG:∀ {i0:Int},(↑(i0%(8:Int)).toNat:Int)=i0%(8:Int):=by first|lia|omega
theorem TH:∀ {i0:Int},(i0%(8:Int)).toNat<(8:Nat):=by first|lia|omega
theorem Gv:LA 1 0 (aa (ae ab fb) (ai (az ab) (az fb))):=@ag _ _ _ (by kd_p)
theorem NM:LA 1 0 (aa (ae ab cy) (ak ab (nk (2 ^ 62)))):=@ag _ _ _ (by kd_p)
theorem CB:LA 1 0 (aa (ak ab cm) (lpo (ax ab b6) (lpo (ax ab aC) (ax ab gU)))):=@ag _ _ _ (by kd_p)
theorem NN:LA 2 0 (aa (ak ab cm) (ai (cH (az af)) (az ab))):=@ag _ _ _ (by kd_p)
theorem NO:LA 1 0 (aa (lpo (ax ab (nk 91)) (lpo (ax ab (nk 122)) (lpo (ax ab (nk 118)) (ax ab (nk 93))))) (aa (lpo (ax ab (nk 60)) (lpo (ax ab (nk 63)) (lpo (ax ab (nk 127)) (lpo (ax ab (nk 130)) (lpo (ax ab (nk 69)) (lpo (ax ab (nk 68)) (lpo (ax ab (nk 113)) (lpo (ax ab (nk 112)) (lpo (ax ab (nk 102)) (ax ab (nk 105))))))))))) Kh)):=@ag _ _ _ (by kd_p)
theorem NP:LA 0 1 (aa (aT (ai aJ aq) (aM aq (zk 8))) (ai aq (zk 7))):=@ag _ _ _ (by kd_p)
theorem TJ:∀ {i0 i1:Int},(0:Int)<i1→(0:Int)≤i0→i0≤i1*(7:Int)→(0:Int)≤i0/(8:Int)∧i0/(8:Int)<i1:=by first|lia|omega
theorem NQ:LA 0 1 (aa (aM aq aJ) (ai aJ (cH aq))):=@ag _ _ _ (by kd_p)
theorem TK:∀ {i0 i1:Int},i1<(0:Int)→(0:Int)≤i0→i0 ≤ -i1*(7:Int) → -(i0/(8:Int))≤(0:Int)∧i1 < -(i0/(8:Int)):=by first|lia|omega
theorem NR:LA 5 0 (aa (ak au d7) (aa (ae af au) (aa (ax ab af) (aa (ak aO af) (aa (ak aO ab) (ai (cH (az dc)) (az aO))))))):=@ag _ _ _ (by kd_p)
theorem NS:LA 2 0 (aa (ak ab d7) (aa (ae af ab) (ae af cy))):=@ag _ _ _ (by kd_p)
theorem Gw:LA 1 0 (aa (ak ab d7) (ae ab (nk 100000))):=@ag _ _ _ (by kd_p)
theorem NT:LA 1 0 (aa (ak ab d7) (ae ab aQ)):=@ag _ _ _ (by kd_p)
theorem Gx:LA 0 2 (aS (bh aK (cH aq)) (bR aK aq)):=@ag _ _ _ (by kd_p)
theorem qa  {P1 P2 P3:Prop} {G:Prop} (h:P1∧P2∧P3) (k:P1→P2→P3→G):G:=by
 obtain⟨h1,h2,h3⟩:=h;exact k h1 h2 h3
theorem OZ{aE:Sort _}{P1:Prop}{P2:aE→Prop}{G:Prop}(h:P1∧∃a1,P2 a1)(k:P1→∀a1,P2 a1→G):G:=by
 obtain⟨h1,a1,h2⟩:=h;exact k h1 a1 h2
theorem aW{aE:Sort _}{P1 P2:aE→Prop}{G:Prop}(h:∃a1,P1 a1∧P2 a1)(k:∀a1,P1 a1→P2 a1→G):G:=by
 obtain⟨a1,h1,h2⟩:=h;exact k a1 h1 h2
theorem O0{aE aV:Sort _}{P1:aE→aV→Prop}{G:Prop}(h:∃a1 a2,P1 a1 a2)(k:∀a1 a2,P1 a1 a2→G):G:=by
 obtain⟨a1,a2,h1⟩:=h;exact k a1 a2 h1
theorem vW  {P1 P2 P3 P4:Prop} {G:Prop} (h:P1∧P2∧P3∧P4) (k:P1→P2→P3→P4→G):G:=by
 obtain⟨h1,h2,h3,h4⟩:=h;exact k h1 h2 h3 h4
theorem yU{aE:Sort _}{P1 P2:Prop}{P3:aE→Prop}{G:Prop}(h:P1∧P2∧∃a1,P3 a1)(k:P1→P2→∀a1,P3 a1→G):G:=by
 obtain⟨h1,h2,a1,h3⟩:=h;exact k h1 h2 a1 h3
theorem Gy{aE:Sort _}{P1:Prop}{P2 P3:aE→Prop}{G:Prop}(h:P1∧∃a1,P2 a1∧P3 a1)(k:P1→∀a1,P2 a1→P3 a1→G):G:=by
 obtain⟨h1,a1,h2,h3⟩:=h;exact k h1 a1 h2 h3
theorem gJ{aE:Sort _}{P1 P2 P3:aE→Prop}{G:Prop}(h:∃a1,P1 a1∧P2 a1∧P3 a1)(k:∀a1,P1 a1→P2 a1→P3 a1→G):G:=by
 obtain⟨a1,h1,h2,h3⟩:=h;exact k a1 h1 h2 h3
theorem jX{aE aV:Sort _}{P1 P2:aE→aV→Prop}{G:Prop}(h:∃a1 a2,P1 a1 a2∧P2 a1 a2)(k:∀a1 a2,P1 a1 a2→P2 a1 a2→G):G:=by
 obtain⟨a1,a2,h1,h2⟩:=h;exact k a1 a2 h1 h2
theorem Gz{aE aV dI:Sort _}{P1:aE→aV→dI→Prop}{G:Prop}(h:∃a1 a2 a3,P1 a1 a2 a3)(k:∀a1 a2 a3,P1 a1 a2 a3→G):G:=by
 obtain⟨a1,a2,a3,h1⟩:=h;exact k a1 a2 a3 h1
theorem O1  {P1 P2 P3 P4 P5:Prop} {G:Prop} (h:P1∧P2∧P3∧P4∧P5) (k:P1→P2→P3→P4→P5→G):G:=by
 obtain⟨h1,h2,h3,h4,h5⟩:=h;exact k h1 h2 h3 h4 h5
theorem GA{aE:Sort _}{P1 P2 P3:Prop}{P4:aE→Prop}{G:Prop}(h:P1∧P2∧P3∧∃a1,P4 a1)(k:P1→P2→P3→∀a1,P4 a1→G):G:=by
 obtain⟨h1,h2,h3,a1,h4⟩:=h;exact k h1 h2 h3 a1 h4
theorem eh{aE aV:Sort _}{P1:Prop}{P2 P3:aE→aV→Prop}{G:Prop}(h:P1∧∃a1 a2,P2 a1 a2∧P3 a1 a2)(k:P1→∀a1 a2,P2 a1 a2→P3 a1 a2→G):G:=by
 obtain⟨h1,a1,a2,h2,h3⟩:=h;exact k h1 a1 a2 h2 h3
theorem O2{aE:Sort _}{P1 P2 P3 P4:aE→Prop}{G:Prop}(h:∃a1,P1 a1∧P2 a1∧P3 a1∧P4 a1)(k:∀a1,P1 a1→P2 a1→P3 a1→P4 a1→G):G:=by
 obtain⟨a1,h1,h2,h3,h4⟩:=h;exact k a1 h1 h2 h3 h4
theorem oo{aE aV:Sort _}{P1 P2 P3:aE→aV→Prop}{G:Prop}(h:∃a1 a2,P1 a1 a2∧P2 a1 a2∧P3 a1 a2)(k:∀a1 a2,P1 a1 a2→P2 a1 a2→P3 a1 a2→G):G:=by
 obtain⟨a1,a2,h1,h2,h3⟩:=h;exact k a1 a2 h1 h2 h3
theorem oq{aE aV dI:Sort _}{P1 P2:aE→aV→dI→Prop}{G:Prop}(h:∃a1 a2 a3,P1 a1 a2 a3∧P2 a1 a2 a3)(k:∀a1 a2 a3,P1 a1 a2 a3→P2 a1 a2 a3→G):G:=by
 obtain⟨a1,a2,a3,h1,h2⟩:=h;exact k a1 a2 a3 h1 h2
theorem sJ  {P1 P2 P3 P4 P5 P6:Prop} {G:Prop} (h:P1∧P2∧P3∧P4∧P5∧P6) (k:P1→P2→P3→P4→P5→P6→G):G:=by
 obtain⟨h1,h2,h3,h4,h5,h6⟩:=h;exact k h1 h2 h3 h4 h5 h6
theorem sN{aE:Sort _}{P1 P2 P3 P4:Prop}{P5:aE→Prop}{G:Prop}(h:P1∧P2∧P3∧P4∧∃a1,P5 a1)(k:P1→P2→P3→P4→∀a1,P5 a1→G):G:=by
 obtain⟨h1,h2,h3,h4,a1,h5⟩:=h;exact k h1 h2 h3 h4 a1 h5
theorem Kk{aE aV:Sort _}{P1:Prop}{P2 P3 P4:aE→aV→Prop}{G:Prop}(h:P1∧∃a1 a2,P2 a1 a2∧P3 a1 a2∧P4 a1 a2)(k:P1→∀a1 a2,P2 a1 a2→P3 a1 a2→P4 a1 a2→G):G:=by
 obtain⟨h1,a1,a2,h2,h3,h4⟩:=h;exact k h1 a1 a2 h2 h3 h4
theorem CC{aE:Sort _}{P1 P2 P3 P4 P5:aE→Prop}{G:Prop}(h:∃a1,P1 a1∧P2 a1∧P3 a1∧P4 a1∧P5 a1)(k:∀a1,P1 a1→P2 a1→P3 a1→P4 a1→P5 a1→G):G:=by
 obtain⟨a1,h1,h2,h3,h4,h5⟩:=h;exact k a1 h1 h2 h3 h4 h5
theorem Kl{aE aV:Sort _}{P1 P2 P3 P4:aE→aV→Prop}{G:Prop}(h:∃a1 a2,P1 a1 a2∧P2 a1 a2∧P3 a1 a2∧P4 a1 a2)(k:∀a1 a2,P1 a1 a2→P2 a1 a2→P3 a1 a2→P4 a1 a2→G):G:=by
 obtain⟨a1,a2,h1,h2,h3,h4⟩:=h;exact k a1 a2 h1 h2 h3 h4
theorem pb{aE aV dI:Sort _}{P1 P2 P3:aE→aV→dI→Prop}{G:Prop}(h:∃a1 a2 a3,P1 a1 a2 a3∧P2 a1 a2 a3∧P3 a1 a2 a3)(k:∀a1 a2 a3,P1 a1 a2 a3→P2 a1 a2 a3→P3 a1 a2 a3→G):G:=by
 obtain⟨a1,a2,a3,h1,h2,h3⟩:=h;exact k a1 a2 a3 h1 h2 h3
theorem CD{aE aV dI fy:Sort _}{P1 P2:aE→aV→dI→fy→Prop}{G:Prop}(h:∃a1 a2 a3 a4,P1 a1 a2 a3 a4∧P2 a1 a2 a3 a4)(k:∀a1 a2 a3 a4,P1 a1 a2 a3 a4→P2 a1 a2 a3 a4→G):G:=by
 obtain⟨a1,a2,a3,a4,h1,h2⟩:=h;exact k a1 a2 a3 a4 h1 h2
theorem CE{aE aV dI fy iN:Sort _}{P1:aE→aV→dI→fy→iN→Prop}{G:Prop}(h:∃a1 a2 a3 a4 a5,P1 a1 a2 a3 a4 a5)(k:∀a1 a2 a3 a4 a5,P1 a1 a2 a3 a4 a5→G):G:=by
 obtain⟨a1,a2,a3,a4,a5,h1⟩:=h;exact k a1 a2 a3 a4 a5 h1
theorem GB{aE aV:Sort _}{P1 P2 P3:Prop}{P4 P5:aE→aV→Prop}{G:Prop}(h:P1∧P2∧P3∧∃a1 a2,P4 a1 a2∧P5 a1 a2)(k:P1→P2→P3→∀a1 a2,P4 a1 a2→P5 a1 a2→G):G:=by
 obtain⟨h1,h2,h3,a1,a2,h4,h5⟩:=h;exact k h1 h2 h3 a1 a2 h4 h5
theorem mq{aE aV:Sort _}{P1 P2 P3 P4 P5:aE→aV→Prop}{G:Prop}(h:∃a1 a2,P1 a1 a2∧P2 a1 a2∧P3 a1 a2∧P4 a1 a2∧P5 a1 a2)(k:∀a1 a2,P1 a1 a2→P2 a1 a2→P3 a1 a2→P4 a1 a2→P5 a1 a2→G):G:=by
 obtain⟨a1,a2,h1,h2,h3,h4,h5⟩:=h;exact k a1 a2 h1 h2 h3 h4 h5
theorem br{aE aV dI:Sort _}{P1 P2 P3 P4:aE→aV→dI→Prop}{G:Prop}(h:∃a1 a2 a3,P1 a1 a2 a3∧P2 a1 a2 a3∧P3 a1 a2 a3∧P4 a1 a2 a3)(k:∀a1 a2 a3,P1 a1 a2 a3→P2 a1 a2 a3→P3 a1 a2 a3→P4 a1 a2 a3→G):G:=by
 obtain⟨a1,a2,a3,h1,h2,h3,h4⟩:=h;exact k a1 a2 a3 h1 h2 h3 h4
theorem GC{aE aV dI fy iN O3:Sort _}{P1:aE→aV→dI→fy→iN→O3→Prop}{G:Prop}(h:∃a1 a2 a3 a4 a5 a6,P1 a1 a2 a3 a4 a5 a6)(k:∀a1 a2 a3 a4 a5 a6,P1 a1 a2 a3 a4 a5 a6→G):G:=by
 obtain⟨a1,a2,a3,a4,a5,a6,h1⟩:=h;exact k a1 a2 a3 a4 a5 a6 h1
theorem DK  {P1 P2 P3 P4 P5 P6 P7 P8:Prop} {G:Prop} (h:P1∧P2∧P3∧P4∧P5∧P6∧P7∧P8) (k:P1→P2→P3→P4→P5→P6→P7→P8→G):G:=by
 obtain⟨h1,h2,h3,h4,h5,h6,h7,h8⟩:=h;exact k h1 h2 h3 h4 h5 h6 h7 h8
theorem cw{aE aV:Sort _}{P1 P2 P3 P4:Prop}{P5 P6:aE→aV→Prop}{G:Prop}(h:P1∧P2∧P3∧P4∧∃a1 a2,P5 a1 a2∧P6 a1 a2)(k:P1→P2→P3→P4→∀a1 a2,P5 a1 a2→P6 a1 a2→G):G:=by
 obtain⟨h1,h2,h3,h4,a1,a2,h5,h6⟩:=h;exact k h1 h2 h3 h4 a1 a2 h5 h6
theorem DL{aE aV:Sort _}{P1 P2 P3 P4 P5 P6:aE→aV→Prop}{G:Prop}(h:∃a1 a2,P1 a1 a2∧P2 a1 a2∧P3 a1 a2∧P4 a1 a2∧P5 a1 a2∧P6 a1 a2)(k:∀a1 a2,P1 a1 a2→P2 a1 a2→P3 a1 a2→P4 a1 a2→P5 a1 a2→P6 a1 a2→G):G:=by
 obtain⟨a1,a2,h1,h2,h3,h4,h5,h6⟩:=h;exact k a1 a2 h1 h2 h3 h4 h5 h6
theorem qb{aE aV dI fy:Sort _}{P1 P2 P3 P4:aE→aV→dI→fy→Prop}{G:Prop}(h:∃a1 a2 a3 a4,P1 a1 a2 a3 a4∧P2 a1 a2 a3 a4∧P3 a1 a2 a3 a4∧P4 a1 a2 a3 a4)(k:∀a1 a2 a3 a4,P1 a1 a2 a3 a4→P2 a1 a2 a3 a4→P3 a1 a2 a3 a4→P4 a1 a2 a3 a4→G):G:=by
 obtain⟨a1,a2,a3,a4,h1,h2,h3,h4⟩:=h;exact k a1 a2 a3 a4 h1 h2 h3 h4
theorem Az  {P1 P2 P3 P4 P5 P6 P7 P8 P9:Prop} {G:Prop} (h:P1∧P2∧P3∧P4∧P5∧P6∧P7∧P8∧P9) (k:P1→P2→P3→P4→P5→P6→P7→P8→P9→G):G:=by
 obtain⟨h1,h2,h3,h4,h5,h6,h7,h8,h9⟩:=h;exact k h1 h2 h3 h4 h5 h6 h7 h8 h9
theorem tf{aE aV dI fy iN:Sort _}{P1:Prop}{P2 P3 P4:aE→aV→dI→fy→iN→Prop}{G:Prop}(h:P1∧∃a1 a2 a3 a4 a5,P2 a1 a2 a3 a4 a5∧P3 a1 a2 a3 a4 a5∧P4 a1 a2 a3 a4 a5)(k:P1→∀a1 a2 a3 a4 a5,P2 a1 a2 a3 a4 a5→P3 a1 a2 a3 a4 a5→P4 a1 a2 a3 a4 a5→G):G:=by
 obtain⟨h1,a1,a2,a3,a4,a5,h2,h3,h4⟩:=h;exact k h1 a1 a2 a3 a4 a5 h2 h3 h4
theorem th{aE aV dI fy:Sort _}{P1 P2 P3 P4 P5:aE→aV→dI→fy→Prop}{G:Prop}(h:∃a1 a2 a3 a4,P1 a1 a2 a3 a4∧P2 a1 a2 a3 a4∧P3 a1 a2 a3 a4∧P4 a1 a2 a3 a4∧P5 a1 a2 a3 a4)(k:∀a1 a2 a3 a4,P1 a1 a2 a3 a4→P2 a1 a2 a3 a4→P3 a1 a2 a3 a4→P4 a1 a2 a3 a4→P5 a1 a2 a3 a4→G):G:=by
 obtain⟨a1,a2,a3,a4,h1,h2,h3,h4,h5⟩:=h;exact k a1 a2 a3 a4 h1 h2 h3 h4 h5
theorem tj{aE aV dI fy iN:Sort _}{P1 P2 P3 P4:aE→aV→dI→fy→iN→Prop}{G:Prop}(h:∃a1 a2 a3 a4 a5,P1 a1 a2 a3 a4 a5∧P2 a1 a2 a3 a4 a5∧P3 a1 a2 a3 a4 a5∧P4 a1 a2 a3 a4 a5)(k:∀a1 a2 a3 a4 a5,P1 a1 a2 a3 a4 a5→P2 a1 a2 a3 a4 a5→P3 a1 a2 a3 a4 a5→P4 a1 a2 a3 a4 a5→G):G:=by
 obtain⟨a1,a2,a3,a4,a5,h1,h2,h3,h4⟩:=h;exact k a1 a2 a3 a4 a5 h1 h2 h3 h4
theorem yV  {P1 P2 P3 P4 P5 P6 P7 P8 P9 tm:Prop} {G:Prop} (h:P1∧P2∧P3∧P4∧P5∧P6∧P7∧P8∧P9∧tm) (k:P1→P2→P3→P4→P5→P6→P7→P8→P9→tm→G):G:=by
 obtain⟨h1,h2,h3,h4,h5,h6,h7,h8,h9,vm⟩:=h;exact k h1 h2 h3 h4 h5 h6 h7 h8 h9 vm
theorem yW{aE aV dI:Sort _}{P1:Prop}{P2:aE→Prop}{P3 P4 P5 P6 P7:aE→aV→dI→Prop}{G:Prop}(h:P1∧∃a1,P2 a1∧∃a2 a3,P3 a1 a2 a3∧P4 a1 a2 a3∧P5 a1 a2 a3∧P6 a1 a2 a3∧P7 a1 a2 a3)(k:P1→∀a1,P2 a1→∀a2 a3,P3 a1 a2 a3→P4 a1 a2 a3→P5 a1 a2 a3→P6 a1 a2 a3→P7 a1 a2 a3→G):G:=by
 obtain⟨h1,a1,h2,a2,a3,h3,h4,h5,h6,h7⟩:=h;exact k h1 a1 h2 a2 a3 h3 h4 h5 h6 h7
theorem qX{aE:Sort _}{P1 P2 P3 P4 P5 P6 P7 P8 P9:aE→Prop}{G:Prop}(h:∃a1,P1 a1∧P2 a1∧P3 a1∧P4 a1∧P5 a1∧P6 a1∧P7 a1∧P8 a1∧P9 a1)(k:∀a1,P1 a1→P2 a1→P3 a1→P4 a1→P5 a1→P6 a1→P7 a1→P8 a1→P9 a1→G):G:=by
 obtain⟨a1,h1,h2,h3,h4,h5,h6,h7,h8,h9⟩:=h;exact k a1 h1 h2 h3 h4 h5 h6 h7 h8 h9
theorem pe{aE aV dI:Sort _}{P1 P2 P3 P4 P5 P6 P7 P8:aE→aV→dI→Prop}{G:Prop}(h:∃a1 a2 a3,P1 a1 a2 a3∧P2 a1 a2 a3∧P3 a1 a2 a3∧P4 a1 a2 a3∧P5 a1 a2 a3∧P6 a1 a2 a3∧P7 a1 a2 a3∧P8 a1 a2 a3)(k:∀a1 a2 a3,P1 a1 a2 a3→P2 a1 a2 a3→P3 a1 a2 a3→P4 a1 a2 a3→P5 a1 a2 a3→P6 a1 a2 a3→P7 a1 a2 a3→P8 a1 a2 a3→G):G:=by
 obtain⟨a1,a2,a3,h1,h2,h3,h4,h5,h6,h7,h8⟩:=h;exact k a1 a2 a3 h1 h2 h3 h4 h5 h6 h7 h8
theorem nY{aE aV:Sort _}{P1 P2 P3 P4 P5 P6 P7 P8 P9 tm:aE→aV→Prop}{G:Prop}(h:∃a1 a2,P1 a1 a2∧P2 a1 a2∧P3 a1 a2∧P4 a1 a2∧P5 a1 a2∧P6 a1 a2∧P7 a1 a2∧P8 a1 a2∧P9 a1 a2∧tm a1 a2)(k:∀a1 a2,P1 a1 a2→P2 a1 a2→P3 a1 a2→P4 a1 a2→P5 a1 a2→P6 a1 a2→P7 a1 a2→P8 a1 a2→P9 a1 a2→tm a1 a2→G):G:=by
 obtain⟨a1,a2,h1,h2,h3,h4,h5,h6,h7,h8,h9,vm⟩:=h;exact k a1 a2 h1 h2 h3 h4 h5 h6 h7 h8 h9 vm
theorem vn{aE aV dI fy iN:Sort _}{P1 P2 P3 P4 P5 P6 P7:aE→aV→dI→fy→iN→Prop}{G:Prop}(h:∃a1 a2 a3 a4 a5,P1 a1 a2 a3 a4 a5∧P2 a1 a2 a3 a4 a5∧P3 a1 a2 a3 a4 a5∧P4 a1 a2 a3 a4 a5∧P5 a1 a2 a3 a4 a5∧P6 a1 a2 a3 a4 a5∧P7 a1 a2 a3 a4 a5)(k:∀a1 a2 a3 a4 a5,P1 a1 a2 a3 a4 a5→P2 a1 a2 a3 a4 a5→P3 a1 a2 a3 a4 a5→P4 a1 a2 a3 a4 a5→P5 a1 a2 a3 a4 a5→P6 a1 a2 a3 a4 a5→P7 a1 a2 a3 a4 a5→G):G:=by
 obtain⟨a1,a2,a3,a4,a5,h1,h2,h3,h4,h5,h6,h7⟩:=h;exact k a1 a2 a3 a4 a5 h1 h2 h3 h4 h5 h6 h7
theorem ko{aE aV dI fy iN O3 DM DN:Sort _}{P1 P2 P3 P4 P5 P6 P7 P8 P9 tm Km DO TL TM TN:aE→aV→dI→fy→iN→O3→DM→DN→Prop}{G:Prop}(h:∃a1 a2 a3 a4 a5 a6 a7 a8,P1 a1 a2 a3 a4 a5 a6 a7 a8∧P2 a1 a2 a3 a4 a5 a6 a7 a8∧P3 a1 a2 a3 a4 a5 a6 a7 a8∧P4 a1 a2 a3 a4 a5 a6 a7 a8∧P5 a1 a2 a3 a4 a5 a6 a7 a8∧P6 a1 a2 a3 a4 a5 a6 a7 a8∧P7 a1 a2 a3 a4 a5 a6 a7 a8∧P8 a1 a2 a3 a4 a5 a6 a7 a8∧P9 a1 a2 a3 a4 a5 a6 a7 a8∧tm a1 a2 a3 a4 a5 a6 a7 a8∧Km a1 a2 a3 a4 a5 a6 a7 a8∧DO a1 a2 a3 a4 a5 a6 a7 a8∧TL a1 a2 a3 a4 a5 a6 a7 a8∧TM a1 a2 a3 a4 a5 a6 a7 a8∧TN a1 a2 a3 a4 a5 a6 a7 a8)(k:∀a1 a2 a3 a4 a5 a6 a7 a8,P1 a1 a2 a3 a4 a5 a6 a7 a8→P2 a1 a2 a3 a4 a5 a6 a7 a8→P3 a1 a2 a3 a4 a5 a6 a7 a8→P4 a1 a2 a3 a4 a5 a6 a7 a8→P5 a1 a2 a3 a4 a5 a6 a7 a8→P6 a1 a2 a3 a4 a5 a6 a7 a8→P7 a1 a2 a3 a4 a5 a6 a7 a8→P8 a1 a2 a3 a4 a5 a6 a7 a8→P9 a1 a2 a3 a4 a5 a6 a7 a8→tm a1 a2 a3 a4 a5 a6 a7 a8→Km a1 a2 a3 a4 a5 a6 a7 a8→DO a1 a2 a3 a4 a5 a6 a7 a8→TL a1 a2 a3 a4 a5 a6 a7 a8→TM a1 a2 a3 a4 a5 a6 a7 a8→TN a1 a2 a3 a4 a5 a6 a7 a8→G):G:=by
 obtain⟨a1,a2,a3,a4,a5,a6,a7,a8,h1,h2,h3,h4,h5,h6,h7,h8,h9,vm,O4,O5,O6,O7,XX⟩:=h;exact k a1 a2 a3 a4 a5 a6 a7 a8 h1 h2 h3 h4 h5 h6 h7 h8 h9 vm O4 O5 O6 O7 XX
section
noncomputable abbrev ay:=Addr→Option Obj
def ay.le(B B':ay):Prop:=∀a o,B a=some o→B' a=some o
theorem ay.le.refl(B:ay):ay.le B B:=fun zz zz e=>e
theorem ay.le.trans{B B' mr:ay}(h:ay.le B B')(h':ay.le B' mr):ay.le B mr:=fun a o e=>h' a o (h a o e)
inductive V where
 |none
 |bool (b:Bool)
 |int (i:Int)
 |str (s:Str)
 |list (xs:List V)
 |tuple (xs:List V)
 |ml (i:Nat)
 |obj (fs:List V)
 |fn (fd:FuncData)
 |gE (a b:Int)
 |raw (v:Value)
noncomputable abbrev Mu:=List (Option (List V))
noncomputable abbrev lobj(vs:List Value)(n:Nat):Obj:={cls:=.type "list",dict:=.none,data:=.seq vs.toArray n,slots:=#[]}
noncomputable abbrev gY(vs:List Value)(n:Nat):Obj:={cls:=.type "tuple",dict:=.none,data:=.seq vs.toArray n,slots:=#[]}
noncomputable def fNames:List Str:=[Str.ofString "raw",Str.ofString "n",Str.ofString "nt",Str.ofString "norm",Str.ofString "is_simple"]
noncomputable def sO:List Str:=[Str.ofString "longest_run_of_spaces",Str.ofString "indent_level",Str.ofString "less"]
structure O8(es:List DictEntry)(vs:List Value):Prop where
 own:∀ (i:Nat) nm,fNames[i]?=some nm→∃u,vs[i]?=some u∧getL nm es=some (some u)∧handedIn u=true
 no:∀nm∈sO,getL nm es=some none
def fW(B:ay)(c:Value)(q:Str):Prop:=∃c' o vs t,c=.ref c'∧B c'=some o∧o.data=.fields vs∧vs[1]?=some (.str q t)
theorem fW.mono{B B':ay}{c:Value}{q:Str}(h:fW B c q)(hB:ay.le B B'):fW B' c q:=let⟨c',o,vs,t,e,g,r⟩:=h;⟨c',o,vs,t,e,hB _ _ g,r⟩
inductive VR(B:ay)(Z:List Addr):V→Value→Prop where
 |none:VR B Z .none .none
 |bool {b:Bool}:VR B Z (.bool b) (.bool b)
 |int {i:Int} {t:Tok}:VR B Z (.int i) (.int i t)
 |str {x:Str} {t:Tok}:VR B Z (.str x) (.str x t)
 |list {a:Addr} {xs:List V} {vs:List Value} {n:Nat}:B a=some (lobj vs n)→xs.length=vs.length→
   (∀ (i:Nat) x v,xs[i]?=some x→vs[i]?=some v→VR B Z x v)→VR B Z (.list xs) (.ref a)
 |tuple {a:Addr} {xs:List V} {vs:List Value} {n:Nat}:B a=some (gY vs n)→xs.length=vs.length→
   (∀ (i:Nat) x v,xs[i]?=some x→vs[i]?=some v→VR B Z x v)→VR B Z (.tuple xs) (.ref a)
 |ml {i:Nat} {a:Addr}:Z[i]?=some a→VR B Z (.ml i) (.ref a)
 |gE {r:Addr} {a b:Int} {t u v:Tok}:B r=some {cls:=.type "range",dict:=.none,data:=.fields #[.int a t,.int b u,.int 1 v],slots:=#[]}→VR B Z (.gE a b) (.ref r)
 |raw {v:Value}:VR B Z (.raw v) v
 |fn {a:Addr} {fd:FuncData} {c ct d pm:Value}:B a=some {cls:=.type "function",data:=.func {fd with code:=c,closureTuple:=ct,doc:=d,pyModule:=pm}}→fW B c fd.qualname→VR B Z (.fn fd) (.ref a)
 |obj {x dx:Addr} {es:List DictEntry} {n:Nat} {fs:List V} {vs:List Value}:B x=some (instObj 173 dx)→B dx=some (dictOf es n)→O8 es vs→fs.length=vs.length→
   (∀ (i:Nat) f v,fs[i]?=some f→vs[i]?=some v→VR B Z f v)→VR B Z (.obj fs) (.ref x)
section
variable{B:ay}{Z:List Addr}{x:Value}{C:Value→Prop}
@[elab_as_elim] theorem VR.bC{i:Int}(r:VR B Z (.int i) x)(k:∀t,C (.int i t)):C x:=by cases r;exact k _
@[elab_as_elim] theorem VR.fQ{i:Str}(r:VR B Z (.str i) x)(k:∀t,C (.str i t)):C x:=by cases r;exact k _
@[elab_as_elim] theorem VR.tn{i:Bool}(r:VR B Z (.bool i) x)(k:C (.bool i)):C x:=by cases r;exact k
@[elab_as_elim] theorem VR.xu(r:VR B Z .none x)(k:C .none):C x:=by cases r;exact k
@[elab_as_elim] theorem VR.jY{v:Value}(r:VR B Z (.raw v) x)(k:C v):C x:=by cases r;exact k
@[elab_as_elim] theorem VR.eList{xs:List V}(r:VR B Z (.list xs) x)(k:∀a vs n,B a=some (lobj vs n)→xs.length=vs.length→(∀ (i:Nat) x v,xs[i]?=some x→vs[i]?=some v→VR B Z x v)→C (.ref a)):C x:=by cases r with|list a b c=>exact k _ _ _ a b c
@[elab_as_elim] theorem VR.NU{xs:List V}(r:VR B Z (.tuple xs) x)(k:∀a vs n,B a=some (gY vs n)→xs.length=vs.length→(∀ (i:Nat) x v,xs[i]?=some x→vs[i]?=some v→VR B Z x v)→C (.ref a)):C x:=by cases r with|tuple a b c=>exact k _ _ _ a b c
@[elab_as_elim] theorem VR.XY{fd:FuncData}(r:VR B Z (.fn fd) x)(k:∀a c ct d pm,B a=some {cls:=.type "function",data:=.func {fd with code:=c,closureTuple:=ct,doc:=d,pyModule:=pm}}→fW B c fd.qualname→C (.ref a)):C x:=by cases r with|fn a b=>exact k _ _ _ _ _ a b
end
theorem bk{τ:Type}{a:τ}{P:Prop}(h:none=some a):P:=nomatch h
theorem fe{τ:Type}{a:τ}{P:Prop}(h:some a=none):P:=nomatch h
theorem iO{P:Prop}(h:false=true):P:=nomatch h
def aB(B:ay)(Z:List Addr)(xs:List V)(vs:List Value):Prop:=
 xs.length=vs.length∧∀ (i:Nat) x v,xs[i]?=some x→vs[i]?=some v→VR B Z x v
theorem VR.mono{B B':ay}{Z aH:List Addr}{x:V}{v:Value}(h:VR B Z x v)(hB:ay.le B B')(dJ:Z <+: aH):VR B' aH x v:=by
 induction h with
 |none=>exact .none
 |bool=>exact .bool
 |int=>exact .int
 |str=>exact .str
 |list e l _ ih=>exact .list (hB _ _ e) l ih
 |tuple e l _ ih=>exact .tuple (hB _ _ e) l ih
 |ml e=>
  obtain⟨t,rfl⟩:=dJ;exact .ml (by rw[List.getElem?_append_left (List.getElem?_eq_some_iff.mp e).1];exact e)
 |gE e=>exact .gE (hB _ _ e)
 |raw=>exact .raw
 |fn e c=>exact .fn (hB _ _ e) (c.mono hB)
 |obj e e' f l _ ih=>exact .obj (hB _ _ e) (hB _ _ e') f l ih
theorem aB.mono{B B':ay}{Z aH:List Addr}{x:List V}{v:List Value}(h:aB B Z x v)(hB:ay.le B B')(dJ:Z <+: aH):aB B' aH x v:=
 ⟨h.1,fun i a b p q=>(h.2 i a b p q).mono hB dJ⟩
theorem aB.nil{B:ay}{Z:List Addr}:aB B Z [] []:=⟨rfl,fun i x v h=>by simp at h⟩
theorem aB.cons{B:ay}{Z:List Addr}{x:V}{v:Value}{xs:List V}{vs:List Value}(h:VR B Z x v)(hs:aB B Z xs vs):aB B Z (x::xs) (v::vs):=
 ⟨by simp[hs.1],fun i a b p q=>by
  cases i with
  |zero=>simp at p q;subst p q;exact h
  |succ i=>simp at p q;exact hs.2 i a b p q⟩
theorem aB.append{B:ay}{Z:List Addr}{xs ys:List V}{vs us:List Value}(h:aB B Z xs vs)(hs:aB B Z ys us):aB B Z (xs++ys) (vs++us):=
 ⟨by simp[h.1,hs.1],fun i a b p q=>by
  by_cases hi:i<xs.length
  ·rw[List.getElem?_append_left hi]at p
   rw[List.getElem?_append_left (h.1▸hi)]at q;exact h.2 i a b p q
  ·rw[List.getElem?_append_right (Nat.le_of_not_lt hi)]at p
   rw[List.getElem?_append_right (h.1▸Nat.le_of_not_lt hi),←h.1]at q;exact hs.2 _ a b p q⟩
theorem aB.get{B:ay}{Z:List Addr}{xs:List V}{vs:List Value}(h:aB B Z xs vs){i:Nat}{x:V}(e:xs[i]?=some x):∃v,vs[i]?=some v∧VR B Z x v:=by
 have hi:=(List.getElem?_eq_some_iff.mp e).1;rw[h.1]at hi;exact⟨vs[i],List.getElem?_eq_getElem hi,h.2 i x _ e (List.getElem?_eq_getElem hi)⟩
theorem aB.DP{B:ay}{Z:List Addr}{x:V}{xs:List V}{vs:List Value}(h:aB B Z (x::xs) vs):∃v us,vs=v::us∧VR B Z x v∧aB B Z xs us:=by
 cases vs with
 |nil=>have:=h.1;simp at this
 |cons v us=>exact⟨v,us,rfl,h.2 0 x v rfl rfl,by have:=h.1;simpa using this,fun i a b p q=>h.2 (i+1) a b (by simpa using p) (by simpa using q)⟩
theorem aB.ff{B:ay}{Z:List Addr}{vs:List Value}(h:aB B Z [] vs):vs=[]:=by
 have:=h.1;simpa using this.symm
@[elab_as_elim] theorem aB.bE{B:ay}{Z:List Addr}{vs:List Value}{C:List Value→Prop}(h:aB B Z [] vs)(k:C []):C vs:=by rw[h.ff];exact k
@[elab_as_elim] theorem aB.aN{B:ay}{Z:List Addr}{x:V}{xs:List V}{vs:List Value}{C:List Value→Prop}(h:aB B Z (x::xs) vs)(k:∀y us,VR B Z x y→aB B Z xs us→C (y::us)):C vs:=by
 obtain⟨y,us,rfl,a,b⟩:=h.DP;exact k y us a b
theorem aB.reverse{B:ay}{Z:List Addr}{xs:List V}{vs:List Value}(h:aB B Z xs vs):aB B Z xs.reverse vs.reverse:=by
 refine⟨by simp[h.1],fun i a b p q=>?_⟩
 have hi:i<xs.length:=by have:=(List.getElem?_eq_some_iff.mp p).1;simpa using this
 rw[List.getElem?_reverse hi]at p;rw[List.getElem?_reverse (h.1▸hi),←h.1]at q;exact h.2 _ a b p q
theorem aB.set{B:ay}{Z:List Addr}{xs:List V}{vs:List Value}(h:aB B Z xs vs){x:V}{v:Value}(hx:VR B Z x v)(i:Nat):aB B Z (xs.set i x) (vs.set i v):=by
 refine⟨by simp[h.1],fun j a b p q=>?_⟩
 rw[List.getElem?_set]at p q
 by_cases e:i=j
 ·subst e
  rw[if_pos rfl]at p q;split at p
  ·split at q
   ·cases Option.some.inj p;cases Option.some.inj q;exact hx
   ·exact bk q
  ·exact bk p
 ·rw[if_neg e]at p q;exact h.2 j a b p q
theorem aB.take{B:ay}{Z:List Addr}{xs:List V}{vs:List Value}(h:aB B Z xs vs)(k:Nat):aB B Z (xs.take k) (vs.take k):=by
 refine⟨by simp[h.1],fun j a b p q=>?_⟩
 rw[List.getElem?_take]at p q;split at p
 ·rename_i hj;rw[if_pos hj]at q;exact h.2 j a b p q
 ·exact bk p
theorem aB.drop{B:ay}{Z:List Addr}{xs:List V}{vs:List Value}(h:aB B Z xs vs)(k:Nat):aB B Z (xs.drop k) (vs.drop k):=by
 refine⟨by simp[h.1],fun j a b p q=>?_⟩
 rw[List.getElem?_drop]at p q;exact h.2 _ a b p q
inductive Cl:V→Prop where
 |none:Cl .none
 |bool {b:Bool}:Cl (.bool b)
 |int {i:Int}:Cl (.int i)
 |str {x:Str}:Cl (.str x)
 |list {xs:List V}:(∀x∈xs,Cl x)→Cl (.list xs)
 |tuple {xs:List V}:(∀x∈xs,Cl x)→Cl (.tuple xs)
 |obj {xs:List V}:(∀x∈xs,Cl x)→Cl (.obj xs)
 |gE {a b:Int}:Cl (.gE a b)
 |raw {v:Value}:Cl (.raw v)
 |fn {fd:FuncData}:Cl (.fn fd)
theorem VR.clean{B:ay}{Z:List Addr}{x:V}{v:Value}(h:VR B Z x v)(c:Cl x)(aH:List Addr):VR B aH x v:=by
 induction h with
 |none=>exact .none
 |bool=>exact .bool
 |int=>exact .int
 |str=>exact .str
 |list e l _ ih=>cases c with|list c=>exact .list e l fun i x v p q=>ih i x v p q (c x (List.mem_of_getElem? p))
 |tuple e l _ ih=>cases c with|tuple c=>exact .tuple e l fun i x v p q=>ih i x v p q (c x (List.mem_of_getElem? p))
 |ml e=>cases c
 |gE e=>exact .gE e
 |raw=>exact .raw
 |fn e k=>exact .fn e k
 |obj e e' f l _ ih=>cases c with|obj c=>exact .obj e e' f l fun i x v p q=>ih i x v p q (c x (List.mem_of_getElem? p))
theorem aB.clean{B:ay}{Z:List Addr}{xs:List V}{vs:List Value}(h:aB B Z xs vs)(c:∀x∈xs,Cl x)(aH:List Addr):aB B aH xs vs:=
 ⟨h.1,fun i x v p q=>(h.2 i x v p q).clean (c x (List.mem_of_getElem? p)) aH⟩
theorem aB.any{B:ay}{xs:List V}{vs:List Value}(h:aB B [] xs vs)(Z:List Addr):aB B Z xs vs:=h.mono (.refl B) (List.nil_prefix)
def lU(W:List Addr)(h h':Heap):Prop:=∀b o,b∉W→h.get? b=some o→h'.get? b=some o
theorem lU.refl(W:List Addr)(h:Heap):lU W h h:=fun zz zz zz e=>e
theorem lU.mono{W W':List Addr}{h h':Heap}(k:lU W h h')(hs:∀a∈W,a∈W'):lU W' h h':=fun b o n e=>k b o (fun m=>n (hs b m)) e
theorem lU.all{h h':Heap}(k:∀b o,h.get? b=some o→h'.get? b=some o)(W:List Addr):lU W h h':=fun b o zz e=>k b o e
noncomputable def tabs:List Addr:=[65,58,222]
structure Rest(s s':Shared):Prop where
 os:s'.os=s.os
 bare:AllBare s.gens→AllBare s'.gens
 gens:∀ (g:Nat) (x:GenState),s.gens[g]?=some x→s'.gens[g]?=some x
theorem Rest.refl(s:Shared):Rest s s:=⟨rfl,id,fun zz zz e=>e⟩
theorem Rest.trans{s s' di:Shared}(h:Rest s s')(h':Rest s' di):Rest s di:=⟨h'.os.trans h.os,fun b=>h'.bare (h.bare b),fun g x e=>h'.gens g x (h.gens g x e)⟩
theorem Rest.heap{s:Shared}{h:Heap}{t:Nat}:Rest s {s with heap:=h,toks:=t}:=⟨rfl,id,fun zz zz e=>e⟩
structure NV(TI:ay→Heap→Prop):Prop where
 mono:∀ {B B' h h'},TI B h→ay.le B B'→(∀a∈tabs,∀o,h.get? a=some o→h'.get? a=some o)→TI B' h'
 there:∀ {B h},TI B h→∀a∈tabs,∃o,h.get? a=some o
 strip:∀ {B B' h},TI B h→(∀a o,B a=some o→(∀v,o.data≠.cell v)→B' a=some o)→TI B' h
structure dk where
 prog:Program
 w:World
 Bs:ay
 A₀:List Addr
 K:Frag
 hK:∀a o,K.lookup a=some o→Bs a=some o
 TI:ay→Heap→Prop
 hT:NV TI
 nm:Nat→Str
 gl:Nat→Option Value
 nolimit:∀h:Heap,(∀a o,Bs a=some o→h.get? a=some o)→h.NoLimit
 inj:∀i j,nm i=nm j→i=j
 odd:∀i,(nm i==("__debug__":Str))=false∧(nm i==("__classdict__":Str))=false
 load:∀ {A:Around} {E:Value→Shared→Prop} {s:Shared} {env:Env} {x:Nat} {v:Value} {Q:Value→Shared→Prop},gl x=some v→env.globals=mainGlobals→env.builtins=builtinsNs→
  (∀a o,Bs a=some o→s.heap.get? a=some o)→Q v s→wpAny (model prog w) A (loadGlobal env (nm x)) Q E s
def ox(Bs:ay)(A₀ Z:List Addr):Prop:=A₀ <+: Z∧∀a∈Z,a∈A₀∨Bs a=none
theorem ox.snoc{Bs:ay}{A₀ Z:List Addr}{a:Addr}(h:ox Bs A₀ Z)(ha:Bs a=none):ox Bs A₀ (Z++[a]):=
 ⟨h.1.trans (List.prefix_append _ _),fun b m=>(List.mem_append.mp m).elim (h.2 b) fun m=>.inr (List.mem_singleton.mp m▸ha)⟩
theorem ox.shrink{Bs:ay}{A₀ Z aH:List Addr}(h:ox Bs A₀ aH)(p:Z <+: aH)(p0:A₀ <+: Z):ox Bs A₀ Z:=⟨p0,fun b m=>h.2 b (by obtain⟨t,rfl⟩:=p;simp[m])⟩
theorem ay.le.off{B B':ay}(h:ay.le B B'){a:Addr}(e:B' a=none):B a=none:=by
 cases q:B a with
 |none=>rfl
 |some o=>rw[h a o q]at e;exact fe e
variable(G:dk)
structure Inv(B:ay)(Z:List Addr)(O:Mu)(h:Heap):Prop where
 base:ay.le G.Bs B
 holds:∀a o,B a=some o→h.get? a=some o
 len:Z.length=O.length
 ml:∀ (i:Nat) a xs,Z[i]?=some a→O[i]?=some (some xs)→B a=none∧∃vs n,h.get? a=some (lobj vs n)∧aB B [] xs vs
 dm:∀a∈Z,∃o,h.get? a=some o
 nodup:Z.Nodup
 cg:∀a∈tabs,B a=none∧a∉Z
 tab:G.TI B h
 ei:ox G.Bs G.A₀ Z
structure aG(W:List Addr)(B:ay)(Z:List Addr)(s:Shared)(B':ay)(aH:List Addr)(ar:Mu)(s':Shared):Prop where
 le:ay.le B B'
 pre:Z <+: aH
 inv:Inv G B' aH ar s'.heap
 keep:lU (W++(Z++tabs)) s.heap s'.heap
 bL:∀a∈W,∃o,s'.heap.get? a=some o
 rest:Rest s s'
 dD:∀a,B' a≠none→B a≠none∨a∈Z∨s.heap.get? a=none
 c8:∀a∈aH,a∈Z∨s.heap.get? a=none
variable {G}
theorem aG.refl{W:List Addr}{B:ay}{Z:List Addr}{O:Mu}{s:Shared}(I:Inv G B Z O s.heap)(hW:∀a∈W,∃o,s.heap.get? a=some o):aG G W B Z s B Z O s:=
 ⟨.refl B,List.prefix_refl _,I,.refl _ _,hW,.refl s,fun zz h=>.inl h,fun zz h=>.inl h⟩
theorem Inv.there{B:ay}{Z:List Addr}{O:Mu}{h:Heap}(I:Inv G B Z O h){a:Addr}(m:a∈Z++tabs):∃o,h.get? a=some o:=by
 rcases List.mem_append.mp m with m|m
 ·exact I.dm a m
 ·exact G.hT.there I.tab a m
theorem aG.back{W:List Addr}{B B':ay}{Z aH:List Addr}{ar:Mu}{s s':Shared}(h:aG G W B Z s B' aH ar s'){a:Addr}(ha:s'.heap.get? a=none):s.heap.get? a=none:=by
 cases q:s.heap.get? a with
 |none=>rfl
 |some o=>
  by_cases hm:a∈W++(Z++tabs)
  ·exfalso
   rcases List.mem_append.mp hm with m|m
   ·obtain⟨o',g⟩:=h.bL a m
    rw[ha]at g;exact bk g
   ·have xw:a∈aH++tabs:=by
     rcases List.mem_append.mp m with m|m
     ·obtain⟨t,rfl⟩:=h.pre;simp[m]
     ·simp[m]
    obtain⟨o',g⟩:=h.inv.there xw;rw[ha]at g;exact bk g
  ·have:=h.keep a o hm q
   rw[ha]at this;exact bk this
theorem aG.trans{W:List Addr}{B B' mr:ay}{Z aH jZ:List Addr}{ar cT:Mu}{s s' di:Shared}
  (h:aG G W B Z s B' aH ar s')(h':aG G W B' aH s' mr jZ cT di):aG G W B Z s mr jZ cT di:=by
 refine⟨h.le.trans h'.le,h.pre.trans h'.pre,h'.inv,?_,h'.bL,h.rest.trans h'.rest,fun a ha=>?_,fun a ha=>?_⟩
 ·intro b o hb e
  have e1:=h.keep b o hb e;refine h'.keep b o (fun m=>?_) e1;rcases List.mem_append.mp m with m|m
  ·exact hb (List.mem_append_left _ m)
  rcases List.mem_append.mp m with m|m
  ·rcases h.c8 b m with q|q
   ·exact hb (List.mem_append_right _ (List.mem_append_left _ q))
   ·rw[e]at q;exact fe q
  ·exact hb (List.mem_append_right _ (List.mem_append_right _ m))
 ·rcases h'.dD a ha with q|q|q
  ·exact h.dD a q
  ·exact .inr (h.c8 a q)
  ·exact .inr (.inr (h.back q))
 ·rcases h'.c8 a ha with q|q
  ·exact h.c8 a q
  ·exact .inr (h.back q)
theorem aG.kept{W:List Addr}{B B':ay}{Z aH:List Addr}{ar:Mu}{s s':Shared}(h:aG G W B Z s B' aH ar s'){a:Addr}{o:Obj}(e:s.heap.get? a=some o)(hW:a∉W)(dJ:a∉Z)(ht:a∉tabs):s'.heap.get? a=some o:=
 h.keep a o (by simp[hW,dJ,ht]) e
theorem aG.eY{W:List Addr}{B B':ay}{Z aH:List Addr}{ar:Mu}{s s':Shared}(h:aG G W B Z s B' aH ar s'){a:Addr}{o:Obj}(e:s.heap.get? a=some o)(hB:B a=none)(dJ:a∉Z):B' a=none:=by
 cases q:B' a with
 |none=>rfl
 |some x=>
  rcases h.dD a (by rw[q];simp) with r|r|r
  ·exact absurd hB r
  ·exact absurd r dJ
  ·rw[e]at r;exact fe r
theorem aG.fI{W:List Addr}{B B':ay}{Z aH:List Addr}{ar:Mu}{s s':Shared}(h:aG G W B Z s B' aH ar s'){a:Addr}{o:Obj}(e:s.heap.get? a=some o)(dJ:a∉Z):a∉aH:=fun m=>by
 rcases h.c8 a m with r|r
 ·exact dJ r
 ·rw[e]at r;exact fe r
theorem aG.widen{W:List Addr}{B B':ay}{Z aH:List Addr}{ar:Mu}{s s':Shared}(h:aG G [] B Z s B' aH ar s')(hW:∀a∈W,∃o,s.heap.get? a=some o)(dJ:∀a∈W,a∉Z)(ht:∀a∈W,a∉tabs):aG G W B Z s B' aH ar s':=
 ⟨h.le,h.pre,h.inv,h.keep.mono (fun a m=>by simp at m ⊢;exact .inr m),fun a m=>let⟨o,e⟩:=hW a m;⟨o,h.kept e (by simp) (dJ a m) (ht a m)⟩,h.rest,h.dD,h.c8⟩
noncomputable abbrev aw:=List (Nat×V)
noncomputable def get:aw→Nat→Option V
 |[],_=>.none
 |(y,v)::r,x=>bif Nat.beq y x then some v else get r x
noncomputable def set:aw→Nat→V→aw
 |[],x,v=>[(x,v)]
 |(y,u)::r,x,v=>bif Nat.beq y x then(x,v)::r else(y,u)::set r x v
theorem m8{a b:Nat}(h:a≠b):Nat.beq a b=false:=by
 cases q:Nat.beq a b with
 |false=>rfl
 |true=>exact absurd (Nat.eq_of_beq_eq_true q) h
theorem get_set(U:aw)(x:Nat)(v:V)(y:Nat):get (set U x v) y=if x=y then some v else get U y:=by
 induction U with
 |nil=>
  simp only[set,get]
  by_cases h:x=y
  ·subst h;simp
  ·simp[h,m8 h]
 |cons p r ih=>
  obtain⟨z,u⟩:=p;simp only[set]
  by_cases hz:z=x
  ·subst hz
   simp only[Nat.beq_refl,cond_true,get]
   by_cases h:z=y
   ·subst h;simp
   ·simp[h,m8 h]
  ·have:Nat.beq z x=false:=m8 hz
   simp only[this,cond_false,get,ih]
   by_cases h:z=y
   ·subst h;simp[Ne.symm hz]
   ·have:Nat.beq z y=false:=m8 h
    simp[this]
variable (G)
noncomputable def fa(env:Env)(own:List Nat):List Addr:=env.locals::own.filterMap fun x=>env.cells.lookup (G.nm x)
structure bt(env:Env)(B:ay)(Z:List Addr)(U:aw)(h:Heap):Prop where
 kind:env.scope.kind=.function
 gl:env.globals=mainGlobals
 bi:env.builtins=builtinsNs
 ns:∃m,h.Ns env.locals m∧∀x v,get U x=some v→env.kindOf (G.nm x)=some .local→∃u,m (G.nm x)=some u∧VR B Z v u
 cl:∀x v,get U x=some v→env.kindOf (G.nm x)=some .local∨((env.kindOf (G.nm x)=some .cell∨env.kindOf (G.nm x)=some .free)∧∃c u,env.cells.lookup (G.nm x)=some c∧h.IsCell c (some u)∧VR B Z v u)
 cU:B env.locals=none∧env.locals∉Z∧env.locals∉tabs
 dG:∀n c,(n,c)∈env.cells→(env.kindOf n=some .free∨B c=none)∧c∉Z∧c∉tabs∧c≠env.locals∧∃v,h.IsCell c v
 inj:∀n n' c,env.cells.lookup n=some c→env.cells.lookup n'=some c→n=n'
 all:∀n,env.kindOf n=some .cell→∃c,env.cells.lookup n=some c
variable {G}
theorem gs{U:aw}{x:Nat}{v:V}:get (set U x v) x=some v:=by rw[get_set,if_pos rfl]
theorem gn{U:aw}{x y:Nat}{v:V}{w:Option V}(h:get U y=w)(n:¬x=y:=by decide):get (set U x v) y=w:=by rw[get_set,if_neg n];exact h
theorem aY{l:List (Str×Addr)}{n:Str}{c:Addr}(h:l.lookup n=some c):(n,c)∈l:=by
 induction l with
 |nil=>cases h
 |cons p r ih=>
  obtain⟨a,b⟩:=p;rw[List.lookup_cons]at h;split at h
  ·rename_i e;cases h;rw[eq_of_beq e];exact .head _
  ·exact .tail _ (ih h)
theorem eu{env:Env}{own:List Nat}{a:Addr}(m:a∈fa G env own):a=env.locals∨∃n,env.cells.lookup n=some a:=by
 rcases List.mem_cons.mp m with h|h
 ·exact .inl h
 ·refine aW (List.mem_filterMap.mp h) ?_;intro x zz hx
  exact .inr ⟨_,hx⟩
theorem bt.bL{env:Env}{B:ay}{Z:List Addr}{U:aw}{h:Heap}(F:bt G env B Z U h){own:List Nat}:∀a∈fa G env own,∃o,h.get? a=some o:=by
 intro a m;rcases eu m with rfl|⟨n,hn⟩
 ·refine aW F.ns ?_;intro m z1;obtain⟨o,_,_,e,_⟩:=z1;intro zz;exact⟨o,e⟩
 ·refine cw (F.dG n a (aY hn)) ?_;intro zz zz zz zz v o e zz
  exact⟨o,e⟩
theorem bt.fI{env:Env}{B:ay}{Z:List Addr}{U:aw}{h:Heap}(F:bt G env B Z U h){own:List Nat}:∀a∈fa G env own,a∉Z:=by
 intro a m;rcases eu m with rfl|⟨n,hn⟩
 ·exact F.cU.2.1
 ·exact(F.dG n a (aY hn)).2.1
theorem bt.i4{env:Env}{B:ay}{Z:List Addr}{U:aw}{h:Heap}(F:bt G env B Z U h){own:List Nat}:∀a∈fa G env own,a∉tabs:=by
 intro a m;rcases eu m with rfl|⟨n,hn⟩
 ·exact F.cU.2.2
 ·exact(F.dG n a (aY hn)).2.2.1
theorem bt.keep{env:Env}{W:List Addr}{B B':ay}{Z aH:List Addr}{U:aw}{ar:Mu}{s s':Shared}(F:bt G env B Z U s.heap)(P:aG G W B Z s B' aH ar s')(hL:env.locals∉W)(hC:∀n c,(n,c)∈env.cells→c∉W):bt G env B' aH U s'.heap:=by
 refine aW F.ns ?_;intro m z1;obtain⟨o,es,ep,e,r⟩:=z1;intro hm;have eL:=P.kept e hL F.cU.2.1 F.cU.2.2;refine⟨F.kind,F.gl,F.bi,⟨m,⟨o,es,ep,eL,r⟩,fun x v hx hk=>?_⟩,fun x v hx=>?_,⟨P.eY e F.cU.1 F.cU.2.1,P.fI e F.cU.2.1,F.cU.2.2⟩,fun n c hc=>?_,F.inj,F.all⟩
 ·refine aW (hm x v hx hk) ?_;intro u h1 h2;exact⟨u,h1,h2.mono P.le P.pre⟩
 ·rcases F.cl x v hx with h|⟨hk,c,u,hc,⟨o',eo,ed⟩,h2⟩
  ·exact .inl h
  ·have A:=F.dG _ c (aY hc)
   exact .inr ⟨hk,c,u,hc,⟨o',P.kept eo (hC _ c (aY hc)) A.2.1 A.2.2.1,ed⟩,h2.mono P.le P.pre⟩
 ·refine cw (F.dG n c hc) ?_;intro a1 a2 a3 a4 v o' eo ed
  exact⟨a1.imp id fun a1=>P.eY eo a1 a2,P.fI eo a2,a3,a4,v,o',P.kept eo (hC n c hc) a2 a3,ed⟩
structure bY(n:Nat)(A:Around):Prop where
 handled:A.handled=none
 depth:A.depth+n≤900
 units:A.units+16*n≤9000
 guards:A.guards=some []
theorem bY.le{n n':Nat}{A:Around}(h:bY n A)(hn:n'≤n):bY n' A:=⟨h.handled,by have:=h.depth;exact o1 hn this,by have:=h.units;exact o2 hn this,h.guards⟩
theorem bY.room{n:Nat}{A:Around}(h:bY n A):A.depth<recursionLimit:=by have:=h.depth;unfold recursionLimit;exact ag 2 0 (aa (ae (aj af ab) dX) (ak af bw)) (by kd_p) this
theorem bY.CG{n:Nat}{A:Around}(h:bY n A):A.units<cLine:=by have:=h.units;unfold cLine;exact ag 2 0 (aa (ae (aj af (cY 16 ab)) c7) (ak af (nk 9900))) (by kd_p) this
theorem bY.deeper{n:Nat}{A:Around}(h:bY (n+1) A)(env:Env):bY n (A.deeper env):=
 ⟨h.handled,by have:=h.depth;show A.depth+1+n≤900;exact ag 2 0 (aa (ae (aj af (aj ab aC)) dX) (ae (aj (aj af aC) ab) dX)) (by kd_p) this,by have:=h.units;show A.units+3+16*n≤9000;exact o6 this,h.guards⟩
theorem bY.in1{n:Nat}{A:Around}(h:bY (n+1) A):bY n A.in1:=
 ⟨h.handled,by have:=h.depth;show A.depth+n≤900;exact ag 2 0 (aa (ae (aj af (aj ab aC)) dX) (ae (aj af ab) dX)) (by kd_p) this,by have:=h.units;show A.units+1+16*n≤9000;exact ag 2 0 (aa (ae (aj af (cY 16 (aj ab aC))) c7) (ae (aj (aj af aC) (cY 16 ab)) c7)) (by kd_p) this,h.guards⟩
def bM:Value→Shared→Prop:=fun zz zz=>False
inductive Fl where
 |next|brk|cont|ret (v:V)
inductive DQ(B:ay)(Z:List Addr):Fl→Flow→Prop where
 |next:DQ B Z .next .next
 |brk:DQ B Z .brk .brk
 |cont:DQ B Z .cont .cont
 |ret {v:V} {x:Value}:VR B Z v x→DQ B Z (.ret v) (.ret x)
variable (G)
inductive PV(B:ay)(Z:List Addr)(s:Shared)(Q:V→Mu→Prop)(x:Value)(s':Shared):Prop
 |mk (v:V) (ar:Mu) (B':ay) (aH:List Addr) (q:Q v ar) (h:aG G [] B Z s B' aH ar s'∧VR B' aH v x)
inductive XZ(B:ay)(Z:List Addr)(s:Shared)(Q:List V→Mu→Prop)(xs:List Value)(s':Shared):Prop
 |mk (vs:List V) (ar:Mu) (B':ay) (aH:List Addr) (q:Q vs ar) (h:aG G [] B Z s B' aH ar s'∧aB B' aH vs xs)
inductive PB(B:ay)(Z:List Addr)(s:Shared)(Q:Bool→Mu→Prop)(b:Bool)(s':Shared):Prop
 |mk (ar:Mu) (B':ay) (aH:List Addr) (q:Q b ar) (P:aG G [] B Z s B' aH ar s')
inductive PA{τ:Type}(env:Env)(own:List Nat)(B:ay)(Z:List Addr)(s:Shared)(Q:aw→Mu→Prop)(u:τ)(s':Shared):Prop
 |mk (ao:aw) (ar:Mu) (B':ay) (aH:List Addr) (q:Q ao ar) (h:aG G (fa G env own) B Z s B' aH ar s'∧bt G env B' aH ao s'.heap)
inductive PS(env:Env)(own:List Nat)(B:ay)(Z:List Addr)(s:Shared)(Q:Fl→aw→Mu→Prop)(fl:Flow)(s':Shared):Prop
 |mk (r:Fl) (ao:aw) (ar:Mu) (B':ay) (aH:List Addr) (q:Q r ao ar) (h:aG G (fa G env own) B Z s B' aH ar s'∧bt G env B' aH ao s'.heap∧DQ B' aH r fl)
def bz(n:Nat)(env:Env)(t:Sem Value)(U:aw)(O:Mu)(Q:V→Mu→Prop):Prop:=
 ∀A,bY n A→∀B Z s,Inv G B Z O s.heap→bt G env B Z U s.heap→wpAny (model G.prog G.w) A t (PV G B Z s Q) bM s
def eZ(n:Nat)(env:Env)(t:Sem (List Value))(U:aw)(O:Mu)(Q:List V→Mu→Prop):Prop:=
 ∀A,bY n A→∀B Z s,Inv G B Z O s.heap→bt G env B Z U s.heap→wpAny (model G.prog G.w) A t (XZ G B Z s Q) bM s
def fX(n:Nat)(env:Env)(t:Sem Bool)(U:aw)(O:Mu)(Q:Bool→Mu→Prop):Prop:=
 ∀A,bY n A→∀B Z s,Inv G B Z O s.heap→bt G env B Z U s.heap→wpAny (model G.prog G.w) A t (PB G B Z s Q) bM s
def cn(n:Nat)(env:Env)(own:List Nat)(t:Sem Flow)(U:aw)(O:Mu)(Q:Fl→aw→Mu→Prop):Prop:=
 ∀A,bY n A→∀B Z s,Inv G B Z O s.heap→bt G env B Z U s.heap→wpAny (model G.prog G.w) A t (PS G env own B Z s Q) bM s
def aU(n:Nat)(f:Value)(vs:List V)(kw:List (Str×V))(O:Mu)(Q:V→Mu→Prop):Prop:=
 ∀A,bY n A→∀B Z s xs ks,Inv G B Z O s.heap→aB B Z vs xs→aB B Z (kw.map (·.2)) ks→
  wpAny (model G.prog G.w) A (call f xs ((kw.map (·.1)).zip ks)) (PV G B Z s Q) bM s
variable {G}
theorem bz.mono{n:Nat}{env:Env}{t:Sem Value}{U:aw}{O:Mu}{Q Q':V→Mu→Prop}(h:bz G n env t U O Q)(hQ:∀v ar,Q v ar→Q' v ar):bz G n env t U O Q':=
 fun A hA B Z s I F=>wpAny_mono (h A hA B Z s I F) (fun zz _ ⟨v,ar,B',aH,q,r⟩=>⟨v,ar,B',aH,hQ _ _ q,r⟩) fun zz zz x=>x
end
section
variable{G:dk}
noncomputable def ay.add(B:ay)(a:Addr)(o:Obj):ay:=fun x=>if x=a then some o else B x
theorem ay.c9(B:ay)(a:Addr)(o:Obj):B.add a o a=some o:=if_pos rfl
theorem ay.iA{B:ay}{a:Addr}{o:Obj}(h:B a=none):ay.le B (B.add a o):=fun x y e=>by
 unfold ay.add
 by_cases q:x=a
 ·subst q;rw[h]at e;exact bk e
 ·rw[if_neg q];exact e
theorem cx(h:Heap):h.get? h.objs.size=none:=by
 cases q:h.get? h.objs.size with
 |none=>rfl
 |some o=>exact absurd (Heap.lt_size q) (Nat.lt_irrefl _)
section
variable{B:ay}{Z:List Addr}{O:Mu}{s:Shared}
theorem Inv.eY{h:Heap}(I:Inv G B Z O h){a:Addr}(e:h.get? a=none):B a=none:=by
 cases q:B a with
 |none=>rfl
 |some o=>rw[I.holds a o q]at e;exact fe e
theorem Inv.fI{h:Heap}(I:Inv G B Z O h){a:Addr}(e:h.get? a=none):a∉Z:=fun m=>by
 obtain⟨o,g⟩:=I.there (List.mem_append_left _ m);rw[g]at e;exact fe e
theorem Inv.i4{h:Heap}(I:Inv G B Z O h){a:Addr}(e:h.get? a=none):a∉tabs:=fun m=>by
 obtain⟨o,g⟩:=I.there (List.mem_append_right _ m);rw[g]at e;exact fe e
theorem Inv.post{W:List Addr}{t:Nat}(I:Inv G B Z O s.heap)(hW:∀a∈W,∃o,s.heap.get? a=some o):aG G W B Z s B Z O {s with toks:=t}:=
 ⟨.refl B,List.prefix_refl _,I,.refl _ _,hW,.heap,fun zz h=>.inl h,fun zz h=>.inl h⟩
theorem Inv.tq{t:Nat}(I:Inv G B Z O s.heap):aG G [] B Z s B Z O {s with toks:=t}:=I.post (fun zz m=>nomatch m)
theorem Inv.keeps{h h':Heap}(I:Inv G B Z O h)(k:∀b o,h.get? b=some o→h'.get? b=some o):Inv G B Z O h':=
 ⟨I.base,fun a o e=>k _ _ (I.holds a o e),I.len,fun i a xs h1 h2=>let⟨b,vs,n,g,r⟩:=I.ml i a xs h1 h2;⟨b,vs,n,k _ _ g,r⟩,fun a m=>let⟨o,e⟩:=I.dm a m;⟨o,k _ _ e⟩,I.nodup,I.cg,
  G.hT.mono I.tab (.refl _) fun a zz o e=>k _ _ e,I.ei⟩
theorem Inv.kr{W:List Addr}{h':Heap}{t:Nat}(I:Inv G B Z O s.heap)(k:∀b o,s.heap.get? b=some o→h'.get? b=some o)(hW:∀a∈W,∃o,s.heap.get? a=some o):aG G W B Z s B Z O {s with heap:=h',toks:=t}:=
 ⟨.refl B,List.prefix_refl _,I.keeps k,lU.all k _,fun a m=>let⟨o,e⟩:=hW a m;⟨o,k _ _ e⟩,.heap,fun zz h=>.inl h,fun zz h=>.inl h⟩
theorem bN(h:Heap)(o:Obj):∀b x,h.get? b=some x→(h.push o).get? b=some x:=fun zz zz e=>Heap.get?_push_of_some _ e
theorem Inv.frozen{h h':Heap}{a:Addr}{o:Obj}(I:Inv G B Z O h)(hn:h.get? a=none)(k:∀b o,h.get? b=some o→h'.get? b=some o)(e:h'.get? a=some o):Inv G (B.add a o) Z O h':=by
 have hB:B a=none:=I.eY hn;have hA:a∉Z:=I.fI hn;have hT:a∉tabs:=I.i4 hn;have le:=ay.iA (o:=o) hB;refine⟨I.base.trans le,fun b x hb=>?_,I.len,fun i b xs h1 h2=>?_,fun b hb=>?_,I.nodup,fun b hb=>⟨?_,(I.cg b hb).2⟩,G.hT.mono I.tab le fun b zz x hb=>k _ _ hb,I.ei⟩
 ·unfold ay.add at hb
  by_cases q:b=a
  ·subst q;rw[if_pos rfl]at hb;cases Option.some.inj hb;exact e
  ·rw[if_neg q]at hb;exact k _ _ (I.holds b x hb)
 ·refine eh (I.ml i b xs h1 h2) ?_;intro hb vs n g r
  refine⟨?_,vs,n,k _ _ g,r.mono le (List.prefix_refl _)⟩;unfold ay.add;rw[if_neg (fun q:b=a=>hA (q▸List.mem_of_getElem? h1))];exact hb
 ·obtain⟨x,ex⟩:=I.dm b hb;exact⟨x,k _ _ ex⟩
 ·unfold ay.add;rw[if_neg (fun q:b=a=>hT (q▸hb))];exact(I.cg b hb).1
theorem Inv.O9{h':Heap}{a:Addr}{o:Obj}{t:Nat}(I:Inv G B Z O s.heap)(hn:s.heap.get? a=none)(k:∀b o,s.heap.get? b=some o→h'.get? b=some o)(e:h'.get? a=some o):
  aG G [] B Z s (B.add a o) Z O {s with heap:=h',toks:=t}:=by
 refine⟨ay.iA (I.eY hn),List.prefix_refl _,I.frozen hn k e,lU.all k _,(fun zz m=>nomatch m),.heap,fun b hb=>?_,fun zz h=>.inl h⟩;unfold ay.add at hb
 by_cases q:b=a
 ·subst q;exact .inr (.inr hn)
 ·rw[if_neg q]at hb;exact .inl hb
theorem Inv.push{o:Obj}{t:Nat}(I:Inv G B Z O s.heap)(hf:o.isFreed=false):
  aG G [] B Z s (B.add s.heap.objs.size o) Z O {s with heap:=s.heap.push o,toks:=t}:=
 I.O9 (cx _) (bN _ _) (Heap.get?_push_size _ hf)
theorem Inv.GD{xs:List V}{vs:List Value}{t:Nat}(I:Inv G B Z O s.heap)(h:aB B [] xs vs):
  aG G [] B Z s B (Z++[s.heap.objs.size]) (O++[some xs]) {s with heap:=s.heap.push (lobj vs 0),toks:=t}:=by
 have hn:=cx s.heap;have k:=bN s.heap (lobj vs 0);have pre:Z <+: Z++[s.heap.objs.size]:=List.prefix_append _ _;refine⟨.refl _,pre,⟨I.base,fun b x hb=>k _ _ (I.holds b x hb),by simp[I.len],fun i b ys h1 h2=>?_,fun b hb=>?_,?_,fun b hb=>⟨(I.cg b hb).1,fun m=>?_⟩,G.hT.mono I.tab (.refl _) fun b zz x hb=>k _ _ hb,I.ei.snoc (I.base.off (I.eY hn))⟩,
  lU.all k _,(fun zz m=>nomatch m),.heap,fun zz h=>.inl h,fun b hb=>?_⟩
 ·by_cases q:i<Z.length
  ·rw[List.getElem?_append_left q]at h1
   rw[List.getElem?_append_left (I.len▸q)]at h2;refine eh (I.ml i b ys h1 h2) ?_;intro e us n g r;exact⟨e,us,n,k _ _ g,r⟩
  ·rw[List.getElem?_append_right (Nat.le_of_not_lt q)]at h1
   rw[List.getElem?_append_right (I.len▸Nat.le_of_not_lt q),←I.len]at h2;cases q2:i-Z.length with
   |zero=>
    rw[q2]at h1 h2;cases h1;cases h2;exact⟨I.eY hn,vs,0,Heap.get?_push_size _ rfl,h⟩
   |succ j=>rw[q2]at h1;cases h1
 ·rcases List.mem_append.mp hb with m|m
  ·obtain⟨x,ex⟩:=I.dm b m;exact⟨x,k _ _ ex⟩
  ·rw[List.mem_singleton.mp m];exact⟨_,Heap.get?_push_size _ rfl⟩
 ·refine List.nodup_append.mpr ⟨I.nodup,by simp,fun b hb c hc=>?_⟩
  rw[List.mem_singleton.mp hc];exact fun q=>I.fI hn (q▸hb)
 ·rcases List.mem_append.mp m with m|m
  ·exact(I.cg b hb).2 m
  ·exact I.i4 hn (List.mem_singleton.mp m▸hb)
 ·rcases List.mem_append.mp hb with m|m
  ·exact .inl m
  ·rw[List.mem_singleton.mp m];exact .inr hn
theorem Inv.xx{i:Nat}{l:Addr}{xs ys:List V}{vs:List Value}{n:Nat}{h':Heap}{t:Nat}(I:Inv G B Z O s.heap)(hi:Z[i]?=some l)(hy:O[i]?=some (some ys))(h:aB B [] xs vs)
  (e:h'.get? l=some (lobj vs n))(hs:Heap.SameBut l s.heap h'):aG G [] B Z s B Z (O.set i (some xs)) {s with heap:=h',toks:=t}:=by
 have hl:l∈Z:=List.mem_of_getElem? hi;have hB:=(I.ml i l ys hi hy).1;have kp:∀b o,b≠l→s.heap.get? b=some o→h'.get? b=some o:=fun b o q g=>(hs.2 b q).trans g;refine⟨.refl _,List.prefix_refl _,⟨I.base,fun b x hb=>kp b x (fun q=>by subst q;rw[hB]at hb;exact bk hb) (I.holds b x hb),by simp[I.len],fun j b zs h1 h2=>?_,fun b hb=>?_,I.nodup,I.cg,
  G.hT.mono I.tab (.refl _) fun b hb x g=>kp b x (fun q=>(I.cg b hb).2 (q▸hl)) g,I.ei⟩,fun b o hb g=>kp b o (fun q=>hb (by subst q;simp[hl])) g,(fun zz m=>nomatch m),.heap,fun zz h=>.inl h,fun zz h=>.inl h⟩
 ·by_cases q:j=i
  ·subst q
   rw[hi]at h1;cases Option.some.inj h1;rw[List.getElem?_set]at h2;rw[if_pos rfl]at h2;split at h2
   ·cases Option.some.inj h2;exact⟨hB,vs,n,e,h⟩
   ·exact bk h2
  ·rw[List.getElem?_set_ne (Ne.symm q)]at h2
   refine eh (I.ml j b zs h1 h2) ?_;intro hb us m g r;refine⟨hb,us,m,kp b _ (fun z=>q ?_) g,r⟩;subst z;obtain⟨p1,e1⟩:=List.getElem?_eq_some_iff.mp h1;obtain⟨p2,e2⟩:=List.getElem?_eq_some_iff.mp hi;exact(List.getElem_inj I.nodup).mp (e1.trans e2.symm)
 ·by_cases q:b=l
  ·subst q;exact⟨_,e⟩
  ·obtain⟨o,eo⟩:=I.dm b hb;exact⟨o,kp b o q eo⟩
theorem Inv.freeze{h:Heap}{i:Nat}{l:Addr}{xs:List V}(I:Inv G B Z O h)(hi:Z[i]?=some l)(hx:O[i]?=some (some xs)):
  ∃vs n,aB B [] xs vs∧h.get? l=some (lobj vs n)∧Inv G (B.add l (lobj vs n)) Z (O.set i none) h:=by
 refine eh (I.ml i l xs hi hx) ?_;intro hB vs n e r;have le:=ay.iA (o:=lobj vs n) hB;have hl:l∈Z:=List.mem_of_getElem? hi;refine⟨vs,n,r,e,I.base.trans le,fun b x hb=>?_,by simp[I.len],fun j b zs h1 h2=>?_,I.dm,I.nodup,fun b hb=>⟨?_,(I.cg b hb).2⟩,G.hT.mono I.tab le fun zz zz zz x=>x,I.ei⟩
 ·unfold ay.add at hb
  by_cases q:b=l
  ·subst q;rw[if_pos rfl]at hb;cases Option.some.inj hb;exact e
  ·rw[if_neg q]at hb;exact I.holds b x hb
 ·by_cases q:j=i
  ·subst q
   rw[List.getElem?_set,if_pos rfl]at h2;split at h2<;>cases h2
  ·rw[List.getElem?_set_ne (Ne.symm q)]at h2
   refine eh (I.ml j b zs h1 h2) ?_;intro hb us m g r;have e8:b≠l:=fun z=>q (by
    subst z;obtain⟨p1,e1⟩:=List.getElem?_eq_some_iff.mp h1;obtain⟨p2,e2⟩:=List.getElem?_eq_some_iff.mp hi;exact(List.getElem_inj I.nodup).mp (e1.trans e2.symm))
   refine⟨?_,us,m,g,r.mono le (List.prefix_refl _)⟩;unfold ay.add;rw[if_neg e8];exact hb
 ·unfold ay.add;rw[if_neg (fun q:b=l=>(I.cg b hb).2 (q▸hl))];exact(I.cg b hb).1
end
variable (G)
variable {G}
section
variable{n:Nat}{env:Env}{U:aw}{O:Mu}{Q:V→Mu→Prop}
theorem PV.after{B B':ay}{Z aH:List Addr}{s s':Shared}{ar:Mu}(P:aG G [] B Z s B' aH ar s'){x:Value}{di:Shared}(h:PV G B' aH s' Q x di):PV G B Z s Q x di:=by
 obtain⟨v,aZ,B2,aV,q,P2,r⟩:=h;exact⟨v,aZ,B2,aV,q,P.trans P2,r⟩
theorem PV.here{B:ay}{Z:List Addr}{s:Shared}{x:Value}{v:V}{t:Nat}(I:Inv G B Z O s.heap)(r:VR B Z v x)(q:Q v O):PV G B Z s Q x {s with toks:=t}:=⟨v,O,B,Z,q,I.tq,r⟩
theorem PV.bQ{B:ay}{Z:List Addr}{s:Shared}{x:Value}{v:V}(I:Inv G B Z O s.heap)(r:VR B Z v x)(q:Q v O):PV G B Z s Q x s:=⟨v,O,B,Z,q,aG.refl I (fun zz m=>nomatch m),r⟩
theorem xy{x:Nat}{v:V}{pos:Pos}(h:get U x=some v)(q:Q v O):bz G n env (eval (.Name (G.nm x) pos) env) U O Q:=by
 intro A hA B Z s I F;refine wpAny_Name ?_ (G.odd x).1;rcases F.cl x v h with hl|⟨hk,c,u,hc,eV,r⟩
 ·refine aW F.ns ?_;intro m hn hm
  refine aW (hm x v h hl) ?_;intro u hu r;exact wpAny_loadName_local F.kind hl hn hu (PV.bQ I r q)
 ·rcases hk with hk|hk
  ·exact wpAny_loadName_cell F.kind hk hc eV (PV.bQ I r q)
  ·exact wpAny_loadName_free F.kind hk hc eV (PV.bQ I r q) (G.odd x).2
theorem Kn{x:Nat}{v:Value}{pos:Pos}(hk:env.kindOf (G.nm x)=some .globalImplicit)(h:G.gl x=some v)(q:Q (.raw v) O):bz G n env (eval (.Name (G.nm x) pos) env) U O Q:=by
 intro A hA B Z s I F;exact Name_function_global F.kind hk (G.load h F.gl F.bi (fun a o e=>I.holds a o (I.base a o e)) (PV.bQ I .raw q)) (G.odd x).1
theorem Pf{i:Int}{k:Nat}{pos:Pos}(q:Q (.int i) O):bz G n env (eval (.Constant (.int i) k pos) env) U O Q:=
 fun A hA B Z s I F=>wpAny_Constant_int (PV.here I .int q)
theorem Pg{x:Str}{k:Nat}{pos:Pos}(q:Q (.str x) O):bz G n env (eval (.Constant (.str x) k pos) env) U O Q:=
 fun A hA B Z s I F=>Calls.Constant_str (PV.here I .str q)
theorem Ko{b:Bool}{k:Nat}{pos:Pos}(q:Q (.bool b) O):bz G n env (eval (.Constant (.bool b) k pos) env) U O Q:=
 fun A hA B Z s I F=>wpAny_Constant_bool (PV.bQ I .bool q)
theorem Kp{k:Nat}{pos:Pos}(q:Q .none O):bz G n env (eval (.Constant .none k pos) env) U O Q:=
 fun A hA B Z s I F=>wpAny_Constant_none (PV.bQ I .none q)
end
variable (G)
def cB(n:Nat)(op:Operator)(v u:V)(O:Mu)(Q:V→Mu→Prop):Prop:=
 ∀A,bY n A→∀B Z s x y,Inv G B Z O s.heap→VR B Z v x→VR B Z u y→wpAny (model G.prog G.w) A (binaryOp op x y) (PV G B Z s Q) bM s
def bW(n:Nat)(op:CmpOp)(v u:V)(O:Mu)(Q:V→Mu→Prop):Prop:=
 ∀A,bY n A→∀B Z s x y,Inv G B Z O s.heap→VR B Z v x→VR B Z u y→wpAny (model G.prog G.w) A (compareOp op x y) (PV G B Z s Q) bM s
variable {G}
section
variable{n:Nat}{env:Env}{U:aw}{O:Mu}{Q:V→Mu→Prop}
theorem GF{l r:Expr}{op:Operator}{pos:Pos}(h:bz G n env (eval l env) U O fun v aA=>bz G n env (eval r env) U aA fun u aZ=>cB G n op v u aZ Q):
  bz G n env (eval (.BinOp l op r pos) env) U O Q:=by
 intro A hA B Z s I F;refine wpAny_BinOp (wpAny_mono (h A hA B Z s I F) ?_ fun zz zz x=>x);rintro x s1 ⟨v,aA,B1,aE,bf,P1,r1⟩;have F1:=F.keep P1 (by simp) (fun zz zz zz=>by simp)
 refine wpAny_mono (bf A hA B1 aE s1 P1.inv F1) ?_ fun zz zz x=>x;rintro y s2 ⟨u,aZ,B2,aV,bu,P2,r2⟩;refine wpAny_mono (bu A hA B2 aV s2 x y P2.inv (r1.mono P2.le P2.pre) r2) ?_ fun zz zz x=>x;rintro z s3 h3;exact PV.after P1 (PV.after P2 h3)
theorem Ph{l r:Expr}{op:CmpOp}{pos:Pos}(h:bz G n env (eval l env) U O fun v aA=>bz G n env (eval r env) U aA fun u aZ=>bW G n op v u aZ Q)
  (hm:behindInMarks op r=false):bz G n env (eval (.Compare l [op] [r] pos) env) U O Q:=by
 intro A hA B Z s I F;refine wpAny_Compare1 (wpAny_mono (h A hA B Z s I F) ?_ fun zz zz x=>x) hm;rintro x s1 ⟨v,aA,B1,aE,bf,P1,r1⟩;have F1:=F.keep P1 (by simp) (fun zz zz zz=>by simp)
 refine wpAny_mono (bf A hA B1 aE s1 P1.inv F1) ?_ fun zz zz x=>x;rintro y s2 ⟨u,aZ,B2,aV,bu,P2,r2⟩;refine wpAny_mono (bu A hA B2 aV s2 x y P2.inv (r1.mono P2.le P2.pre) r2) ?_ fun zz zz x=>x;rintro z s3 h3;exact PV.after P1 (PV.after P2 h3)
theorem Pj{a b:Int}(q:Q (.int (a+b)) O):cB G n .Add (.int a) (.int b) O Q:=by
 intro A hA B Z s x y I hx hy;refine VR.bC hx ?_;intro zz;refine VR.bC hy ?_;intro zz;exact add_int (PV.here I .int q)
theorem Pk{a b:Int}(q:Q (.int (a-b)) O):cB G n .Sub (.int a) (.int b) O Q:=by
 intro A hA B Z s x y I hx hy;refine VR.bC hx ?_;intro zz;refine VR.bC hy ?_;intro zz;exact sub_int (PV.here I .int q)
theorem Pl{a b:Int}(hm:IntMulOk a b)(q:Q (.int (a*b)) O):cB G n .Mult (.int a) (.int b) O Q:=by
 intro A hA B Z s x y I hx hy;refine VR.bC hx ?_;intro zz;refine VR.bC hy ?_;intro zz;exact mul_int (PV.here I .int q) hm
theorem Kq{a b:Int}(hb:b≠0)(hp:b.natAbs.log2<9000)(q:Q (.int (a.fdiv b)) O):cB G n .FloorDiv (.int a) (.int b) O Q:=by
 intro A hA B Z s x y I hx hy;refine VR.bC hx ?_;intro zz;refine VR.bC hy ?_;intro zz;exact floordiv_int hb (PV.here I .int q) (.inl (PyProof.noPylong_of_log2 hp))
theorem Pm{a b:Int}(hb:b≠0)(q:Q (.int (a.fmod b)) O):cB G n .Mod (.int a) (.int b) O Q:=by
 intro A hA B Z s x y I hx hy;refine VR.bC hx ?_;intro zz;refine VR.bC hy ?_;intro zz;exact mod_int' hb (PV.here I .int q)
theorem Pn{a b:Int}(hn:0≤b)(bG:(Builtin.Int.intBits a:Int)*b≤2 ^ 27)(q:Q (.int (a ^ b.toNat)) O):cB G n .Pow (.int a) (.int b) O Q:=by
 intro A hA B Z s x y I hx hy;refine VR.bC hx ?_;intro zz;refine VR.bC hy ?_;intro zz;exact pow_int hn bG (PV.here I .int q)
theorem Pp{a b:Int}(hn:0≤b)(bG:(Builtin.Int.intBits a:Int)+b≤2 ^ 27)(q:Q (.int (a*2 ^ b.toNat)) O):cB G n .LShift (.int a) (.int b) O Q:=by
 intro A hA B Z s x y I hx hy;refine VR.bC hx ?_;intro zz;refine VR.bC hy ?_;intro zz;exact lshift_int hn bG (PV.here I .int q)
theorem Pq{a b:Int}(hn:0≤b)(q:Q (.int (a.fdiv (2 ^ b.toNat))) O):cB G n .RShift (.int a) (.int b) O Q:=by
 intro A hA B Z s x y I hx hy;refine VR.bC hx ?_;intro zz;refine VR.bC hy ?_;intro zz;exact rshift_int hn (PV.here I .int q)
theorem Pr{a b:Int}(q:Q (.int (Builtin.bitXor a b)) O):cB G n .BitXor (.int a) (.int b) O Q:=by
 intro A hA B Z s x y I hx hy;refine VR.bC hx ?_;intro zz;refine VR.bC hy ?_;intro zz;exact xor_int (PV.here I .int q)
theorem DR{a b:Str}(bG:a.length+b.length≤sizeLine)(q:Q (.str (a++b)) O):cB G n .Add (.str a) (.str b) O Q:=by
 intro A hA B Z s x y I hx hy;refine VR.fQ hx ?_;intro zz;refine VR.fQ hy ?_;intro zz;exact add_str (fun zz zz=>PV.here I .str q) bG
theorem DS{a:Str}{k:Int}(yX:MulOk a k)(q:Q (.str (Txt.mul a k)) O):cB G n .Mult (.str a) (.int k) O Q:=by
 intro A hA B Z s x y I hx hy;refine VR.fQ hx ?_;intro zz;refine VR.bC hy ?_;intro zz;exact SB.mul yX (fun zz zz=>PV.here I .str q)
theorem TO{a b:Int}(q:Q (.bool (decide (a<b))) O):bW G n .Lt (.int a) (.int b) O Q:=by
 intro A hA B Z s x y I hx hy;refine VR.bC hx ?_;intro zz;refine VR.bC hy ?_;intro zz;exact lt_int (PV.bQ I .bool q)
theorem NW{a b:Int}(q:Q (.bool (decide (a≤b))) O):bW G n .LtE (.int a) (.int b) O Q:=by
 intro A hA B Z s x y I hx hy;refine VR.bC hx ?_;intro zz;refine VR.bC hy ?_;intro zz;exact le_int (PV.bQ I .bool q)
theorem TP{a b:Int}(q:Q (.bool (decide (b<a))) O):bW G n .Gt (.int a) (.int b) O Q:=by
 intro A hA B Z s x y I hx hy;refine VR.bC hx ?_;intro zz;refine VR.bC hy ?_;intro zz;exact gt_int (PV.bQ I .bool q)
theorem TQ{a b:Int}(q:Q (.bool (decide (b≤a))) O):bW G n .GtE (.int a) (.int b) O Q:=by
 intro A hA B Z s x y I hx hy;refine VR.bC hx ?_;intro zz;refine VR.bC hy ?_;intro zz;exact ge_int (PV.bQ I .bool q)
theorem TR{a b:Int}(q:Q (.bool (a==b)) O):bW G n .Eq (.int a) (.int b) O Q:=by
 intro A hA B Z s x y I hx hy;refine VR.bC hx ?_;intro zz;refine VR.bC hy ?_;intro zz;exact eq_int (PV.bQ I .bool q)
theorem TS{a b:Int}(q:Q (.bool (a !=b)) O):bW G n .NotEq (.int a) (.int b) O Q:=by
 intro A hA B Z s x y I hx hy;refine VR.bC hx ?_;intro zz;refine VR.bC hy ?_;intro zz;exact ne_int (PV.bQ I .bool q)
theorem Pt{a b:Str}(q:Q (.bool (a==b)) O):bW G n .Eq (.str a) (.str b) O Q:=by
 intro A hA B Z s x y I hx hy;refine VR.fQ hx ?_;intro zz;refine VR.fQ hy ?_;intro zz;exact eq_str (PV.bQ I .bool q)
theorem Pu{a b:Str}(q:Q (.bool (a !=b)) O):bW G n .NotEq (.str a) (.str b) O Q:=by
 intro A hA B Z s x y I hx hy;refine VR.fQ hx ?_;intro zz;refine VR.fQ hy ?_;intro zz;exact ne_str (PV.bQ I .bool q)
theorem DT{a b:Str}(q:Q (.bool (!(!(Builtin.Str.occurrences b a 0 b.length 1).isEmpty))) O):bW G n .NotIn (.str a) (.str b) O Q:=by
 intro A hA B Z s x y I hx hy;refine VR.fQ hx ?_;intro zz;refine VR.fQ hy ?_;intro zz;exact notIn_str (PV.bQ I .bool q)
theorem DU{a b:Bool}(q:Q (.bool (a !=b)) O):bW G n .IsNot (.bool a) (.bool b) O Q:=by
 intro A hA B Z s x y I hx hy;refine VR.tn hx ?_;refine VR.tn hy ?_;exact isnot_bool (PV.bQ I .bool q)
theorem Pw(q:Q (.bool true) O):bW G n .Is .none .none O Q:=by
 intro A hA B Z s x y I hx hy;refine VR.xu hx ?_;refine VR.xu hy ?_;exact is_none_none (PV.bQ I .bool q)
theorem VR.GG{B:ay}{Z:List Addr}{v:V}{x:Value}(h:VR B Z v x)(hn:v≠.none)(hr:∀y,v≠.raw y):x≠.none:=by
 cases h<;>first|exact absurd rfl hn|exact absurd rfl (hr _)|(intro e;cases e)
theorem Kr{v:V}(hn:v≠.none)(hr:∀y,v≠.raw y)(q:Q (.bool false) O):bW G n .Is v .none O Q:=by
 intro A hA B Z s x y I hx hy;refine VR.xu hy ?_;exact is_none_ne (hx.GG hn hr) (PV.bQ I .bool q)
end
variable (G)
def iP(n:Nat)(v:V)(O:Mu)(Q:Bool→Mu→Prop):Prop:=
 ∀A,bY n A→∀B Z s x,Inv G B Z O s.heap→VR B Z v x→wpAny (model G.prog G.w) A (truthy x) (PB G B Z s Q) bM s
variable {G}
section
variable{n:Nat}{env:Env}{U:aw}{O:Mu}
theorem PB.here{Q:Bool→Mu→Prop}{B:ay}{Z:List Addr}{s:Shared}{b:Bool}{t:Nat}(I:Inv G B Z O s.heap)(q:Q b O):PB G B Z s Q b {s with toks:=t}:=⟨O,B,Z,q,I.tq⟩
theorem PB.bQ{Q:Bool→Mu→Prop}{B:ay}{Z:List Addr}{s:Shared}{b:Bool}(I:Inv G B Z O s.heap)(q:Q b O):PB G B Z s Q b s:=⟨O,B,Z,q,aG.refl I (fun zz m=>nomatch m)⟩
variable{Q:Bool→Mu→Prop}
theorem Ks{b:Bool}(q:Q b O):iP G n (.bool b) O Q:=by
 intro A hA B Z s x I hx;refine VR.tn hx ?_;exact wpAny_truthy_bool (PB.bQ I q)
theorem Py{a:Int}(q:Q (a !=0) O):iP G n (.int a) O Q:=by
 intro A hA B Z s x I hx;refine VR.bC hx ?_;intro zz;exact truthy_int (PB.bQ I q)
theorem Kt{xs:List V}(bG:xs.length<2 ^ 62)(q:Q (!xs.isEmpty) O):iP G n (.list xs) O Q:=by
 intro A hA B Z s x I hx;cases hx with
 |list e l h9=>
  rename_i a vs k;refine wpAny_truthy_list (items:=vs.toArray) ⟨_,I.holds _ _ e,rfl,k,rfl⟩ (by simp;exact ag 2 0 (aa (ak ab (nk (2 ^ 62))) (aa (ax ab af) (aM (az af) (zk 9223372036854775808)))) (by kd_p) bG l) ?_
  have:(!vs.toArray.isEmpty) = !xs.isEmpty:=by
   cases xs<;>cases vs<;>simp_all
  rw[this];exact PB.here I q
end
section
variable{n:Nat}{env:Env}{U:aw}{O:Mu}
theorem Ku{e:Expr}{Q:Bool→Mu→Prop}(h:bz G n env (eval e env) U O fun v aA=>iP G n v aA Q)(he:isTrue e env (eval e env)=(do let v ←eval e env;standAt e.pos;holding [v] (truthy v))):
  fX G n env (isTrue e env (eval e env)) U O Q:=by
 intro A hA B Z s I F;refine wpAny_isTrue_value (wpAny_mono (h A hA B Z s I F) ?_ fun zz zz x=>x) he;rintro x s1 ⟨v,aA,B1,aE,bf,P1,r1⟩;refine wpAny_mono (bf A hA B1 aE s1 x P1.inv r1) ?_ fun zz zz x=>x;rintro b s2 ⟨aZ,B2,aV,q,P2⟩;exact⟨aZ,B2,aV,q,P1.trans P2⟩
theorem tu{l r:Expr}{op:CmpOp}{pos:Pos}{wh:Sem Value}{Q:Bool→Mu→Prop}
  (h:bz G n env (eval l env) U O fun v aA=>bz G n env (eval r env) U aA fun u aZ=>bW G n op v u aZ fun c dK=>iP G n c dK Q)
  (hm:behindInMarks op r=false):fX G n env (isTrue (.Compare l [op] [r] pos) env wh) U O Q:=by
 intro A hA B Z s I F;refine wpAny_isTrue_Compare1 (wpAny_mono (h A hA B Z s I F) ?_ fun zz zz x=>x) hm;rintro x s1 ⟨v,aA,B1,aE,bf,P1,r1⟩;have F1:=F.keep P1 (by simp) (fun zz zz zz=>by simp)
 refine wpAny_mono (bf A hA B1 aE s1 P1.inv F1) ?_ fun zz zz x=>x;rintro y s2 ⟨u,aZ,B2,aV,bu,P2,r2⟩;refine wpAny_mono (bu A hA B2 aV s2 x y P2.inv (r1.mono P2.le P2.pre) r2) ?_ fun zz zz x=>x;rintro z s3 ⟨c,dK,B3,dI,h3,P3,r3⟩;refine wpAny_mono (h3 A hA B3 dI s3 z P3.inv r3) ?_ fun zz zz x=>x;rintro b s4 ⟨oy,B4,fy,q,P4⟩;exact⟨oy,B4,fy,q,P1.trans (P2.trans (P3.trans P4))⟩
theorem vo{Q:Bool→Mu→Prop}(q:Q true O):fX G n env (allTrue .And [] env) U O Q:=fun A hA B Z s I F=>wpAny_allTrue_And_nil (PB.bQ I q)
theorem xA{Q:Bool→Mu→Prop}(q:Q false O):fX G n env (allTrue .Or [] env) U O Q:=fun A hA B Z s I F=>wpAny_allTrue_Or_nil (PB.bQ I q)
theorem tw{x:Expr}{rest:List Expr}{Q:Bool→Mu→Prop}
  (h:fX G n env (isTrue x env (eval x env)) U O fun b aA=>match b with|true=>fX G n env (allTrue .And rest env) U aA Q|false=>Q false aA):fX G n env (allTrue .And (x::rest) env) U O Q:=by
 intro A hA B Z s I F;refine wpAny_allTrue_And_cons (wpAny_mono (h A hA B Z s I F) ?_ fun zz zz x=>x);rintro b s1 ⟨aA,B1,aE,bf,P1⟩;cases b with
 |false=>exact⟨aA,B1,aE,bf,P1⟩
 |true=>
  refine wpAny_mono (bf A hA B1 aE s1 P1.inv (F.keep P1 (by simp) (fun zz zz zz=>by simp))) ?_ fun zz zz x=>x
  rintro b s2 ⟨aZ,B2,aV,bu,P2⟩;exact⟨aZ,B2,aV,bu,P1.trans P2⟩
theorem ku{x:Expr}{rest:List Expr}{Q:Bool→Mu→Prop}
  (h:fX G n env (isTrue x env (eval x env)) U O fun b aA=>match b with|false=>fX G n env (allTrue .Or rest env) U aA Q|true=>Q true aA):fX G n env (allTrue .Or (x::rest) env) U O Q:=by
 intro A hA B Z s I F;refine wpAny_allTrue_Or_cons (wpAny_mono (h A hA B Z s I F) ?_ fun zz zz x=>x);rintro b s1 ⟨aA,B1,aE,bf,P1⟩;cases b with
 |true=>exact⟨aA,B1,aE,bf,P1⟩
 |false=>
  refine wpAny_mono (bf A hA B1 aE s1 P1.inv (F.keep P1 (by simp) (fun zz zz zz=>by simp))) ?_ fun zz zz x=>x
  rintro b s2 ⟨aZ,B2,aV,bu,P2⟩;exact⟨aZ,B2,aV,bu,P1.trans P2⟩
theorem qY{op:BoolOp}{values:List Expr}{pos:Pos}{wh:Sem Value}{Q:Bool→Mu→Prop}(h:fX G n env (allTrue op values env) U O Q):fX G n env (isTrue (.BoolOp op values pos) env wh) U O Q:=
 fun A hA B Z s I F=>wpAny_isTrue_BoolOp (h A hA B Z s I F)
variable{Q:V→Mu→Prop}
theorem GH{test body orelse:Expr}{pos:Pos}
  (h:fX G n env (isTrue test env (eval test env)) U O fun b aA=>match b with|true=>bz G n env (eval body env) U aA Q|false=>bz G n env (eval orelse env) U aA Q):
  bz G n env (eval (.IfExp test body orelse pos) env) U O Q:=by
 intro A hA B Z s I F;refine wpAny_IfExp (wpAny_mono (h A hA B Z s I F) ?_ fun zz zz x=>x);rintro b s1 ⟨aA,B1,aE,bf,P1⟩;have F1:=F.keep P1 (by simp) (fun zz zz zz=>by simp)
 cases b with
 |true=>exact wpAny_mono (bf A hA B1 aE s1 P1.inv F1) (fun zz zz bu=>PV.after P1 bu) fun zz zz x=>x
 |false=>exact wpAny_mono (bf A hA B1 aE s1 P1.inv F1) (fun zz zz bu=>PV.after P1 bu) fun zz zz x=>x
theorem Kv{x y:Expr}{pos:Pos}(h:bz G n env (eval x env) U O fun v aA=>iP G n v aA fun b aZ=>match b with|true=>bz G n env (eval y env) U aZ Q|false=>Q v aZ):
  bz G n env (eval (.BoolOp .And [x,y] pos) env) U O Q:=by
 intro A hA B Z s I F;refine wpAny_And2 (wpAny_mono (h A hA B Z s I F) ?_ fun zz zz x=>x);rintro x s1 ⟨v,aA,B1,aE,bf,P1,r1⟩;refine wpAny_mono (bf A hA B1 aE s1 x P1.inv r1) ?_ fun zz zz x=>x;rintro b s2 ⟨aZ,B2,aV,bu,P2⟩;have P:=P1.trans P2;cases b with
 |true=>exact wpAny_mono (bu A hA B2 aV s2 P2.inv (F.keep P (by simp) (fun zz zz zz=>by simp))) (fun zz zz h3=>PV.after P h3) fun zz zz x=>x
 |false=>exact⟨v,aZ,B2,aV,bu,P,r1.mono P2.le P2.pre⟩
theorem NX{x:Expr}{op:UnaryOp}{pos:Pos}(h:bz G n env (eval x env) U O fun v aA=>∀A,bY n A→∀B Z s x,Inv G B Z aA s.heap→VR B Z v x→wpAny (model G.prog G.w) A (unaryOp op x) (PV G B Z s Q) bM s):
  bz G n env (eval (.UnaryOp op x pos) env) U O Q:=by
 intro A hA B Z s I F;refine wpAny_UnaryOp (wpAny_mono (h A hA B Z s I F) ?_ fun zz zz x=>x);rintro x s1 ⟨v,aA,B1,aE,bf,P1,r1⟩;exact wpAny_mono (bf A hA B1 aE s1 x P1.inv r1) (fun zz zz bu=>PV.after P1 bu) fun zz zz x=>x
theorem Pz{a:Int}(q:Q (.int (-a)) O):∀A,bY n A→∀B Z s x,Inv G B Z O s.heap→VR B Z (.int a) x→wpAny (model G.prog G.w) A (unaryOp .USub x) (PV G B Z s Q) bM s:=by
 intro A hA B Z s x I hx;refine VR.bC hx ?_;intro zz;exact neg_int (PV.here I .int q)
theorem PC{a:Int}(q:Q (.int (Builtin.bitNot a)) O):∀A,bY n A→∀B Z s x,Inv G B Z O s.heap→VR B Z (.int a) x→wpAny (model G.prog G.w) A (unaryOp .Invert x) (PV G B Z s Q) bM s:=by
 intro A hA B Z s x I hx;refine VR.bC hx ?_;intro zz;exact invert_int (PV.here I .int q)
theorem PD{pos:Pos}{R:List V→Mu→Prop}(q:R [] O):eZ G n env (spliced (backTo pos (starEach [] env))) U O R:=
 fun A hA B Z s I F=>wpAny_items_nil ⟨[],O,B,Z,q,aG.refl I (fun zz m=>nomatch m),.nil⟩
theorem Kw{e:Expr}{rest:List Expr}{pos:Pos}{R:List V→Mu→Prop}
  (h:bz G n env (eval e env) U O fun v aA=>eZ G n env (spliced (backTo pos (starEach rest env))) U aA fun vs aZ=>R (v::vs) aZ)
  (he:starEach (e::rest) env=(false,eval e env)::starEach rest env):eZ G n env (spliced (backTo pos (starEach (e::rest) env))) U O R:=by
 intro A hA B Z s I F;refine wpAny_items_cons (wpAny_mono (h A hA B Z s I F) ?_ fun zz zz x=>x) he;rintro x s1 ⟨v,aA,B1,aE,bf,P1,r1⟩;refine wpAny_mono (bf A hA B1 aE s1 P1.inv (F.keep P1 (by simp) (fun zz zz zz=>by simp))) ?_ fun zz zz x=>x
 rintro xs s2 ⟨vs,aZ,B2,aV,bu,P2,r2⟩;exact⟨v::vs,aZ,B2,aV,bu,P1.trans P2,.cons (r1.mono P2.le P2.pre) r2⟩
theorem VR.newList{B:ay}{Z:List Addr}{a:Addr}{xs:List V}{vs:List Value}(e:B a=some (lobj vs 0))(r:aB B Z xs vs):VR B Z (.list xs) (.ref a):=.list e r.1 r.2
theorem VR.newTuple{B:ay}{Z:List Addr}{a:Addr}{xs:List V}{vs:List Value}(e:B a=some (gY vs 0))(r:aB B Z xs vs):VR B Z (.tuple xs) (.ref a):=.tuple e r.1 r.2
theorem Kx{elts:List Expr}{pos:Pos}(h:eZ G n env (spliced (backTo pos (starEach elts env))) U O fun vs aA=>vs.length≤sizeLine∧Q (.list vs) aA):
  bz G n env (eval (.List elts pos) env) U O Q:=by
 intro A hA B Z s I F;refine wpAny_List (wpAny_mono (h A hA B Z s I F) ?_ fun zz zz x=>x);rintro xs s1 ⟨vs,aA,B1,aE,⟨bG,q⟩,P1,r1⟩;have P2:=P1.inv.push (o:=lobj xs 0) (t:=s1.toks) rfl;exact⟨r1.1▸bG,.list vs,aA,_,aE,q,P1.trans P2,.newList (ay.c9 ..) (r1.mono P2.le P2.pre)⟩
theorem GI{elts:List Expr}{pos:Pos}(h:eZ G n env (spliced (backTo pos (starEach elts env))) U O fun vs aA=>vs.length≤sizeLine∧(∀x∈vs,Cl x)∧Q (.ml aA.length) (aA++[some vs])):
  bz G n env (eval (.List elts pos) env) U O Q:=by
 intro A hA B Z s I F;refine wpAny_List (wpAny_mono (h A hA B Z s I F) ?_ fun zz zz x=>x);rintro xs s1 ⟨vs,aA,B1,aE,⟨bG,hc,q⟩,P1,r1⟩;have P2:=P1.inv.GD (t:=s1.toks) (r1.clean hc []);refine⟨r1.1▸bG,_,_,_,_,q,P1.trans P2,.ml ?_⟩;rw[←P1.inv.len];simp
theorem GJ{elts:List Expr}{k:Nat}{pos:Pos}(h:eZ G n env (spliced (backTo pos (starEach elts env))) U O fun vs aA=>vs.length≤sizeLine∧Q (.tuple vs) aA):
  bz G n env (eval (.Tuple elts k pos) env) U O Q:=by
 intro A hA B Z s I F;refine wpAny_Tuple (wpAny_mono (h A hA B Z s I F) ?_ fun zz zz x=>x);rintro xs s1 ⟨vs,aA,B1,aE,⟨bG,q⟩,P1,r1⟩;have P2:=P1.inv.push (o:=gY xs 0) (t:=s1.toks) rfl;exact⟨r1.1▸bG,.tuple vs,aA,_,aE,q,P1.trans P2,.newTuple (ay.c9 ..) (r1.mono P2.le P2.pre)⟩
end
end
section
variable{G:dk}
theorem Inv.same{B:ay}{Z:List Addr}{O:Mu}{h h':Heap}{l:Addr}(I:Inv G B Z O h)(hs:Heap.SameBut l h h')(hB:B l=none)(dJ:l∉Z)(ht:l∉tabs):Inv G B Z O h':=by
 have kp:∀b o,b≠l→h.get? b=some o→h'.get? b=some o:=fun b o q g=>(hs.2 b q).trans g;refine⟨I.base,fun b x hb=>kp b x (fun q=>by subst q;rw[hB]at hb;exact bk hb) (I.holds b x hb),I.len,fun j b zs h1 h2=>?_,fun b hb=>?_,I.nodup,I.cg,
  G.hT.mono I.tab (.refl _) fun b hb x g=>kp b x (fun q=>ht (q▸hb)) g,I.ei⟩
 ·refine eh (I.ml j b zs h1 h2) ?_;intro e us m g r
  exact⟨e,us,m,kp b _ (fun q=>dJ (q▸List.mem_of_getElem? h1)) g,r⟩
 ·obtain⟨o,e⟩:=I.dm b hb
  exact⟨o,kp b o (fun q=>dJ (q▸hb)) e⟩
theorem gu{env:Env}{own:List Nat}{B:ay}{Z:List Addr}{U:aw}{O:Mu}{s:Shared}{A:Around}{E:Value→Shared→Prop}{x:Nat}{v:V}{u:Value}{Q:Unit→Shared→Prop}
  (ho:x∈own)(hk:env.kindOf (G.nm x)=some .local∨env.kindOf (G.nm x)=some .cell)(I:Inv G B Z O s.heap)(F:bt G env B Z U s.heap)(r:VR B Z v u)
  (hQ:∀h' tk,bt G env B Z (set U x v) h'→aG G (fa G env own) B Z s B Z O {s with heap:=h',toks:=tk}→Q () {s with heap:=h',toks:=tk}):
  wpAny (model G.prog G.w) A (storeName env (G.nm x) u) Q E s:=by
 have fin:∀h' tk l,l∈fa G env own→B l=none→l∉Z→l∉tabs→Heap.SameBut l s.heap h'→(∃o,h'.get? l=some o)→bt G env B Z (set U x v) h'→Q () {s with heap:=h',toks:=tk}:=by
  intro h' tk l hl hB dJ ht hs hex F';refine hQ h' tk F' ⟨.refl _,List.prefix_refl _,I.same hs hB dJ ht,fun b o hb g=>(hs.2 b (fun q=>hb (by subst q;simp[hl]))).trans g,fun a ha=>?_,.heap,fun zz h=>.inl h,fun zz h=>.inl h⟩
  exact F'.bL a ha
 rcases hk with hk|hk
 ·refine aW F.ns ?_;intro m hn hm
  refine wpAny_storeName_local hk hn (fun h' ew hs=>?_) (by rw[F.kind];rfl)
  refine fin h' _ env.locals (.head _) F.cU.1 F.cU.2.1 F.cU.2.2 hs (let⟨o,_,_,e,_⟩:=ew;⟨o,e⟩) ?_
  refine⟨F.kind,F.gl,F.bi,⟨_,ew,fun y w hy AA=>?_⟩,fun y w hy=>?_,F.cU,fun n c hc=>?_,F.inj,F.all⟩
  ·rw[get_set]at hy
   by_cases q:x=y
   ·subst q;rw[if_pos rfl]at hy;cases Option.some.inj hy;exact⟨u,if_pos rfl,r⟩
   ·rw[if_neg q]at hy
    refine aW (hm y w hy AA) ?_;intro z h1 h2;exact⟨z,(if_neg fun e=>q (G.inj _ _ e).symm).trans h1,h2⟩
  ·rw[get_set]at hy
   by_cases q:x=y
   ·subst q;exact .inl hk
   ·rw[if_neg q]at hy
    rcases F.cl y w hy with h|⟨h1,c,z,h2,h3,h4⟩
    ·exact .inl h
    ·exact .inr ⟨h1,c,z,h2,h3.sameBut hs (F.dG _ _ (aY h2)).2.2.2.1,h4⟩
  ·refine sN (F.dG n c hc) ?_;intro a1 a2 a3 a4 z hz
   exact⟨a1,a2,a3,a4,z,hz.sameBut hs a4⟩
 ·obtain⟨c,hc⟩:=F.all _ hk
  refine sN (F.dG _ _ (aY hc)) ?_;intro a1 a2 a3 a4 z hz;have a1:=a1.resolve_left (by rw[hk];nofun)
  refine wpAny_storeName_cell F.kind hk hc hz (fun h' xB hs=>?_);have TU:=fin h' s.toks c (.tail _ (List.mem_filterMap.mpr ⟨x,ho,hc⟩)) a1 a2 a3 hs (let⟨o,e,_⟩:=xB;⟨o,e⟩)
  refine TU ?_;refine aW F.ns ?_;intro m hn hm;refine⟨F.kind,F.gl,F.bi,⟨m,hn.sameBut hs (Ne.symm a4),fun y w hy AA=>?_⟩,fun y w hy=>?_,F.cU,fun n c' TV=>?_,F.inj,F.all⟩
  ·rw[get_set]at hy
   by_cases q:x=y
   ·subst q;rw[hk]at AA;cases Option.some.inj AA
   ·rw[if_neg q]at hy;exact hm y w hy AA
  ·rw[get_set]at hy
   by_cases q:x=y
   ·subst q;rw[if_pos rfl]at hy;cases Option.some.inj hy;exact .inr ⟨.inl hk,c,u,hc,xB,r⟩
   ·rw[if_neg q]at hy
    rcases F.cl y w hy with h|⟨h1,d,z,h2,h3,h4⟩
    ·exact .inl h
    ·refine .inr ⟨h1,d,z,h2,h3.sameBut hs (fun e=>q ?_),h4⟩
     subst e;exact G.inj _ _ (F.inj _ _ _ hc h2)
  ·by_cases e:c'=c
   ·subst e;exact⟨.inr a1,a2,a3,a4,_,xB⟩
   ·refine sN (F.dG n c' TV) ?_;intro b1 b2 b3 b4 z hz
    exact⟨b1,b2,b3,b4,z,hz.sameBut hs e⟩
variable (G)
def gF(n:Nat)(env:Env)(own:List Nat)(f:Value→Sem Unit)(v:V)(U:aw)(O:Mu)(Q:aw→Mu→Prop):Prop:=
 ∀A,bY n A→∀B Z s u,Inv G B Z O s.heap→bt G env B Z U s.heap→VR B Z v u→
  wpAny (model G.prog G.w) A (f u) (PA G env own B Z s Q) bM s
variable {G}
section
variable{n:Nat}{env:Env}{own:List Nat}{U:aw}{O:Mu}{Q:Fl→aw→Mu→Prop}
theorem aG.wide{B B':ay}{Z aH:List Addr}{ar:Mu}{s s':Shared}(P:aG G [] B Z s B' aH ar s')(F:bt G env B Z U s.heap):aG G (fa G env own) B Z s B' aH ar s':=P.widen F.bL F.fI F.i4
theorem PS.after{B B':ay}{Z aH:List Addr}{s s':Shared}{ar:Mu}(P:aG G (fa G env own) B Z s B' aH ar s'){x:Flow}{di:Shared}(h:PS G env own B' aH s' Q x di):PS G env own B Z s Q x di:=by
 obtain⟨v,b9,aZ,B2,aV,q,P2,r⟩:=h;exact⟨v,b9,aZ,B2,aV,q,P.trans P2,r⟩
theorem bt.same{B B':ay}{Z aH:List Addr}{ar:Mu}{s s':Shared}(F:bt G env B Z U s.heap)(P:aG G [] B Z s B' aH ar s'):bt G env B' aH U s'.heap:=F.keep P (by simp) (fun zz zz zz=>by simp)
theorem cn.mono{t:Sem Flow}{Q':Fl→aw→Mu→Prop}(h:cn G n env own t U O Q)(hQ:∀r ao ar,Q r ao ar→Q' r ao ar):cn G n env own t U O Q':=
 fun A hA B Z s I F=>wpAny_mono (h A hA B Z s I F) (fun zz _ ⟨v,ao,ar,B',aH,q,r⟩=>⟨v,ao,ar,B',aH,hQ _ _ _ q,r⟩) fun zz zz x=>x
theorem xC(q:Q .next U O):cn G n env own (execs [] env) U O Q:=
 fun A hA B Z s I F=>wpAny_execs_nil ⟨.next,U,O,B,Z,q,aG.refl I F.bL,F,.next⟩
theorem j0{st:Stmt}{rest:List Stmt}(h:cn G n env own (exec st env) U O fun r a9 aA=>match r with | .next=>cn G n env own (execs rest env) a9 aA Q|r=>Q r a9 aA):
  cn G n env own (execs (st::rest) env) U O Q:=by
 intro A hA B Z s I F;refine wpAny_execs_cons (wpAny_mono (h A hA B Z s I F) ?_ fun zz zz x=>x);rintro fl s1 ⟨r,a9,aA,B1,aE,bf,P1,F1,r1⟩;cases r1 with
 |next=>exact wpAny_mono (bf A hA B1 aE s1 P1.inv F1) (fun zz zz bu=>PS.after P1 bu) fun zz zz x=>x
 |brk=>exact⟨.brk,a9,aA,B1,aE,bf,P1,F1,.brk⟩
 |cont=>exact⟨.cont,a9,aA,B1,aE,bf,P1,F1,.cont⟩
 |ret r=>exact⟨.ret _,a9,aA,B1,aE,bf,P1,F1,.ret r⟩
theorem NY{test:Expr}{body orelse:List Stmt}{pos:Pos}
  (h:fX G n env (isTrue test env (eval test env)) U O fun b aA=>match b with|true=>cn G n env own (execs body env) U aA Q|false=>cn G n env own (execs orelse env) U aA Q):
  cn G n env own (exec (.If test body orelse pos) env) U O Q:=by
 intro A hA B Z s I F;refine wpAny_If (wpAny_mono (h A hA B Z s I F) ?_ fun zz zz x=>x);rintro b s1 ⟨aA,B1,aE,bf,P1⟩;have F1:=F.same P1;cases b with
 |true=>exact wpAny_mono (bf A hA B1 aE s1 P1.inv F1) (fun zz zz bu=>PS.after (P1.wide F) bu) fun zz zz x=>x
 |false=>exact wpAny_mono (bf A hA B1 aE s1 P1.inv F1) (fun zz zz bu=>PS.after (P1.wide F) bu) fun zz zz x=>x
theorem GK{e:Expr}{pos:Pos}(h:bz G n env (eval e env) U O fun v aA=>Q (.ret v) U aA):cn G n env own (exec (.Return (some e) pos) env) U O Q:=by
 intro A hA B Z s I F;refine wpAny_Return_some (wpAny_mono (h A hA B Z s I F) ?_ fun zz zz x=>x);rintro x s1 ⟨v,aA,B1,aE,bf,P1,r1⟩;exact⟨.ret v,U,aA,B1,aE,bf,P1.wide F,F.same P1,.ret r1⟩
theorem Ky{pos:Pos}(q:Q (.ret .none) U O):cn G n env own (exec (.Return none pos) env) U O Q:=
 fun A hA B Z s I F=>wpAny_Return_none ⟨.ret .none,U,O,B,Z,q,aG.refl I F.bL,F,.ret .none⟩
theorem PE{pos:Pos}(q:Q .brk U O):cn G n env own (exec (.Break pos) env) U O Q:=
 fun A hA B Z s I F=>wpAny_Break ⟨.brk,U,O,B,Z,q,aG.refl I F.bL,F,.brk⟩
theorem CH{e:Expr}{pos:Pos}(h:bz G n env (eval e env) U O fun zz aA=>Q .next U aA)(hi:interactive env=false)(hs:swapsWith e none pos.line env=pure false):
  cn G n env own (exec (.Expr e pos) env) U O Q:=by
 intro A hA B Z s I F;refine wpAny_Expr_any (wpAny_mono (h A hA B Z s I F) ?_ fun zz zz x=>x) hi hs;rintro x s1 ⟨v,aA,B1,aE,bf,P1,r1⟩;exact⟨.next,U,aA,B1,aE,bf,P1.wide F,F.same P1,.next⟩
variable (G)
def nR(env:Env)(own:List Nat)(x:Nat):Prop:=x∈own∧(env.kindOf (G.nm x)=some .local∨env.kindOf (G.nm x)=some .cell)
variable {G}
theorem m9{x:Nat}{pos:Pos}{v:V}{R:aw→Mu→Prop}(hk:nR G env own x)(q:R (set U x v) O):gF G n env own (assign (.Name (G.nm x) pos) env) v U O R:=by
 intro A hA B Z s u I F r;exact assign_Name (gu hk.1 hk.2 I F r fun h' tk F' P=>⟨_,O,B,Z,q,P,F'⟩)
theorem DV{x:Nat}{p pos:Pos}{e:Expr}(hk:nR G env own x)(h:bz G n env (eval e env) U O fun v aA=>Q .next (set U x v) aA)
  (hs:swapsWith e (some (.Name (G.nm x) p)) pos.line env=pure false):cn G n env own (exec (.Assign [.Name (G.nm x) p] e pos) env) U O Q:=by
 intro A hA B Z s I F;refine wpAny_Assign_Name (wpAny_mono (h A hA B Z s I F) ?_ fun zz zz x=>x) hs;rintro u s1 ⟨v,aA,B1,aE,bf,P1,r1⟩;exact gu hk.1 hk.2 P1.inv (F.same P1) r1 fun h' tk F' P=>⟨.next,_,aA,B1,aE,bf,(P1.wide F).trans P,F',.next⟩
theorem PF{x:Nat}{p pos:Pos}{op:Operator}{e:Expr}{v:V}(hk:nR G env own x)(hx:get U x=some v)
  (h:bz G n env (eval e env) U O fun u aA=>∀A,bY n A→∀B Z s x1 y,Inv G B Z aA s.heap→VR B Z v x1→VR B Z u y→wpAny (model G.prog G.w) A (inplaceOp op x1 y) (PV G B Z s fun w aZ=>Q .next (set U x w) aZ) bM s):
  cn G n env own (exec (.AugAssign (.Name (G.nm x) p) op e pos) env) U O Q:=by
 intro A hA B Z s I F;refine wpAny_AugAssign_Name ?_;have hl:wpAny (model G.prog G.w) A (loadName env (G.nm x)) (fun u s'=>s'=s∧VR B Z v u) bM s:=by
  rcases F.cl x v hx with hl|⟨hk,c,u,hc,eV,r⟩
  ·refine aW F.ns ?_;intro m hn hm
   refine aW (hm x v hx hl) ?_;intro u hu r;exact wpAny_loadName_local F.kind hl hn hu ⟨rfl,r⟩
  ·rcases hk with hk|hk
   ·exact wpAny_loadName_cell F.kind hk hc eV ⟨rfl,r⟩
   ·exact wpAny_loadName_free F.kind hk hc eV ⟨rfl,r⟩ (G.odd x).2
 refine wpAny_mono hl ?_ fun zz zz x=>x;rintro old s0 ⟨rfl,r⟩;refine wpAny_mono (h A hA B Z s0 I F) ?_ fun zz zz x=>x;rintro y s1 ⟨u,aA,B1,aE,bf,P1,r1⟩;refine wpAny_mono (bf A hA B1 aE s1 old y P1.inv (r.mono P1.le P1.pre) r1) ?_ fun zz zz x=>x;rintro z s2 ⟨w,aZ,B2,aV,q,P2,r2⟩;have P:=P1.trans P2;exact gu hk.1 hk.2 P2.inv (F.same P) r2 fun h' tk F' P'=>⟨.next,_,aZ,B2,aV,q,(P.wide F).trans P',F',.next⟩
end
variable (G)
def Iter(v:V)(O:Mu)(xs:List V):Prop:=
 ∀A B Z s u (Q:Value→Shared→Prop) (E:Value→Shared→Prop),Inv G B Z O s.heap→VR B Z v u→
  (∀it h' fp P St,s.heap.get? it=none→(∀b o,s.heap.get? b=some o→h'.get? b=some o)→(∀i h,St i h→∃o,h.get? it=some o)→
   (∀A',A'.handled=none→Walks G.prog G.w A' it fp [it] xs.length P St)→(∀ (i:Nat) y,i<xs.length→P i y→∃x,xs[i]?=some x∧VR B Z x y)→St 0 h'→(∀b∈fp,b=it∨B b≠none)→Q (.ref it) {s with heap:=h'})→
  wpAny (model G.prog G.w) A (pyIter u) Q E s
variable {G}
theorem Iter.list{xs:List V}{O:Mu}:Iter G (.list xs) O xs:=by
 intro A B Z s u Q E I r hQ;cases r with
 |list e l h9=>
  rename_i a vs k;have hl:s.heap.IsList a vs.toArray:=⟨_,I.holds _ _ e,rfl,k,rfl⟩;have e8:a≠s.heap.objs.size:=Nat.ne_of_lt (Heap.lt_size (I.holds _ _ e));refine wpAny_pyIter_list hl (hQ _ _ [s.heap.objs.size,a] (fun i v=>vs.toArray[i]?=some v) (fun i h=>h.IsListIter s.heap.objs.size a i∧h.IsList a vs.toArray) (cx _) (bN _ _) (fun _ _ st=>let⟨o,e,_⟩:=st.1;⟨o,e⟩) (fun A' jR=>?_) (fun i y _ p=>?_) ⟨⟨_,Heap.get?_push_size _ rfl,rfl,rfl⟩,hl.push _⟩ ?_)
  ·have:=Walks.list (prog:=G.prog) (w:=G.w) jR s.heap.objs.size a e8 vs.toArray
   rw[show vs.toArray.size=xs.length by simp[l]]at this
   exact this
  ·have p':vs[i]?=some y:=by simpa using p
   have hi:=(List.getElem?_eq_some_iff.mp p').1;rw[←l]at hi;exact⟨xs[i],List.getElem?_eq_getElem hi,h9 i _ y (List.getElem?_eq_getElem hi) p'⟩
  ·intro b hb
   rcases List.mem_cons.mp hb with rfl|hb
   ·exact .inl rfl
   ·rw[List.mem_singleton.mp hb];exact .inr (by rw[e];simp)
theorem Iter.str{x:Str}{O:Mu}:Iter G (.str x) O (x.cps.toList.map fun c=>.str ⟨#[c]⟩):=by
 intro A B Z s u Q E I r hQ;cases r with
 |str=>
  rename_i t;have hP:∀ (i:Nat) y,i<(x.cps.toList.map fun c=>V.str ⟨#[c]⟩).length→SignAt x i y→∃z,(x.cps.toList.map fun c=>V.str ⟨#[c]⟩)[i]?=some z∧VR B Z z y:=by
   rintro i y _ ⟨c,u,hc,rfl⟩;exact⟨.str ⟨#[c]⟩,by simp[hc],.str⟩
  have hl:(x.cps.toList.map fun c=>V.str ⟨#[c]⟩).length=x.cps.size:=by simp
  cases ha:x.cps.all (· < 128)
  ·refine wpAny_pyIter_wide ha (hQ _ _ [s.heap.objs.size] (SignAt x) (fun i h=>h.IsStrIter s.heap.objs.size "str_iterator" x t i) (cx _) (bN _ _) (fun _ _ st=>let⟨o,e,_⟩:=st;⟨o,e⟩) (fun A' jR=>?_) hP ⟨_,Heap.get?_push_size _ rfl,rfl,rfl⟩ fun b hb=>.inl (List.mem_singleton.mp hb))
   rw[hl];exact Walks.strWide jR _ x t
  ·refine wpAny_pyIter_ascii ha (hQ _ _ [s.heap.objs.size] (SignAt x) (fun i h=>h.IsStrIter s.heap.objs.size "str_ascii_iterator" x t i) (cx _) (bN _ _) (fun _ _ st=>let⟨o,e,_⟩:=st;⟨o,e⟩) (fun A' jR=>?_) hP ⟨_,Heap.get?_push_size _ rfl,rfl,rfl⟩ fun b hb=>.inl (List.mem_singleton.mp hb))
   rw[hl];exact Walks.strAscii jR _ x t
noncomputable def cI(a b:Int):List V:=(List.range (b-a).toNat).map fun(i:Nat)=>.int (a+(i:Int))
theorem Iter.gE{a b:Int}{O:Mu}(hs:Builtin.Range.small a b 1=true):Iter G (.gE a b) O (cI a b):=by
 intro A B Z s u Q E I r hQ;cases r with
 |gE e=>
  rename_i l t u v;have bG:Builtin.Range.rangeSize a b 1=((b-a).toNat:Int):=by
   unfold Builtin.Range.rangeSize;rw[if_pos (by decide)]
   split<;>(first|exact XT (by assumption)|exact ag 0 2 (aa (dH (aM aq aK)) (aS aJ (az (dz (bR aK aq))))) (by kd_p) (by assumption))
  refine wpAny_pyIter_range (I.holds _ _ e) hs (hQ _ _ [s.heap.objs.size] (fun i v=>∃t,v=.int (a+i*1) t) (fun i h=>IsRangeIter h s.heap.objs.size (a+(i:Nat)*1) (((b-a).toNat:Int)-(i:Nat)) 1) (cx _) (bN _ _) (fun _ _ st=>⟨_,st⟩) (fun A' jR=>?_) (fun i y hi p=>?_) ?_ fun b hb=>.inl (List.mem_singleton.mp hb))
  ·have:=Walks.range (prog:=G.prog) (w:=G.w) jR s.heap.objs.size a 1 (b-a).toNat
   rw[show(cI a b).length=(b-a).toNat by simp[cI]]
   exact this
  ·obtain⟨t',rfl⟩:=p
   have DW:i<(b-a).toNat:=by simpa[cI] using hi
   refine⟨.int (a+(i:Int)*1),?_,.int⟩;simp[cI,DW]
  ·show(s.heap.push _).get? s.heap.objs.size=_
   rw[Heap.get?_push_size _ rfl,bG];simp
noncomputable def forL(step:V→aw→Mu→(Fl→aw→Mu→Prop)→Prop):List V→aw→Mu→(Fl→aw→Mu→Prop)→Prop
 |[],U,O,Q=>Q .next U O
 |x::xs,U,O,Q=>step x U O fun r ao ar=>match r with
  |.next=>forL step xs ao ar Q
  |.cont=>forL step xs ao ar Q
  |.brk=>Q .next ao ar
  |.ret v=>Q (.ret v) ao ar
theorem aG.fL{W:List Addr}{B B':ay}{Z aH:List Addr}{ar:Mu}{s s':Shared}{h':Heap}{tk:Nat}{it:Addr}(P:aG G W B Z s B' aH ar s')(hn:s.heap.get? it=none)(hB:B' it=none)(dJ:it∉aH)(ht:it∉tabs)(hW:it∉W)
  (k:∀b o,b≠it→s'.heap.get? b=some o→h'.get? b=some o):aG G W B Z s B' aH ar {s' with heap:=h',toks:=tk}:=by
 have I:=P.inv;refine⟨P.le,P.pre,⟨I.base,fun a o e=>k a o (fun q=>by subst q;rw[hB]at e;exact bk e) (I.holds a o e),I.len,fun i a xs h1 h2=>?_,fun a m=>?_,I.nodup,I.cg,
  G.hT.mono I.tab (.refl _) fun a m o e=>k a o (fun q=>ht (q▸m)) e,I.ei⟩,fun b o hb e=>?_,fun a m=>?_,P.rest.trans .heap,P.dD,P.c8⟩
 ·refine eh (I.ml i a xs h1 h2) ?_;intro e vs n g r
  exact⟨e,vs,n,k _ _ (fun q=>dJ (q▸List.mem_of_getElem? h1)) g,r⟩
 ·obtain⟨o,e⟩:=I.dm a m;exact⟨o,k _ _ (fun q=>dJ (q▸m)) e⟩
 ·exact k b o (fun q=>by subst q;rw[hn]at e;exact bk e) (P.keep b o hb e)
 ·obtain⟨o,e⟩:=P.bL a m;exact⟨o,k _ _ (fun q=>hW (q▸m)) e⟩
theorem bt.fL{env:Env}{B:ay}{Z:List Addr}{U:aw}{h h':Heap}{it:Addr}(F:bt G env B Z U h)(hL:env.locals≠it)(hC:∀n c,(n,c)∈env.cells→c≠it)(k:∀b o,b≠it→h.get? b=some o→h'.get? b=some o):bt G env B Z U h':=by
 refine aW F.ns ?_;intro m z1;obtain⟨o,es,ep,e,r⟩:=z1;intro hm;refine⟨F.kind,F.gl,F.bi,⟨m,⟨o,es,ep,k _ _ hL e,r⟩,hm⟩,fun x v hx=>?_,F.cU,fun n c hc=>?_,F.inj,F.all⟩
 ·rcases F.cl x v hx with h|⟨hk,c,u,hc,⟨o',eo,ed⟩,h2⟩
  ·exact .inl h
  ·exact .inr ⟨hk,c,u,hc,⟨o',k _ _ (hC _ c (aY hc)) eo,ed⟩,h2⟩
 ·refine cw (F.dG n c hc) ?_;intro a1 a2 a3 a4 v o' eo ed
  exact⟨a1,a2,a3,a4,v,o',k _ _ (hC n c hc) eo,ed⟩
abbrev X0(prog:Program)(w:World)(A:Around)(body:List Stmt)(env:Env)(E:Flow→Shared→Prop):Unit→Shared→Prop:=fun zz s=>wpAny (model prog w) A (execs body env) E bM s
abbrev X2(prog:Program)(w:World)(A:Around)(target:Expr)(body:List Stmt)(env:Env)(v:Value)(E:Flow→Shared→Prop):Unit→Shared→Prop:=fun zz s=>wpAny (model prog w) A (assign target env v) (X0 prog w A body env E) bM s
theorem GL{prog:Program}{w:World}{A:Around}{s:Shared}{R:Result→Shared→Prop}{target:Expr}{it:Value}{body:List Stmt}{env:Env}(P:Flow→Shared→Prop)(I:Nat→Shared→Prop)(hR:∀f s,P f s→R (.ok f) s)
  (turn:∀n s (K:Option Value→Shared→Prop),I n s→(∀s1,P .next s1→K none s1)→
   (∀v s1,(∀E:Flow→Shared→Prop,(∀m s,m<n→I m s→E .next s∧E .cont s)→(∀s,P .next s→E .brk s)→(∀v s,P (.ret v) s→E (.ret v) s)→
    wpAny (model prog w) A (letOwnedTupleGo target it v) (X2 prog w A target body env v E) bM s1)→K (some v) s1)→wpAny (model prog w) A (pyNext it) K bM s)
  (n:Nat)(h:I n s):codeAny (model prog w) A (.forLoop target it body [] env) R s:=by
 refine codeAny_forLoop_any I (fun n s hI=>wpAny_mono (turn n s _ hI (fun s1 bf=>wpAny_execs_nil (hR _ _ bf)) fun v s1 bf=>?_) (fun zz zz x=>x) fun zz zz x=>x.elim) n h;exact wpAny_mono (bf (fun f s3=>match f with | .next=>∃m,m<n∧I m s3 | .cont=>∃m,m<n∧I m s3 | .brk=>R (.ok .next) s3 | .ret v=>R (.ok (.ret v)) s3) (fun m zz a b=>⟨⟨m,a,b⟩,⟨m,a,b⟩⟩) (fun zz x=>hR _ _ x) (fun zz zz x=>hR _ _ x))
  (fun zz s h=>wpAny_mono h (fun zz s h=>wpAny_mono h (fun f s h=>by cases f<;>exact h) fun zz zz x=>x.elim) fun zz zz x=>x.elim) fun zz zz x=>x.elim
abbrev qZ(G:dk)(n:Nat)(env:Env)(own:List Nat)(target:Expr)(body:List Stmt):V→aw→Mu→(Fl→aw→Mu→Prop)→Prop:=fun x U O k=>gF G n env own (assign target env) x U O fun ao ar=>cn G n env own (execs body env) ao ar k
inductive X3(G:dk)(env:Env)(own:List Nat)(it:Addr)(St:Nat→Heap→Prop)(xs:List V)(T:V→aw→Mu→(Fl→aw→Mu→Prop)→Prop)(Q:Fl→aw→Mu→Prop)(B1:ay)(aE:List Addr)(s1:Shared)(k:Nat)(s':Shared):Prop
 |mk (i:Nat) (ao:aw) (ar:Mu) (B':ay) (aH:List Addr) (hi:i≤xs.length) (hm:k=xs.length-i) (st:St i s'.heap) (P:aG G (fa G env own) B1 aE s1 B' aH ar s') (F:bt G env B' aH ao s'.heap) (hB:B' it=none) (dJ:it∉aH) (hL:forL T (xs.drop i) ao ar Q)
theorem xD{n:Nat}{env:Env}{own:List Nat}{U:aw}{Q:Fl→aw→Mu→Prop}{target iter:Expr}{body:List Stmt}{pos:Pos}{A:Around}(hA:bY n A){B:ay}{Z:List Addr}{s:Shared}(F:bt G env B Z U s.heap)
  (h:∀ (K:Value→Shared→Prop),(∀B1 aE aA s1 xs it h' fp P St,forL (qZ G n env own target body) xs U aA Q→aG G [] B Z s B1 aE aA s1→s1.heap.get? it=none→(∀b o,s1.heap.get? b=some o→h'.get? b=some o)→(∀i h,St i h→∃o,h.get? it=some o)→
    (∀A',A'.handled=none→Walks G.prog G.w A' it fp [it] xs.length P St)→(∀ (i:Nat) y,i<xs.length→P i y→∃x,xs[i]?=some x∧VR B1 aE x y)→St 0 h'→(∀b∈fp,b=it∨B1 b≠none)→K (.ref it) {s1 with heap:=h'})→
   wpAny (model G.prog G.w) A (eval iter env) (fun u s'=>wpAny (model G.prog G.w) A (pyIter u) K bM s') bM s)
  (hf:∀x,foldedSetIterable iter env x=pure x)(ht:∀it v,letOwnedTupleGo target it v=pure ()):
  wpAny (model G.prog G.w) A (exec (.For target iter body [] pos) env) (PS G env own B Z s Q) bM s:=by
 refine wpAny_For (wpAny_mono (h _ ?_) (fun zz zz x=>x) fun zz zz x=>x) hf;intro B1 aE aA s1 xs it h' fp P St hL P1 hn hk dd W hP fY Kz;have F1:=F.same P1;have GN:it∉tabs:=P1.inv.i4 hn;have GO:it∉fa G env own:=fun m=>by obtain⟨o,e⟩:=F1.bL it m;rw[hn]at e;exact bk e
 have GP:env.locals≠it:=fun q=>by refine aW F1.ns ?_;intro m z1;obtain⟨o,_,_,e,_⟩:=z1;intro zz;rw[q,hn]at e;exact bk e
 have GQ:∀n c,(n,c)∈env.cells→c≠it:=fun n c m q=>by refine cw (F1.dG n c m) ?_;intro zz zz zz zz v o e zz;rw[q,hn]at e;exact bk e
 have PG:aG G (fa G env own) B1 aE s1 B1 aE aA {s1 with heap:=h'}:=P1.inv.kr (t:=s1.toks) hk F1.bL
 refine GL (PS G env own B Z s Q) (X3 G env own it St xs (qZ G n env own target body) Q B1 aE s1) (fun zz zz x=>x) ?_ xs.length
  (.mk 0 U aA B1 aE (Nat.zero_le _) rfl fY PG (F1.fL (it:=it) GP GQ (fun b o zz e=>hk b o e)) (P1.inv.eY hn) (P1.inv.fI hn) hL)
 intro k s' K z hN hS;cases z with|mk i ao ar B' aH hi hm pg P' F' AB yY qc=>?_
 have aab:∀ {ky:Heap},(∀b o,B' b=some o→ky.get? b=some o)→∀ {b},b∈fp→b≠it→∀o,s'.heap.get? b=some o→ky.get? b=some o:=by
  intro ky hh b hb e8 o e;rcases Kz b hb with q|q
  ·exact absurd q e8
  ·cases hq:B1 b with
   |none=>exact absurd hq q
   |some o'=>
    have e1:=P'.inv.holds b o' (P'.le b o' hq);rw[e]at e1;cases Option.some.inj e1;exact hh b _ (P'.le b _ hq)
 by_cases bA:i<xs.length
 ·refine(W A hA.handled).item i s' K bM bA pg ?_
  intro y bu tk hy vX iQ;have iD:∀b o,b≠it→s'.heap.get? b=some o→bu.get? b=some o:=fun b o q=>iQ b o (by simpa using q)
  refine aW (hP i y bA hy) ?_;intro x hx rx;have hd:xs.drop i=x::xs.drop (i+1):=by
   rw[List.drop_eq_getElem_cons bA];rw[List.getElem?_eq_getElem bA]at hx;cases Option.some.inj hx;rfl
  rw[hd]at qc;have P2:=P'.fL (tk:=tk) hn AB yY GN GO iD;have F2:=F'.fL GP GQ iD;refine hS y _ fun E hE PH PI=>wpAny_of_eq (ht _ y) (wpAny_mono (qc A hA B' aH _ y P2.inv F2 (rx.mono P'.le P'.pre)) ?_ fun zz zz x=>x);rintro zz s3 ⟨gG,dK,B3,dI,vY,P3,F3⟩;refine wpAny_mono (vY A hA B3 dI s3 P3.inv F3) ?_ fun zz zz x=>x;rintro fl s4 ⟨r,ph,oy,B4,fy,q,P4,F4,r4⟩;have P5:=P3.trans P4;obtain⟨oit,TX⟩:=dd _ _ vX;have TY:St (i+1) s4.heap:=by
   refine(W A hA.handled).frame (i+1) bu s4.heap vX fun b hb o e=>?_
   by_cases DX:b=it
   ·subst DX;exact P5.kept e GO yY GN
   ·rcases Kz b hb with z|z
    ·exact absurd z DX
    ·cases hq:B1 b with
     |none=>exact absurd hq z
     |some o'=>
      have e1:=P2.inv.holds b o' (P'.le b o' hq);rw[e]at e1;cases Option.some.inj e1;exact P5.inv.holds b _ (P5.le b _ (P'.le b _ hq))
  have next:forL (qZ G n env own target body) (xs.drop (i+1)) ph oy Q→E .next s4∧E .cont s4:=fun q=>
   hE _ _ (by rw[hm];exact FY bA) (.mk (i+1) ph oy B4 fy bA rfl TY (P2.trans P5) F4 (P5.eY TX AB yY) (P5.fI TX yY) q)
  cases r4 with
  |next=>exact(next q).1
  |cont=>exact(next q).2
  |brk=>exact PH _ ⟨.next,ph,oy,B4,fy,q,(P1.wide F).trans (P2.trans P5),F4,.next⟩
  |ret r=>exact PI _ _ ⟨.ret _,ph,oy,B4,fy,q,(P1.wide F).trans (P2.trans P5),F4,.ret r⟩
 ·have AD:i=xs.length:=by exact OT hi bA
  subst AD;refine(W A hA.handled).done s' K bM pg ?_;intro bu tk iQ;have iD:∀b o,b≠it→s'.heap.get? b=some o→bu.get? b=some o:=fun b o q=>iQ b o (by simpa using q)
  have P2:=P'.fL (tk:=tk) hn AB yY GN GO iD;have F2:=F'.fL GP GQ iD;refine hN _ ?_;rw[List.drop_length]at qc;exact⟨.next,ao,ar,B',aH,qc,(P1.wide F).trans P2,F2,.next⟩
theorem PJ{n:Nat}{env:Env}{own:List Nat}{U:aw}{O:Mu}{Q:Fl→aw→Mu→Prop}{target iter:Expr}{body:List Stmt}{pos:Pos}
  (h:bz G n env (eval iter env) U O fun v aA=>∃xs,Iter G v aA xs∧forL (qZ G n env own target body) xs U aA Q)
  (hf:∀x,foldedSetIterable iter env x=pure x)(ht:∀it v,letOwnedTupleGo target it v=pure ()):
  cn G n env own (exec (.For target iter body [] pos) env) U O Q:=by
 intro A hA B Z s I F;refine xD hA F (fun K hK=>wpAny_mono (h A hA B Z s I F) ?_ fun zz zz x=>x) hf ht;rintro u s1 ⟨v,aA,B1,aE,q,P1,r1⟩;exact q.elim fun xs q=>q.1 A B1 aE s1 u K _ P1.inv r1 fun it h' fp P St=>hK B1 aE aA s1 xs it h' fp P St q.2 P1
end
variable{G:dk}
theorem Inv.jS{B:ay}{Z:List Addr}{O:Mu}{h:Heap}(I:Inv G B Z O h):G.K.In h:=fun a o e=>I.holds a o (I.base a o (G.hK a o e))
theorem Inv.noLimit{B:ay}{Z:List Addr}{O:Mu}{h:Heap}(I:Inv G B Z O h):h.NoLimit:=G.nolimit h fun a o e=>I.holds a o (I.base a o e)
theorem GR{n:Nat}{env:Env}{own:List Nat}{U:aw}{O:Mu}{Q:Fl→aw→Mu→Prop}{test:Expr}{body:List Stmt}{pos:Pos}(J:Nat→aw→Mu→Prop)(k0:Nat)(h0:J k0 U O)
  (turn:∀k U O,J k U O→fX G n env (isTrue test env (eval test env)) U O fun b ar=>match b with
   |true=>cn G n env own (execs body env) U ar fun r fJ cT=>match r with
    |.next=>∃m,m<k∧J m fJ cT
    |.cont=>∃m,m<k∧J m fJ cT
    |.brk=>Q .next fJ cT
    |.ret v=>Q (.ret v) fJ cT
   |false=>Q .next U ar):
  cn G n env own (exec (.While test body [] pos) env) U O Q:=by
 intro A hA B Z s I F;refine wpAny_While (codeAny_whileLoop (fun k s'=>∃ao ar B' aH,aG G (fa G env own) B Z s B' aH ar s'∧bt G env B' aH ao s'.heap∧J k ao ar) ?_ k0 ⟨U,O,B,Z,aG.refl I F.bL,F,h0⟩);rintro k s' ⟨ao,ar,B',aH,P',F',hJ⟩;refine wpAny_mono (turn k ao ar hJ A hA B' aH s' P'.inv F') ?_ fun zz zz x=>x.elim;rintro b s1 ⟨aA,B1,aE,bf,P1⟩;have F1:=F'.same P1;have P:=P'.trans (P1.wide F');cases b with
 |false=>exact wpAny_execs_nil ⟨.next,ao,aA,B1,aE,bf,P,F1,.next⟩
 |true=>
  refine wpAny_mono (bf A hA B1 aE s1 P1.inv F1) ?_ fun zz zz x=>x.elim;rintro fl s2 ⟨r,b9,aZ,B2,aV,bu,P2,F2,r2⟩;cases r2 with
  |next=>refine aW bu ?_;clear bu;intro m hm hj;exact⟨m,hm,b9,aZ,B2,aV,P.trans P2,F2,hj⟩
  |cont=>refine aW bu ?_;clear bu;intro m hm hj;exact⟨m,hm,b9,aZ,B2,aV,P.trans P2,F2,hj⟩
  |brk=>exact⟨.next,b9,aZ,B2,aV,bu,P.trans P2,F2,.next⟩
  |ret r=>exact⟨.ret _,b9,aZ,B2,aV,bu,P.trans P2,F2,.ret r⟩
theorem dp{M:Model}{A:Around}{E:Value→Shared→Prop}{s:Shared}{scope:Scope}{globals:Addr}{closure:List (Str×Addr)}{binds:List (Str×Value)}{qual:Str}{func:Option Addr}{code:Value}{around:Option Env}{builtins:Addr}{Q:Env→Shared→Prop}
  (h:wpAny M A (forIn binds (⟨⟩:PUnit) fun x zz=>do storeName (newEnv scope s.heap.objs.size globals (cellsFrom (s.heap.objs.size+1) scope.names closure) qual func code around builtins) x.1 x.2;pure (.yield ⟨⟩))
   (fun zz s'=>Q (newEnv scope s.heap.objs.size globals (cellsFrom (s.heap.objs.size+1) scope.names closure) qual func code around builtins) s') E
   {s with heap:=pushCells (s.heap.push {cls:=.type (if around.isSome then "dict" else "frame"),data:=.dict #[]}) scope.names}):
  wpAny M A (newFunctionEnv scope globals closure binds qual func code around builtins) Q E s:=by
 have e:({s with heap:=s.heap.push {cls:=.type (if around.isSome then "dict" else "frame"),data:=.dict #[]}}:Shared).heap.objs.size=s.heap.objs.size+1:=Heap.size_push ..
 cases around with
 |none=>
  simp only[newFunctionEnv,Option.isSome_none,Bool.false_eq_true,if_false];refine wpAny_bind (wpAny_alloc ?_);refine wpAny_bind (wpAny_layCells _ (fun name kind cells=>by cases PK:kind==NameKind.cell<;>simp[PK]) _ _ _ _ ?_)
  rw[show({s with heap:=s.heap.push {cls:=.type "frame",data:=.dict #[]}}:Shared).heap.objs.size=s.heap.objs.size+1 from Heap.size_push ..]
  exact wpAny_bind (wpAny_mono h (fun zz zz q=>wpAny_pure q) fun zz zz x=>x)
 |some o=>
  simp only[newFunctionEnv,Option.isSome_some,if_true];refine wpAny_bind (wpAny_alloc ?_);refine wpAny_bind (wpAny_layCells _ (fun name kind cells=>by cases PK:kind==NameKind.cell<;>simp[PK]) _ _ _ _ ?_)
  rw[show({s with heap:=s.heap.push {cls:=.type "dict",data:=.dict #[]}}:Shared).heap.objs.size=s.heap.objs.size+1 from Heap.size_push ..]
  exact wpAny_bind (wpAny_mono h (fun zz zz q=>wpAny_pure q) fun zz zz x=>x)
inductive fZ(B:ay)(Z:List Addr):List (Str×Value)→List (Nat×V)→Prop where
 |nil:fZ B Z [] []
 |cons {x:Nat} {v:V} {u:Value} {bs:List (Str×Value)} {ps:List (Nat×V)}:VR B Z v u→fZ B Z bs ps→fZ B Z ((G.nm x,u)::bs) ((x,v)::ps)
noncomputable def bc(U:aw):List (Nat×V)→aw
 |[]=>U
 |(x,v)::ps=>bc (set U x v) ps
theorem jm{env:Env}{own:List Nat}{B:ay}{Z:List Addr}{O:Mu}{A:Around}{E:Value→Shared→Prop}{bs:List (Str×Value)}{ps:List (Nat×V)}(hb:fZ (G:=G) B Z bs ps):
  ∀ {U:aw} {s:Shared} {Q:PUnit→Shared→Prop},(∀p∈ps,nR G env own p.1)→Inv G B Z O s.heap→bt G env B Z U s.heap→
   (∀h' tk,bt G env B Z (bc U ps) h'→aG G (fa G env own) B Z s B Z O {s with heap:=h',toks:=tk}→Q ⟨⟩ {s with heap:=h',toks:=tk})→
   wpAny (model G.prog G.w) A (forIn bs (⟨⟩:PUnit) fun x zz=>do storeName env x.1 x.2;pure (.yield ⟨⟩)) Q E s:=by
 induction hb with
 |nil=>intro U s Q zz I F hQ;rw[List.forIn_nil];exact wpAny_pure (hQ s.heap s.toks F (aG.refl I F.bL))
 |cons r _ ih=>
  intro U s Q hk I F hQ;rw[List.forIn_cons];refine wpAny_bind (wpAny_bind ?_);refine gu (hk _ (.head _)).1 (hk _ (.head _)).2 I F r fun h' tk F' P=>?_;refine wpAny_pure (ih (fun p hp=>hk p (.tail _ hp)) P.inv F' fun ky TZ GS X4=>hQ ky TZ GS (P.trans X4))
theorem fz{h:Heap}{a:Addr}(e:h.objs.size≤a):h.get? a=none:=by
 cases q:h.get? a with
 |none=>rfl
 |some o=>exact absurd (Heap.lt_size q) (Nat.not_lt.mpr e)
def xE(B:ay)(Z:List Addr)(names:List (Str×NameKind))(h:Heap)(cl:List (Str×Addr)):Prop:=
 (∀n c,(n,c)∈cl→(names.lookup n=some .free∨B c=none)∧c∉Z∧c∉tabs∧∃v,h.IsCell c v)∧cl.Pairwise fun x y=>x.2≠y.2
theorem cJ:∀ (names:List (Str×NameKind)) (h:Heap) (lo:Nat) (cl acc:List (Str×Addr)),(∀n c,(n,c)∈cl→∃v,h.IsCell c v)→(∀n c,(n,c)∈acc→(n,c)∈cl∨(h.IsCell c none∧lo≤c))→acc.Pairwise (fun x y=>x.2≠y.2)→lo≤h.objs.size→
  (∀n c,(n,c)∈cellsFrom h.objs.size names acc→(n,c)∈cl∨((pushCells h names).IsCell c none∧lo≤c))∧(cellsFrom h.objs.size names acc).Pairwise (fun x y=>x.2≠y.2)
 |[],h,lo,cl,acc,cj,x,y,hU=>⟨x,y⟩
 |(name,kind)::r,h,lo,cl,acc,cj,x,y,hU=>by
  unfold pushCells cellsFrom;split
  ·have:=cJ r (h.push {cls:=.type "cell",data:=.cell none}) lo cl ((name,h.objs.size)::acc) (fun n c m=>let⟨v,hv⟩:=cj n c m;⟨v,hv.keeps fun b o e=>Heap.get?_push_of_some _ e⟩)
    (fun n c hm=>by
     rcases List.mem_cons.mp hm with e|hm
     ·cases e;exact .inr ⟨⟨_,Heap.get?_push_size _ rfl,rfl⟩,hU⟩
     ·exact(x n c hm).imp id fun z=>⟨z.1.keeps fun b o e=>Heap.get?_push_of_some _ e,z.2⟩)
    (List.pairwise_cons.mpr ⟨fun z hz e=>by
     have e':h.objs.size=z.2:=e;rcases x z.1 z.2 hz with m|m
     ·obtain⟨v,hv⟩:=cj _ _ m;exact Nat.lt_irrefl _ (e'▸hv.lt)
     ·exact Nat.lt_irrefl _ (e'▸m.1.lt),y⟩) (by rw[Heap.size_push];exact Ax hU)
   rwa [Heap.size_push]at this
  ·exact cJ r h lo cl acc cj x y hU
theorem bt.fresh{B:ay}{Z:List Addr}{O:Mu}{h:Heap}{scope:Scope}{cl:List (Str×Addr)}{fo:Obj}{env:Env}(I:Inv G B Z O h)(hf:∃c,fo={cls:=.type c,data:=.dict #[]})(hC:xE B Z scope.names h cl)
  (lj:∀n,scope.names.lookup n=some .cell→True)
  (dM:env.scope=scope)(hL:env.locals=h.objs.size)(hc:env.cells=cellsFrom (h.objs.size+1) scope.names cl)(hk:scope.kind=.function)(hg:env.globals=mainGlobals)(hb:env.builtins=builtinsNs):
  bt G env B Z [] (pushCells (h.push fo) scope.names):=by
 obtain⟨fc,rfl⟩:=hf;have k1:=bN h {cls:=.type fc,data:=.dict #[]};have k2:=pushCells_keeps scope.names (h.push {cls:=.type fc,data:=.dict #[]});have ok:=cJ scope.names (h.push {cls:=.type fc,data:=.dict #[]}) (h.objs.size+1) cl cl (fun n c m=>let⟨_,_,_,v,hv⟩:=hC.1 n c m;⟨v,hv.keeps k1⟩) (fun n c m=>.inl m) hC.2 (by rw[Heap.size_push];exact Nat.le_refl _)
 rw[Heap.size_push]at ok;have hn:=cx h;refine⟨dM▸hk,hg,hb,⟨fun zz=>none,?_,(fun x v hx=>by cases hx)⟩,(fun x v hx=>by cases hx),?_,fun n c m=>?_,fun n n' c e e'=>?_,fun n e=>?_⟩
 ·rw[hL];exact(Heap.Ns.new h (.type fc)).keeps k2
 ·rw[hL];exact⟨I.eY hn,I.fI hn,I.i4 hn⟩
 ·rw[hc]at m
  rcases ok.1 n c m with q|⟨q,q'⟩
  ·refine GA (hC.1 n c q) ?_;intro a1 a2 a3 v hv
   exact⟨by unfold Env.kindOf;rw[dM];exact a1,a2,a3,by rw[hL];exact Nat.ne_of_lt hv.lt,v,(hv.keeps k1).keeps k2⟩
  ·have ew:h.get? c=none:=fz (by exact OU q')
   exact⟨.inr (I.eY ew),I.fI ew,I.i4 ew,by rw[hL];exact Nat.ne_of_gt q',none,q⟩
 ·rw[hc]at e e'
  exact name_of_addr ok.2 (mem_of_lookup e) (mem_of_lookup e')
 ·rw[hc]
  have:((cellsFrom (h.objs.size+1) scope.names cl).lookup n).isSome=true:=cellsFrom_some _ _ _ (.inl (by rw[←dM];exact e))
  exact Option.isSome_iff_exists.mp this
theorem Inv.shrink{B:ay}{Z aH:List Addr}{O:Mu}{h:Heap}(I:Inv G B aH O h)(p:Z <+: aH)(p0:G.A₀ <+: Z):Inv G B Z (O.take Z.length) h:=by
 obtain⟨t,rfl⟩:=p;refine⟨I.base,I.holds,?_,fun i a xs h1 h2=>?_,fun a m=>I.dm a (List.mem_append_left _ m),(List.nodup_append.mp I.nodup).1,fun a m=>⟨(I.cg a m).1,fun q=>(I.cg a m).2 (List.mem_append_left _ q)⟩,I.tab,I.ei.shrink (List.prefix_append _ _) p0⟩
 ·have:=I.len;simp at this ⊢;exact ag 3 0 (aa (ax (aj au ab) af) (ax au (jP au af))) (by kd_p) this
 ·have hi:=(List.getElem?_eq_some_iff.mp h1).1
  rw[List.getElem?_take,if_pos hi]at h2;exact I.ml i a xs (by rw[List.getElem?_append_left hi];exact h1) h2
theorem aG.outside{W:List Addr}{B B':ay}{Z aH:List Addr}{ar:Mu}{s s1 s':Shared}(p0:G.A₀ <+: Z)(k:∀b o,s.heap.get? b=some o→s1.heap.get? b=some o)(hr:Rest s s1)(P:aG G W B Z s1 B' aH ar s')(hW:∀a∈W,s.heap.get? a=none):
  aG G [] B Z s B' Z (ar.take Z.length) s':=by
 refine⟨P.le,List.prefix_refl _,P.inv.shrink P.pre p0,fun b o hb e=>?_,(fun zz m=>nomatch m),hr.trans P.rest,fun a ha=>?_,fun a ha=>.inl ha⟩
 ·refine P.keep b o (fun m=>?_) (k b o e)
  rcases List.mem_append.mp m with m|m
  ·rw[hW b m]at e;exact bk e
  ·exact hb (by simpa using m)
 ·rcases P.dD a ha with q|q|q
  ·exact .inl q
  ·exact .inr (.inl q)
  ·refine .inr (.inr ?_)
   cases z:s.heap.get? a with
   |none=>rfl
   |some o=>rw[k a o z]at q;exact fe q
section
theorem aG.PL{W W':List Addr}{B B':ay}{Z aH:List Addr}{ar:Mu}{s s':Shared}(h:aG G W B Z s B' aH ar s')(hs:∀a∈W,a∈W')(hx:∀a∈W',a∉W→(∃o,s.heap.get? a=some o)∧a∉Z∧a∉tabs):aG G W' B Z s B' aH ar s':=by
 refine⟨h.le,h.pre,h.inv,h.keep.mono fun a m=>?_,fun a m=>?_,h.rest,h.dD,h.c8⟩
 ·rcases List.mem_append.mp m with m|m
  ·exact List.mem_append_left _ (hs a m)
  ·exact List.mem_append_right _ m
 ·by_cases q:a∈W
  ·exact h.bL a q
  ·refine qa (hx a m q) ?_;intro z1;obtain⟨o,e⟩:=z1;intro a1 a2
   exact⟨o,h.kept e q a1 a2⟩
def Off(B:ay)(Z:List Addr)(a:Addr):Prop:=B a=none∧a∉Z∧a∉tabs
theorem Off.step{W:List Addr}{B B':ay}{Z aH:List Addr}{ar:Mu}{s s':Shared}{a:Addr}(o:Off B Z a)(P:aG G W B Z s B' aH ar s')(e:∃x,s.heap.get? a=some x):Off B' aH a:=
 let⟨_,e⟩:=e;⟨P.eY e o.1 o.2.1,P.fI e o.2.1,o.2.2⟩
theorem Inv.off{B:ay}{Z:List Addr}{O:Mu}{h:Heap}(I:Inv G B Z O h){a:Addr}(e:h.get? a=none):Off B Z a:=⟨I.eY e,I.fI e,I.i4 e⟩
theorem Inv.pj{W:List Addr}{B:ay}{Z:List Addr}{O:Mu}{s:Shared}{h':Heap}{tk:Nat}{a:Addr}(I:Inv G B Z O s.heap)(ha:a∈W)(o:Off B Z a)(k:∀b o,b≠a→s.heap.get? b=some o→h'.get? b=some o)(hx:∃o,h'.get? a=some o)
  (hW:∀b∈W,∃o,s.heap.get? b=some o):aG G W B Z s B Z O {s with heap:=h',toks:=tk}:=by
 refine⟨.refl _,List.prefix_refl _,⟨I.base,fun b x hb=>k b x (fun q=>by subst q;rw[o.1]at hb;exact bk hb) (I.holds b x hb),I.len,fun j b zs h1 h2=>?_,fun b hb=>?_,I.nodup,I.cg,
  G.hT.mono I.tab (.refl _) fun b hb x g=>k b x (fun q=>o.2.2 (q▸hb)) g,I.ei⟩,fun b x hb g=>k b x (fun q=>hb (by subst q;simp[ha])) g,fun b hb=>?_,.heap,fun zz h=>.inl h,fun zz h=>.inl h⟩
 ·refine eh (I.ml j b zs h1 h2) ?_;intro e us m g r
  exact⟨e,us,m,k b _ (fun q=>o.2.1 (q▸List.mem_of_getElem? h1)) g,r⟩
 ·obtain⟨x,e⟩:=I.dm b hb
  exact⟨x,k b x (fun q=>o.2.1 (q▸hb)) e⟩
 ·by_cases q:b=a
  ·subst q;exact hx
  ·obtain⟨x,e⟩:=hW b hb;exact⟨x,k b x q e⟩
noncomputable def cb(turn:V→aw→Mu→List V→(aw→Mu→List V→Prop)→Prop):List V→aw→Mu→List V→(aw→Mu→List V→Prop)→Prop
 |[],U,O,acc,k=>k U O acc
 |x::xs,U,O,acc,k=>turn x U O acc fun ao ar nZ=>cb turn xs ao ar nZ k
variable (G)
noncomputable def q5(n:Nat)(env:Env):List Expr→aw→Mu→(Bool→Mu→Prop)→Prop
 |[],_,O,k=>k true O
 |[c],U,O,k=>fX G n env (isTrue c env (eval c env)) U O k
 |_,_,_,_=>False
def gb(n:Nat)(env:Env)(own:List Nat)(elt target:Expr)(ifs:List Expr)(x:V)(U:aw)(O:Mu)(acc:List V)(k:aw→Mu→List V→Prop):Prop:=
 gF G n env own (assign target env) x U O fun a9 aA=>q5 G n env ifs a9 aA fun b aZ=>match b with
  |false=>k a9 aZ acc
  |true=>bz G n env (eval elt env) a9 aZ fun v dK=>acc.length<sizeLine∧k a9 dK (acc++[v])
def gK(n:Nat)(env:Env)(own:List Nat)(elt t0:Expr)(f0:List Expr)(i1 t1:Expr)(f1:List Expr)(x:V)(U:aw)(O:Mu)(acc:List V)(k:aw→Mu→List V→Prop):Prop:=
 gF G n env own (assign t0 env) x U O fun a9 aA=>q5 G n env f0 a9 aA fun b aZ=>match b with
  |false=>k a9 aZ acc
  |true=>bz G n env (eval i1 env) a9 aZ fun v dK=>∃xs,Iter G v dK xs∧cb (gb G n env own elt t1 f1) xs a9 dK acc k
variable {G}
theorem tA(elt t0 i0 t1 i1:Expr)(f0 f1:List Expr)(scope:Scope)(pos:Pos)(it acc:Value)(env:Env):
  compTurn (.ListComp elt [⟨t0,i0,f0,0⟩,⟨t1,i1,f1,0⟩] scope pos) 1 it acc env=(do
   standAt i1.pos
   match ←pyNext it with
   |none=>pure (.done .next)
   |some v=>
    letOwnedTupleGo t1 it v
    assign t1 env v
    let mut ok:=true
    for c in f1 do
     if ok then ok ←isTrue c env (eval c env)
    if ok then
     (do let _ ←call (.builtin "list.append") [acc,←eval elt env])
    again (.compLoop (.ListComp elt [⟨t0,i0,f0,0⟩,⟨t1,i1,f1,0⟩] scope pos) 1 it acc env)):=by rfl
theorem tB(elt t0 i0 t1 i1:Expr)(f0 f1:List Expr)(scope:Scope)(pos:Pos)(it acc:Value)(env:Env):
  compTurn (.ListComp elt [⟨t0,i0,f0,0⟩,⟨t1,i1,f1,0⟩] scope pos) 0 it acc env=(do
   standAt i0.pos
   match ←pyNext it with
   |none=>pure (.done .next)
   |some v=>
    letOwnedTupleGo t0 it v
    assign t0 env v
    let mut ok:=true
    for c in f0 do
     if ok then ok ←isTrue c env (eval c env)
    if ok then
     let x ←eval i1 env
     standAt i1.pos
     let x ←foldedSetIterable i1 env x
     let _ ←runOwn (.compStart (.ListComp elt [⟨t0,i0,f0,0⟩,⟨t1,i1,f1,0⟩] scope pos) 1 (←holding [x] (pyIter x)) acc env) env
    again (.compLoop (.ListComp elt [⟨t0,i0,f0,0⟩,⟨t1,i1,f1,0⟩] scope pos) 0 it acc env)):=by rfl
section
variable{prog:Program}{w:World}{A:Around}{R:Result→Shared→Prop}{s:Shared}
theorem never{Z:Type}{t:Sem Z}{Q:Z→Shared→Prop}{E:Value→Shared→Prop}(h:wpAny (model prog w) A t Q bM s):wpAny (model prog w) A t Q E s:=wpAny_mono h (fun zz zz x=>x) fun zz zz x=>x.elim
noncomputable abbrev KA(env:Env)(ifs:List Expr):Sem Bool:=forIn ifs true fun c r=>if r=true then do let ok ←isTrue c env (eval c env);pure (ForInStep.yield ok) else pure (ForInStep.yield r)
abbrev X5(prog:Program)(w:World)(A:Around)(acc:Value)(E:Shared→Prop):Value→Shared→Prop:=fun x s=>wpAny (model prog w) A (call (.builtin "list.append") [acc,x]) (fun zz=>E) bM s
abbrev T3(prog:Program)(w:World)(A:Around)(env:Env)(elt:Expr)(K:Value→Shared→Prop)(E:Shared→Prop):Bool→Shared→Prop:=fun ok s=>if ok=true then wpAny (model prog w) A (eval elt env) K bM s else E s
abbrev T4(prog:Program)(w:World)(A:Around)(env:Env)(ifs:List Expr)(K:Bool→Shared→Prop):Unit→Shared→Prop:=fun zz s=>wpAny (model prog w) A (KA env ifs) K bM s
theorem vp{e elt target iter:Expr}{ifs:List Expr}{d:Nat}{it acc:Value}{env:Env}(I:Nat→Shared→Prop)
  (ht:compTurn e d it acc env=(do
   standAt iter.pos
   match ←pyNext it with
   |none=>pure (.done .next)
   |some v=>
    letOwnedTupleGo target it v
    assign target env v
    let mut ok:=true
    for c in ifs do
     if ok then ok ←isTrue c env (eval c env)
    if ok then
     (do let _ ←call (.builtin "list.append") [acc,←eval elt env])
    again (.compLoop e d it acc env)))
  (hq:(Code.compLoop e d it acc env).quiet=true)(hu:A.under (.compLoop e d it acc env)=A)
  (hd:(model prog w).den (.compLoop e d it acc env)=(compTurn e d it acc env).onRaise fun x=>do noteFrame x env;theTreesLotGoes x)
  (hl:∀v,letOwnedTupleGo target it v=pure ())
  (turn:∀n s (K:Option Value→Shared→Prop),I n s→(∀s1,R (.ok .next) s1→K none s1)→
   (∀v s1,(∀E:Shared→Prop,(∀m s,m<n→I m s→E s)→wpAny (model prog w) A (assign target env v) (T4 prog w A env ifs (T3 prog w A env elt (X5 prog w A acc E) E)) bM s1)→K (some v) s1)→wpAny (model prog w) A (pyNext it) K bM s)
  (n:Nat)(h:I n s):codeAny (model prog w) A (.compLoop e d it acc env) R s:=by
 refine codeAny_loop hq I (fun n s hI=>?_) n h;rw[hu,hd];refine wpAny_noted (never ?_);rw[ht];refine wpAny_bind (wpAny_standAt (wpAny_bind (turn n s _ hI (fun s1 bf=>wpAny_pure bf) fun v s1 bf=>?_)));refine wpAny_bind (wpAny_of_eq (hl v) ?_);refine wpAny_bind (wpAny_mono (bf (fun s=>∃m,m<n∧I m s) fun m zz a b=>⟨m,a,b⟩) (fun zz s2 bu=>wpAny_bind (wpAny_mono bu (fun ok s3 h3=>?_) fun zz zz h'=>h')) fun zz zz h'=>h');cases ok with
 |false=>exact wpAny_pure ⟨rfl,h3⟩
 |true=>exact wpAny_bind (wpAny_bind (wpAny_mono h3 (fun x s4 h4=>wpAny_bind (wpAny_mono h4 (fun zz s5 h5=>wpAny_pure (wpAny_pure ⟨rfl,h5⟩)) fun zz zz h'=>h')) fun zz zz h'=>h'))
abbrev X6(prog:Program)(w:World)(A:Around)(e:Expr)(acc:Value)(env:Env)(E:Shared→Prop):Value→Shared→Prop:=fun x s4=>wpAny (model prog w) A (pyIter x) (fun DY s5=>codeAny (model prog w) A (.compStart e 1 DY acc env) (fun r s6=>r=.ok .next∧E s6) s5) bM s4
theorem tC{elt t0 i0 t1 i1:Expr}{f0 f1:List Expr}{scope:Scope}{pos:Pos}{it acc:Value}{env:Env}(I:Nat→Shared→Prop)
  (hl:∀v,letOwnedTupleGo t0 it v=pure ())(hs:∀x,foldedSetIterable i1 env x=pure x)
  (turn:∀n s (K:Option Value→Shared→Prop),I n s→(∀s1,R (.ok .next) s1→K none s1)→
   (∀v s1,(∀E:Shared→Prop,(∀m s,m<n→I m s→E s)→wpAny (model prog w) A (assign t0 env v) (T4 prog w A env f0 (T3 prog w A env i1 (X6 prog w A (.ListComp elt [⟨t0,i0,f0,0⟩,⟨t1,i1,f1,0⟩] scope pos) acc env E) E)) bM s1)→K (some v) s1)→wpAny (model prog w) A (pyNext it) K bM s)
  (n:Nat)(h:I n s):codeAny (model prog w) A (.compLoop (.ListComp elt [⟨t0,i0,f0,0⟩,⟨t1,i1,f1,0⟩] scope pos) 0 it acc env) R s:=by
 refine codeAny_loop rfl I (fun n s hI=>?_) n h;show wpAny _ A ((compTurn (.ListComp elt [⟨t0,i0,f0,0⟩,⟨t1,i1,f1,0⟩] scope pos) 0 it acc env).onRaise (fun x=>do noteFrame x env;theTreesLotGoes x)) _ _ s
 refine wpAny_noted (never ?_);rw[tB];refine wpAny_bind (wpAny_standAt (wpAny_bind (turn n s _ hI (fun s1 bf=>wpAny_pure bf) fun v s1 bf=>?_)));refine wpAny_bind (wpAny_of_eq (hl v) ?_);refine wpAny_bind (wpAny_mono (bf (fun s=>∃m,m<n∧I m s) fun m zz a b=>⟨m,a,b⟩) (fun zz s2 bu=>wpAny_bind (wpAny_mono bu (fun ok s3 h3=>?_) fun zz zz h'=>h')) fun zz zz h'=>h');cases ok with
 |false=>exact wpAny_pure ⟨rfl,h3⟩
 |true=>
  refine wpAny_bind (wpAny_mono h3 (fun x s4 h4=>wpAny_bind (wpAny_standAt (wpAny_bind (wpAny_of_eq (hs x) (wpAny_bind (wpAny_holding (wpAny_mono h4 (fun DY s5 h5=>?_) fun zz zz h'=>h'))))))) fun zz zz h'=>h');exact wpAny_bind (wpAny_runOwn (codeAny_mono h5 fun r s6 h6=>by obtain⟨rfl,h6⟩:=h6;exact wpAny_pure ⟨rfl,h6⟩))
end
def AccAt(B:ay)(Z:List Addr)(h:Heap)(D:Addr)(acc:List V):Prop:=∃vs k,h.get? D=some (lobj vs k)∧aB B Z acc vs
theorem vZ{n:Nat}{env:Env}{ifs:List Expr}{U:aw}{O:Mu}{Q:Bool→Mu→Prop}(h:q5 G n env ifs U O Q):
  fX G n env (forIn ifs true fun c r=>if r=true then do let ok ←isTrue c env (eval c env);pure (ForInStep.yield ok) else pure (ForInStep.yield r)) U O Q:=by
 match ifs,h with
 |[],h=>exact fun A hA B Z s I F=>wpAny_tests_nil (PB.bQ I h)
 |[c],h=>exact fun A hA B Z s I F=>wpAny_tests_one (h A hA B Z s I F)
theorem q6{A:Around}{D:Addr}{vs:List Value}{k:Nat}{x:Value}{s:Shared}{Q:Value→Shared→Prop}(e:s.heap.get? D=some (lobj vs k))(bG:vs.length≤sizeLine)
  (hQ:∀h' k',h'.get? D=some (lobj (vs++[x]) k')→Heap.SameBut D s.heap h'→Q .none {s with heap:=h'}):wpAny (model G.prog G.w) A (call (.builtin "list.append") [.ref D,x]) Q bM s:=by
 refine wpAny_call_entry slot_list_append (T:="list") ⟨_,e,rfl⟩ entry_list_append ?_ (args_list_append _ _);show wpAny _ _ (updateSeq D (·.push x) >>= fun zz=>ret .none) _ _ s
 refine wpAny_bind (wpAny_updateSeq e rfl (wpAny_pure ⟨.none,rfl,hQ _ (k+1) ?_ (Heap.SameBut.update ..)⟩) (hz:=by simpa using bG) (_hz':=by simp;omega))
 rw[Heap.get?_update_self _ e rfl];show some (Obj.mapSeq _ _)=_;simp[Obj.mapSeq]
structure CompI(cenv:Env)(own:List Nat)(D:Addr)(B:ay)(Z:List Addr)(U:aw)(O:Mu)(acc:List V)(s:Shared):Prop where
 inv:Inv G B Z O s.heap
 fr:bt G cenv B Z U s.heap
 acc:AccAt B Z s.heap D acc
 off:Off B Z D
 cU:cenv.locals≠D
 dG:∀n c,(n,c)∈cenv.cells→c≠D
theorem CompI.KC{cenv:Env}{own:List Nat}{D:Addr}{B:ay}{Z:List Addr}{U:aw}{O:Mu}{acc:List V}{s:Shared}(C:CompI (G:=G) cenv own D B Z U O acc s):∃o,s.heap.get? D=some o:=let⟨_,_,e,_⟩:=C.acc;⟨_,e⟩
theorem CompI.oz{cenv:Env}{own:List Nat}{D:Addr}{B:ay}{Z:List Addr}{U:aw}{O:Mu}{acc:List V}{s:Shared}(C:CompI (G:=G) cenv own D B Z U O acc s):D∉fa G cenv own:=fun m=>by
 rcases eu m with e|⟨n,e⟩
 ·exact C.cU e.symm
 ·exact C.dG n D (aY e) rfl
theorem CompI.step{cenv:Env}{own:List Nat}{D:Addr}{W:List Addr}{B B':ay}{Z aH:List Addr}{U ao:aw}{O ar:Mu}{acc:List V}{s s':Shared}(C:CompI (G:=G) cenv own D B Z U O acc s)(P:aG G W B Z s B' aH ar s')(F:bt G cenv B' aH ao s'.heap)(hW:D∉W):
  CompI (G:=G) cenv own D B' aH ao ar acc s':=by
 refine jX C.acc ?_;intro vs k e r;exact⟨P.inv,F,⟨vs,k,P.kept e hW C.off.2.1 C.off.2.2,r.mono P.le P.pre⟩,C.off.step P ⟨_,e⟩,C.cU,C.dG⟩
theorem CompI.post{cenv:Env}{own:List Nat}{D:Addr}{W:List Addr}{B B':ay}{Z aH:List Addr}{U:aw}{O ar:Mu}{acc:List V}{s s':Shared}(C:CompI (G:=G) cenv own D B Z U O acc s)(P:aG G W B Z s B' aH ar s')(hW:W=[]∨W=fa G cenv own):
  aG G (D::fa G cenv own) B Z s B' aH ar s':=by
 refine P.PL (fun a m=>?_) fun a m hm=>?_
 ·rcases hW with rfl|rfl
  ·cases m
  ·exact .tail _ m
 ·rcases List.mem_cons.mp m with rfl|m
  ·exact⟨C.KC,C.off.2.1,C.off.2.2⟩
  ·exact⟨C.fr.bL a m,C.fr.fI a m,C.fr.i4 a m⟩
structure qd(it:Addr)(fp:List Addr)(St:Nat→Heap→Prop)(cenv:Env)(D:Addr)(B:ay)(Z:List Addr)(i:Nat)(s:Shared):Prop where
 st:St i s.heap
 off:Off B Z it
 fp:∀b∈fp,b=it∨B b≠none
 cU:cenv.locals≠it
 dG:∀n c,(n,c)∈cenv.cells→c≠it
 tD:D≠it
theorem qd.stays{it:Addr}{fp:List Addr}{P:Nat→Value→Prop}{St:Nat→Heap→Prop}{cenv:Env}{D:Addr}{B B':ay}{Z aH:List Addr}{O ar:Mu}{i len:Nat}{s s':Shared}{A:Around}{W:List Addr}
  (J:qd it fp St cenv D B Z i s)(Wk:Walks G.prog G.w A it fp [it] len P St)(dd:∀i h,St i h→∃o,h.get? it=some o)(I:Inv G B Z O s.heap)(Q:aG G W B Z s B' aH ar s')(hW:it∉W):qd it fp St cenv D B' aH i s':=by
 obtain⟨o,e⟩:=dd _ _ J.st;refine⟨Wk.frame i s.heap s'.heap J.st fun b hb x ex=>?_,J.off.step Q ⟨o,e⟩,fun b hb=>(J.fp b hb).imp id fun q=>?_,J.cU,J.dG,J.tD⟩
 ·rcases J.fp b hb with rfl|q
  ·exact Q.kept ex hW J.off.2.1 J.off.2.2
  ·cases hq:B b with
   |none=>exact absurd hq q
   |some y=>
    have:=I.holds b y hq;rw[ex]at this;cases Option.some.inj this;exact Q.inv.holds b _ (Q.le b _ hq)
 ·cases hq:B b with
  |none=>exact absurd hq q
  |some y=>rw[Q.le b y hq];simp
theorem qd.oz{it:Addr}{fp:List Addr}{St:Nat→Heap→Prop}{cenv:Env}{own:List Nat}{D:Addr}{B:ay}{Z:List Addr}{i:Nat}{s:Shared}(J:qd it fp St cenv D B Z i s):it∉fa G cenv own:=fun m=>by
 rcases eu m with e|⟨n,e⟩
 ·exact J.cU e.symm
 ·exact J.dG n it (aY e) rfl
def hX(cenv:Env)(own:List Nat)(D:Addr)(B:ay)(Z:List Addr)(s:Shared)(k:aw→Mu→List V→Prop)(r:Result)(s':Shared):Prop:=
 r=.ok .next∧∃ao ar nZ B' aH,k ao ar nZ∧aG G (D::fa G cenv own) B Z s B' aH ar s'∧CompI (G:=G) cenv own D B' aH ao ar nZ s'
theorem CompI.write{cenv:Env}{own:List Nat}{D it:Addr}{B:ay}{Z:List Addr}{U:aw}{O:Mu}{acc:List V}{s:Shared}{bu:Heap}{tk:Nat}(C:CompI (G:=G) cenv own D B Z U O acc s)(o:Off B Z it)(hD:D≠it)(hL:cenv.locals≠it)(hC:∀n c,(n,c)∈cenv.cells→c≠it)
  (k:∀b o,b≠it→s.heap.get? b=some o→bu.get? b=some o):CompI (G:=G) cenv own D B Z U O acc {s with heap:=bu,toks:=tk}:=by
 have I:=C.inv;refine⟨⟨I.base,fun b x hb=>k b x (fun q=>by subst q;rw[o.1]at hb;exact bk hb) (I.holds b x hb),I.len,fun j b zs h1 h2=>?_,fun b hb=>?_,I.nodup,I.cg,
  G.hT.mono I.tab (.refl _) fun b hb x g=>k b x (fun q=>o.2.2 (q▸hb)) g,I.ei⟩,C.fr.fL hL hC k,let⟨vs,kk,e,r⟩:=C.acc;⟨vs,kk,k _ _ hD e,r⟩,C.off,C.cU,C.dG⟩
 ·refine eh (I.ml j b zs h1 h2) ?_;intro e us m g r
  exact⟨e,us,m,k b _ (fun q=>o.2.1 (q▸List.mem_of_getElem? h1)) g,r⟩
 ·obtain⟨x,e⟩:=I.dm b hb
  exact⟨x,k b x (fun q=>o.2.1 (q▸hb)) e⟩
inductive T5(G:dk)(cenv:Env)(own:List Nat)(D it:Addr)(fp:List Addr)(St:Nat→Heap→Prop)(xs:List V)(T:V→aw→Mu→List V→(aw→Mu→List V→Prop)→Prop)(k:aw→Mu→List V→Prop)(B1 B0:ay)(aE oA:List Addr)(s1:Shared)(m:Nat)(s:Shared):Prop
 |mk (i:Nat) (U:aw) (O:Mu) (acc:List V) (B:ay) (Z:List Addr) (hi:i≤xs.length) (hm:m=xs.length-i) (P:aG G (D::fa G cenv own) B1 aE s1 B Z O s) (hB:ay.le B0 B) (dJ:oA <+: Z) (C:CompI (G:=G) cenv own D B Z U O acc s) (J:qd it fp St cenv D B Z i s) (h:cb T (xs.drop i) U O acc k)
theorem lp{n:Nat}{cenv:Env}{own:List Nat}{A:Around}{D it:Addr}{fp:List Addr}{Pv:Nat→Value→Prop}{St:Nat→Heap→Prop}{e elt target iter:Expr}{ifs:List Expr}{d:Nat}{xs:List V}{B1 B0:ay}{aE oA:List Addr}{s1 s0:Shared}{mu:aw}{xF:Mu}{tE:List V}{k:aw→Mu→List V→Prop}
  (hA:bY n A)
  (ht:compTurn e d (.ref it) (.ref D) cenv=(do
   standAt iter.pos
   match ←pyNext (.ref it) with
   |none=>pure (.done .next)
   |some v=>
    letOwnedTupleGo target (.ref it) v
    assign target cenv v
    let mut ok:=true
    for c in ifs do
     if ok then ok ←isTrue c cenv (eval c cenv)
    if ok then
     (do let _ ←call (.builtin "list.append") [.ref D,←eval elt cenv])
    again (.compLoop e d (.ref it) (.ref D) cenv)))
  (hq:(Code.compLoop e d (.ref it) (.ref D) cenv).quiet=true)(hu:A.under (.compLoop e d (.ref it) (.ref D) cenv)=A)
  (hd:(model G.prog G.w).den (.compLoop e d (.ref it) (.ref D) cenv)=(compTurn e d (.ref it) (.ref D) cenv).onRaise fun x=>do noteFrame x cenv;theTreesLotGoes x)
  (hl:∀v,letOwnedTupleGo target (.ref it) v=pure ())
  (Wk:Walks G.prog G.w A it fp [it] xs.length Pv St)(dd:∀i h,St i h→∃o,h.get? it=some o)
  (hP:∀ (i:Nat) y,i<xs.length→Pv i y→∃x,xs[i]?=some x∧VR B0 oA x y)
  (hn:s1.heap.get? it=none)(P0:aG G (D::fa G cenv own) B1 aE s1 B0 oA xF s0)
  (C0:CompI (G:=G) cenv own D B0 oA mu xF tE s0)(J0:qd it fp St cenv D B0 oA 0 s0)
  (h:cb (gb G n cenv own elt target ifs) xs mu xF tE k):
  codeAny (model G.prog G.w) A (.compLoop e d (.ref it) (.ref D) cenv) (hX (G:=G) cenv own D B1 aE s1 k) s0:=by
 refine vp (T5 G cenv own D it fp St xs (gb G n cenv own elt target ifs) k B1 B0 aE oA s1) ht hq hu hd hl ?_ xs.length (.mk 0 mu xF tE B0 oA (Nat.zero_le _) rfl P0 (.refl _) (List.prefix_refl _) C0 J0 h);intro m s K z hN hS;cases z with|mk i U O acc B Z hi hm P GU yZ C J hL=>?_
 have v5:it∉D::fa G cenv own:=fun m=>by
  rcases List.mem_cons.mp m with e|m
  ·exact J.tD e.symm
  ·exact J.oz m
 have GV:∀ {s:Shared} {B Z U O acc},CompI (G:=G) cenv own D B Z U O acc s→∀b∈D::fa G cenv own,∃o,s.heap.get? b=some o:=by
  intro s B Z U O acc C a m;rcases List.mem_cons.mp m with rfl|m
  ·exact C.KC
  ·exact C.fr.bL a m
 by_cases bA:i<xs.length
 ·refine Wk.item i s K bM bA J.st ?_
  intro y bu tk hy vX iQ;have iD:∀b o,b≠it→s.heap.get? b=some o→bu.get? b=some o:=fun b o q=>iQ b o (by simpa using q)
  refine aW (hP i y bA hy) ?_;intro x hx rx;have PM:xs.drop i=x::xs.drop (i+1):=by
   rw[List.drop_eq_getElem_cons bA];rw[List.getElem?_eq_getElem bA]at hx;cases Option.some.inj hx;rfl
  rw[PM]at hL;have qc:gF G n cenv own (assign target cenv) x U O fun a9 aA=>q5 G n cenv ifs a9 aA fun b aZ=>match b with
   |false=>cb (gb G n cenv own elt target ifs) (xs.drop (i+1)) a9 aZ acc k
   |true=>bz G n cenv (eval elt cenv) a9 aZ fun v dK=>acc.length<sizeLine∧cb (gb G n cenv own elt target ifs) (xs.drop (i+1)) a9 dK (acc++[v]) k:=hL
  have Pa:=P.fL (tk:=tk) hn J.off.1 J.off.2.1 J.off.2.2 v5 iD;have C2:=C.write (tk:=tk) J.off J.tD J.cU J.dG iD;have J2:qd it fp St cenv D B Z (i+1) {s with heap:=bu,toks:=tk}:=⟨vX,J.off,J.fp,J.cU,J.dG,J.tD⟩
  refine hS y _ fun E hE=>wpAny_mono (qc A hA B Z _ y C2.inv C2.fr (rx.mono GU yZ)) ?_ fun zz zz x=>x;rintro zz s3 ⟨gG,dK,B3,dI,h3,P3,F3⟩;have C3:=C2.step P3 F3 C2.oz;have J3:=J2.stays Wk dd C2.inv P3 J2.oz;have Pb:=Pa.trans (C2.post P3 (.inr rfl));refine wpAny_mono (vZ h3 A hA B3 dI s3 C3.inv C3.fr) ?_ fun zz zz x=>x;rintro ok s4 ⟨oy,B4,fy,h4,P4⟩;have C4:=C3.step P4 (C3.fr.same P4) (by simp)
  have J4:=J3.stays Wk dd C3.inv P4 (by simp)
  have Pc:=Pb.trans (C3.post P4 (.inl rfl));have GW:=GU.trans (P3.le.trans P4.le);have y3:=yZ.trans (P3.pre.trans P4.pre);cases ok with
  |false=>exact hE _ _ (by rw[hm];exact FY bA) (.mk (i+1) gG oy acc B4 fy bA rfl Pc GW y3 C4 J4 h4)
  |true=>
   refine wpAny_mono (h4 A hA B4 fy s4 C4.inv C4.fr) ?_ fun zz zz x=>x;rintro z s5 ⟨v,DZ,B5,iN,⟨bG,h5⟩,P5,r5⟩;have C5:=C4.step P5 (C4.fr.same P5) (by simp)
   have J5:=J4.stays Wk dd C4.inv P5 (by simp)
   have Pd:=Pc.trans (C4.post P5 (.inl rfl));refine jX C5.acc ?_;intro vs kk eD rD;refine q6 eD (by rw[←rD.1];exact Nat.le_of_lt bG) ?_
   intro h' k' e' PN;have kp:∀b o,b≠D→s5.heap.get? b=some o→h'.get? b=some o:=fun b o q g=>(PN.2 b q).trans g;have P6:=C5.inv.pj (tk:=s5.toks) (W:=D::fa G cenv own) (.head _) C5.off kp ⟨_,e'⟩ (GV C5);refine hE _ _ (by rw[hm];exact FY bA) (.mk (i+1) gG DZ (acc++[v]) B5 iN bA rfl (Pd.trans P6) (GW.trans P5.le) (y3.trans P5.pre) ⟨P6.inv,C5.fr.fL C5.cU C5.dG kp,⟨_,_,e',rD.append (.cons r5 .nil)⟩,C5.off,C5.cU,C5.dG⟩ ⟨?_,J5.off,J5.fp,J5.cU,J5.dG,J5.tD⟩ h5)
   refine Wk.frame (i+1) _ _ J5.st fun b hb o eo=>kp b o (fun q=>?_) eo;subst q;rcases J5.fp b hb with q|q
   ·exact J5.tD q
   ·exact q C5.off.1
 ·have AD:i=xs.length:=by exact OT hi bA
  subst AD;refine Wk.done s K bM J.st ?_;intro bu tk iQ;refine hN _ ?_;have iD:∀b o,b≠it→s.heap.get? b=some o→bu.get? b=some o:=fun b o q=>iQ b o (by simpa using q)
  rw[List.drop_length]at hL;exact⟨rfl,U,O,acc,B,Z,hL,P.fL (tk:=tk) hn J.off.1 J.off.2.1 J.off.2.2 v5 iD,C.write (tk:=tk) J.off J.tD J.cU J.dG iD⟩
theorem mv{prog:Program}{w:World}{A:Around}{R:Result→Shared→Prop}{s:Shared}{elt t0 i0 t1 i1:Expr}{f0 f1:List Expr}{scope:Scope}{pos:Pos}{it acc:Value}{env:Env}
  (h0:codeAny (model prog w) A (.compLoop (.ListComp elt [⟨t0,i0,f0,0⟩,⟨t1,i1,f1,0⟩] scope pos) 1 it acc env) R s)
  (h:wpAny (model prog w) A (pyIter it) (fun DY s'=>codeAny (model prog w) A (.compLoop (.ListComp elt [⟨t0,i0,f0,0⟩,⟨t1,i1,f1,0⟩] scope pos) 1 DY acc env) R s')
   (notedBy (model prog w) A env fun x s'=>R (.error x) s') s):
  codeAny (model prog w) A (.compStart (.ListComp elt [⟨t0,i0,f0,0⟩,⟨t1,i1,f1,0⟩] scope pos) 1 it acc env) R s:=by
 refine codeAny_of_tree ?_;show wpAny _ _ ((compStart (.ListComp elt [⟨t0,i0,f0,0⟩,⟨t1,i1,f1,0⟩] scope pos) 1 it acc env).onRaise (fun x=>do noteFrame x env;standAt theWindowsPlace)) _ _ s
 refine wpAny_notedAt ?_;unfold compStart;show wpAny _ _ (ask >>= _) _ _ s;refine wpAny_bind (wpAny_askSetting (wpAny_ite ?_));split
 ·first
   |exact wpAny_bind (wpAny_pure (wpAny_pure (And.intro rfl h0)))
   |exact wpAny_pure (And.intro rfl h0)
 ·first
   |exact wpAny_bind (wpAny_rule (wpAny_bind (wpAny_standAt (wpAny_bind (wpAny_mono h (fun DY s' h'=>wpAny_pure (And.intro rfl h')) fun zz zz x=>x)))))
   |(refine wpAny_bind (wpAny_rule ?_);show wpAny _ _ (standAt i1.pos >>= _) _ _ s;exact wpAny_bind (wpAny_standAt (wpAny_bind (wpAny_mono h (fun DY s' h'=>wpAny_pure (And.intro rfl h')) fun zz zz x=>x))))
theorem n3{n:Nat}{cenv:Env}{own:List Nat}{A:Around}{D it:Addr}{fp:List Addr}{Pv:Nat→Value→Prop}{St:Nat→Heap→Prop}{elt t0 i0 t1 i1:Expr}{f0 f1:List Expr}{scope:Scope}{pos:Pos}{xs:List V}{B1 B0:ay}{aE oA:List Addr}{s1 s0:Shared}{mu:aw}{xF:Mu}{tE:List V}{k:aw→Mu→List V→Prop}
  (hA:bY n A)
  (hl:∀it v,letOwnedTupleGo t0 it v=pure ())(qe:∀it v,letOwnedTupleGo t1 it v=pure ())(hs:∀x,foldedSetIterable i1 cenv x=pure x)
  (Wk:Walks G.prog G.w A it fp [it] xs.length Pv St)(dd:∀i h,St i h→∃o,h.get? it=some o)
  (hP:∀ (i:Nat) y,i<xs.length→Pv i y→∃x,xs[i]?=some x∧VR B0 oA x y)
  (hn:s1.heap.get? it=none)(P0:aG G (D::fa G cenv own) B1 aE s1 B0 oA xF s0)
  (C0:CompI (G:=G) cenv own D B0 oA mu xF tE s0)(J0:qd it fp St cenv D B0 oA 0 s0)
  (h:cb (gK G n cenv own elt t0 f0 i1 t1 f1) xs mu xF tE k):
  codeAny (model G.prog G.w) A (.compLoop (.ListComp elt [⟨t0,i0,f0,0⟩,⟨t1,i1,f1,0⟩] scope pos) 0 (.ref it) (.ref D) cenv) (hX (G:=G) cenv own D B1 aE s1 k) s0:=by
 refine tC (T5 G cenv own D it fp St xs (gK G n cenv own elt t0 f0 i1 t1 f1) k B1 B0 aE oA s1) (hl _) hs ?_ xs.length (.mk 0 mu xF tE B0 oA (Nat.zero_le _) rfl P0 (.refl _) (List.prefix_refl _) C0 J0 h);intro m s K z hN hS;cases z with|mk i U O acc B Z hi hm P GU yZ C J hL=>?_
 have v5:it∉D::fa G cenv own:=fun m=>by
  rcases List.mem_cons.mp m with e|m
  ·exact J.tD e.symm
  ·exact J.oz m
 have GV:∀ {s:Shared} {B Z U O acc},CompI (G:=G) cenv own D B Z U O acc s→∀b∈D::fa G cenv own,∃o,s.heap.get? b=some o:=by
  intro s B Z U O acc C a m;rcases List.mem_cons.mp m with rfl|m
  ·exact C.KC
  ·exact C.fr.bL a m
 by_cases bA:i<xs.length
 ·refine Wk.item i s K bM bA J.st ?_
  intro y bu tk hy vX iQ;have iD:∀b o,b≠it→s.heap.get? b=some o→bu.get? b=some o:=fun b o q=>iQ b o (by simpa using q)
  refine aW (hP i y bA hy) ?_;intro x hx rx;have PM:xs.drop i=x::xs.drop (i+1):=by
   rw[List.drop_eq_getElem_cons bA];rw[List.getElem?_eq_getElem bA]at hx;cases Option.some.inj hx;rfl
  rw[PM]at hL;have qc:gF G n cenv own (assign t0 cenv) x U O fun a9 aA=>q5 G n cenv f0 a9 aA fun b aZ=>match b with
   |false=>cb (gK G n cenv own elt t0 f0 i1 t1 f1) (xs.drop (i+1)) a9 aZ acc k
   |true=>bz G n cenv (eval i1 cenv) a9 aZ fun v dK=>∃ys,Iter G v dK ys∧cb (gb G n cenv own elt t1 f1) ys a9 dK acc (fun ao ar nZ=>cb (gK G n cenv own elt t0 f0 i1 t1 f1) (xs.drop (i+1)) ao ar nZ k):=hL
  have Pa:=P.fL (tk:=tk) hn J.off.1 J.off.2.1 J.off.2.2 v5 iD;have C2:=C.write (tk:=tk) J.off J.tD J.cU J.dG iD;have J2:qd it fp St cenv D B Z (i+1) {s with heap:=bu,toks:=tk}:=⟨vX,J.off,J.fp,J.cU,J.dG,J.tD⟩
  refine hS y _ fun E hE=>wpAny_mono (qc A hA B Z _ y C2.inv C2.fr (rx.mono GU yZ)) ?_ fun zz zz x=>x;rintro zz s3 ⟨gG,dK,B3,dI,h3,P3,F3⟩;have C3:=C2.step P3 F3 C2.oz;have J3:=J2.stays Wk dd C2.inv P3 J2.oz;have Pb:=Pa.trans (C2.post P3 (.inr rfl));refine wpAny_mono (vZ h3 A hA B3 dI s3 C3.inv C3.fr) ?_ fun zz zz x=>x;rintro ok s4 ⟨oy,B4,fy,h4,P4⟩;have C4:=C3.step P4 (C3.fr.same P4) (by simp)
  have J4:=J3.stays Wk dd C3.inv P4 (by simp)
  have Pc:=Pb.trans (C3.post P4 (.inl rfl));have GW:=GU.trans (P3.le.trans P4.le);have y3:=yZ.trans (P3.pre.trans P4.pre);cases ok with
  |false=>exact hE _ _ (by rw[hm];exact FY bA) (.mk (i+1) gG oy acc B4 fy bA rfl Pc GW y3 C4 J4 h4)
  |true=>
   refine wpAny_mono (h4 A hA B4 fy s4 C4.inv C4.fr) ?_ fun zz zz x=>x;rintro z s5 ⟨v,DZ,B5,iN,⟨ys,PO,h5⟩,P5,r5⟩;have C5:=C4.step P5 (C4.fr.same P5) (by simp)
   have J5:=J4.stays Wk dd C4.inv P5 (by simp)
   have Pd:=Pc.trans (C4.post P5 (.inl rfl));refine PO A B5 iN s5 z _ _ C5.inv r5 ?_;intro l5 h6 X7 Pv2 X8 GX X9 KD W2 Ya NZ T7;have Q6:aG G [] B5 iN s5 B5 iN DZ {s5 with heap:=h6}:=C5.inv.kr (t:=s5.toks) X9 (fun zz m=>nomatch m)
   have C6:=C5.step Q6 (C5.fr.same Q6) (by simp)
   have J6:=J5.stays Wk dd C5.inv Q6 (by simp)
   have Pe:aG G (D::fa G cenv own) B5 iN s5 B5 iN DZ {s5 with heap:=h6}:=C5.post Q6 (.inl rfl)
   have T8:Off B5 iN l5:=C5.inv.off GX;have I2:qd l5 X7 X8 cenv D B5 iN 0 {s5 with heap:=h6}:=⟨NZ,T8,T7,
    (fun q=>by refine aW C5.fr.ns ?_;intro m z1;obtain⟨o,_,_,e,_⟩:=z1;intro zz;rw[q,GX]at e;exact bk e),(fun n' c m q=>by refine cw (C5.fr.dG n' c m) ?_;intro zz zz zz zz v o e zz;rw[q,GX]at e;exact bk e),
    (fun q=>by obtain⟨o,e⟩:=C5.KC;rw[q,GX]at e;exact bk e)⟩
   have inner:=lp (e:=.ListComp elt [⟨t0,i0,f0,0⟩,⟨t1,i1,f1,0⟩] scope pos) (d:=1) (iter:=i1) hA (tA elt t0 i0 t1 i1 f0 f1 scope pos (.ref l5) (.ref D) cenv) rfl rfl rfl (qe _) (W2 A hA.handled) KD Ya GX Pe C6 I2 h5;have fin:codeAny (model G.prog G.w) A (.compStart (.ListComp elt [⟨t0,i0,f0,0⟩,⟨t1,i1,f1,0⟩] scope pos) 1 (.ref l5) (.ref D) cenv) (hX (G:=G) cenv own D B5 iN s5 (fun ao ar nZ=>cb (gK G n cenv own elt t0 f0 i1 t1 f1) (xs.drop (i+1)) ao ar nZ k)) {s5 with heap:=h6}:=
    mv inner ((W2 A hA.handled).self 0 _ _ _ NZ inner)
   refine codeAny_mono fin ?_;rintro r s7 ⟨rfl,GY,PQ,T9,B7,DM,h7,P7,C7⟩;exact⟨rfl,hE _ _ (by rw[hm];exact FY bA) (.mk (i+1) GY PQ T9 B7 DM bA rfl (Pd.trans P7) (GW.trans (P5.le.trans P7.le)) (y3.trans (P5.pre.trans P7.pre)) C7 (J5.stays Wk dd C5.inv P7 v5) h7)⟩
 ·have AD:i=xs.length:=by exact OT hi bA
  subst AD;refine Wk.done s K bM J.st ?_;intro bu tk iQ;refine hN _ ?_;have iD:∀b o,b≠it→s.heap.get? b=some o→bu.get? b=some o:=fun b o q=>iQ b o (by simpa using q)
  rw[List.drop_length]at hL;exact⟨rfl,U,O,acc,B,Z,hL,P.fL (tk:=tk) hn J.off.1 J.off.2.1 J.off.2.2 v5 iD,C.write (tk:=tk) J.off J.tD J.cU J.dG iD⟩
end
noncomputable def cK(cells:List (Str×Addr)):List (Str×NameKind)→List (Str×Addr)→List (Str×Addr)
 |[],acc=>acc
 |(n,k)::r,acc=>if k == .free then cK cells r ((n,(cells.lookup n).getD 0)::acc) else cK cells r acc
theorem jq{scope:Scope}{env:Env}(h:∀p∈scope.names,p.2=.free→(env.cells.lookup p.1).isSome=true):closureFor scope env=pure (cK env.cells scope.names []):=by
 unfold closureFor;have key:∀ (names:List (Str×NameKind)) (acc:List (Str×Addr)),(∀p∈names,p.2=.free→(env.cells.lookup p.1).isSome=true)→
   (forIn names acc (fun(x:Str×NameKind) (r:List (Str×Addr))=>if(x.2==NameKind.free)=true then(do let c ←cellOf env x.1;pure (ForInStep.yield ((x.1,c)::r))) else pure (ForInStep.yield r)):Sem (List (Str×Addr)))=pure (cK env.cells names acc):=by
  intro names
  induction names with
  |nil=>intro acc zz;rfl
  |cons p r ih=>
   intro acc hp;obtain⟨n,k⟩:=p;rw[List.forIn_cons]
   by_cases hk:k=.free
   ·subst hk
    obtain⟨c,hc⟩:=Option.isSome_iff_exists.mp (hp _ (.head _) rfl);have xB:env.cells.lookup n=some c:=hc;simp only[beq_self_eq_true,if_true];have:cellOf env n=pure c:=by unfold cellOf;rw[xB]
    rw[this];simp only[pure_bind];rw[ih _ fun q hq=>hp q (.tail _ hq)];simp[cK,xB]
   ·have:(k==NameKind.free)=false:=by simpa using hk
    simp only[this,Bool.false_eq_true,if_false,pure_bind];rw[ih _ fun q hq=>hp q (.tail _ hq)];simp[cK,this]
 exact congrArg (fun t:Sem (List (Str×Addr))=>t >>= fun s=>pure s) (key scope.names [] h)
theorem nf(cells:List (Str×Addr)):∀ (names:List (Str×NameKind)) (acc:List (Str×Addr)),(∀p∈names,p.2=.free→(cells.lookup p.1).isSome=true)→∀n c,(n,c)∈cK cells names acc→(n,c)∈acc∨((n,.free)∈names∧cells.lookup n=some c)
 |[],acc,_,n,c,m=>.inl m
 |(n',k)::r,acc,h,n,c,m=>by
  unfold cK at m;split at m
  ·rename_i hk
   have gL:k=.free:=by simpa using hk
   subst gL;rcases nf cells r _ (fun p hp=>h p (.tail _ hp)) n c m with q|q
   ·rcases List.mem_cons.mp q with e|q
    ·obtain⟨z,hz⟩:=Option.isSome_iff_exists.mp (h _ (.head _) rfl)
     have Ua:cells.lookup n'=some z:=hz;rw[Ua]at e;cases e;exact .inr ⟨.head _,Ua⟩
    ·exact .inl q
   ·exact .inr ⟨.tail _ q.1,q.2⟩
  ·rcases nf cells r acc (fun p hp=>h p (.tail _ hp)) n c m with q|q
   ·exact .inl q
   ·exact .inr ⟨.tail _ q.1,q.2⟩
theorem gc(cells:List (Str×Addr)):∀ (names:List (Str×NameKind)) (acc:List (Str×Addr)),(cK cells names acc).map (·.1)=((names.filter (·.2 == .free)).map (·.1)).reverse++acc.map (·.1)
 |[],acc=>by simp[cK]
 |(n,k)::r,acc=>by
  unfold cK
  by_cases hk:k=.free
  ·subst hk
   simp only[beq_self_eq_true,if_true];rw[gc cells r];simp
  ·have:(k==NameKind.free)=false:=by simpa using hk
   simp only[this,Bool.false_eq_true,if_false];rw[gc cells r];simp[this]
theorem lookup_of_mem_nodup{l:List (Str×Addr)}(hn:(l.map (·.1)).Nodup){n:Str}{c:Addr}(m:(n,c)∈l):l.lookup n=some c:=by
 induction l with
 |nil=>cases m
 |cons p r ih=>
  obtain⟨a,b⟩:=p;rw[List.lookup_cons];have ew:a∉r.map (·.1)∧(r.map (·.1)).Nodup:=by simpa[List.nodup_cons] using hn
  rcases List.mem_cons.mp m with e|m
  ·cases e;simp
  ·have:(n==a)=false:=by
    cases q:n==a with
    |false=>rfl
    |true=>exact absurd (List.mem_map_of_mem (f:=(·.1)) m) ((eq_of_beq q)▸ew.1)
   rw[this];exact ih ew.2 m
theorem iR:∀ (names:List (Str×NameKind)) (k:Nat) (acc:List (Str×Addr)) (n:Str),(∀p∈names,p.1=n→p.2≠.cell)→(cellsFrom k names acc).lookup n=acc.lookup n
 |[],_,_,_,_=>rfl
 |(n',kd)::r,k,acc,n,h=>by
  unfold cellsFrom;split
  ·rename_i hk
   rw[iR r _ _ n fun p hp=>h p (.tail _ hp),List.lookup_cons];have:(n==n')=false:=by
    cases q:n==n' with
    |false=>rfl
    |true=>exact absurd (by simpa using hk) (h (n',kd) (.head _) (eq_of_beq q).symm)
   rw[this]
  ·exact iR r _ _ n fun p hp=>h p (.tail _ hp)
noncomputable def jr(sc outer:Scope):Scope:=
 {sc with names:=sc.names.map fun(n,k)=>if(k == .free&&outer.kind == .function&&outer.names.lookup n==some .cell) then(n,.cell) else(n,k)}
theorem j2(sc:Scope)(env:Env):relabel sc env=jr sc env.scope:=rfl
noncomputable def cz(U:aw):List Nat→aw
 |[]=>[]
 |x::xs=>match get U x with
  |some v=>(x,v)::cz U xs
  |none=>cz U xs
theorem ng{U:aw}:∀ {xs:List Nat} {x:Nat} {v:V},get (cz U xs) x=some v→x∈xs∧get U x=some v
 |[],x,v,h=>by cases h
 |y::ys,x,v,h=>by
  unfold cz at h;cases q:get U y with
  |none=>rw[q]at h;obtain⟨a,b⟩:=ng h;exact⟨.tail _ a,b⟩
  |some u=>
   rw[q]at h;simp only[get]at h
   by_cases e:y=x
   ·subst e;simp at h;subst h;exact⟨.head _,q⟩
   ·rw[m8 e]at h;obtain⟨a,b⟩:=ng (by simpa using h);exact⟨.tail _ a,b⟩
structure tG(G:dk)(sc outer:Scope)(y4 v7:List Nat):Prop where
 kind:sc.kind=.function
 PR:outer.kind=.function
 nodup:(sc.names.map (·.1)).Nodup
 fr:∀x∈y4,(G.nm x,.free)∈sc.names∧outer.names.lookup (G.nm x)=some .cell
 all:∀p∈sc.names,p.2=.free→∃x∈y4,G.nm x=p.1
 loc:∀p∈sc.names,p.2=.local→sc.names.lookup p.1=some .local
 own:∀x∈v7,sc.names.lookup (G.nm x)=some .local∨sc.names.lookup (G.nm x)=some .cell
theorem cL{l:List (Str×NameKind)}(hn:(l.map (·.1)).Nodup){n:Str}{c:NameKind}(m:(n,c)∈l):l.lookup n=some c:=by
 induction l with
 |nil=>cases m
 |cons p r ih=>
  obtain⟨a,b⟩:=p;rw[List.lookup_cons];have ew:a∉r.map (·.1)∧(r.map (·.1)).Nodup:=by simpa[List.nodup_cons] using hn
  rcases List.mem_cons.mp m with e|m
  ·cases e;simp
  ·have:(n==a)=false:=by
    cases q:n==a with
    |false=>rfl
    |true=>exact absurd (List.mem_map_of_mem (f:=(·.1)) m) ((eq_of_beq q)▸ew.1)
   rw[this];exact ih ew.2 m
theorem mem_of_lookupK{l:List (Str×NameKind)}{n:Str}{c:NameKind}(h:l.lookup n=some c):(n,c)∈l:=by
 induction l with
 |nil=>cases h
 |cons p r ih=>
  obtain⟨a,b⟩:=p;rw[List.lookup_cons]at h;split at h
  ·rename_i e;cases h;rw[eq_of_beq e];exact .head _
  ·exact .tail _ (ih h)
theorem mw{sc outer:Scope}(hn:(sc.names.map (·.1)).Nodup){n:Str}{k:NameKind}(h:sc.names.lookup n=some k):
  (jr sc outer).names.lookup n=some (if(k == .free&&outer.kind == .function&&outer.names.lookup n==some .cell) then .cell else k):=by
 have hm:=mem_of_lookupK h;refine cL ?_ ?_
 ·show((sc.names.map _).map _).Nodup
  rw[List.map_map];have e:((fun(x:Str×NameKind)=>x.1)∘fun(x:Str×NameKind)=>(match x with|(n,k)=>if(k==NameKind.free&&outer.kind == .function&&outer.names.lookup n==some .cell)=true then(n,NameKind.cell) else(n,k):Str×NameKind))=(·.1):=by
   funext x;obtain⟨a,b⟩:=x;dsimp only[Function.comp];split<;>rfl
  rw[e];exact hn
 ·refine List.mem_map.mpr ⟨(n,k),hm,?_⟩
  dsimp only;split<;>rfl
theorem D0{sc outer:Scope}{n:Str}(h:(jr sc outer).names.lookup n=some .cell):(n,.cell)∈sc.names∨(n,.free)∈sc.names:=by
 refine aW (List.mem_map.mp (mem_of_lookupK h)) ?_;intro z1;obtain⟨a,k⟩:=z1;intro hm e;dsimp only at e;split at e
 ·rename_i hc
  simp only[Bool.and_eq_true,beq_iff_eq]at hc;obtain⟨⟨rfl,_⟩,_⟩:=hc;cases e;exact .inr hm
 ·cases e;exact .inl hm
theorem y5{env:Env}{B:ay}{Z:List Addr}{U:aw}{O:Mu}{s s':Shared}{sc:Scope}{fr own:List Nat}(h:tG G sc env.scope fr own)(I:Inv G B Z O s.heap)(F:bt G env B Z U s.heap)
  {cenv:Env}(hs:cenv.scope=relabel sc env)(hL:cenv.locals=s.heap.objs.size)(hc:cenv.cells=cellsFrom (s.heap.objs.size+1) sc.names (cK env.cells sc.names []))(hg:cenv.globals=mainGlobals)(hb:cenv.builtins=builtinsNs):
  bt G cenv B Z (cz U fr) (pushCells (s.heap.push {cls:=.type "dict",data:=.dict #[]}) sc.names)∧(∀a∈fa G cenv own,s.heap.get? a=none)∧(∀x∈own,nR G cenv own x)∧(∀n c,(n,c)∈cenv.cells→s.heap.get? c=none∨∃n',env.cells.lookup n'=some c):=by
 have lj:∀p∈sc.names,p.2=.free→(env.cells.lookup p.1).isSome=true:=fun p hp hk=>by
  refine aW (h.all p hp hk) ?_;intro x hx e;obtain⟨c,hc⟩:=F.all _ (h.fr x hx).2;rw[←e,hc];rfl
 have k1:=bN s.heap {cls:=.type "dict",data:=.dict #[]};have k2:=pushCells_keeps sc.names (s.heap.push {cls:=.type "dict",data:=.dict #[]});have k:∀b o,s.heap.get? b=some o→(pushCells (s.heap.push {cls:=.type "dict",data:=.dict #[]}) sc.names).get? b=some o:=fun b o e=>k2 b o (k1 b o e);have GZ:=nf env.cells sc.names [] lj;have qf:((cK env.cells sc.names []).map (·.1)).Nodup:=by
  rw[gc];simp only[List.map_nil,List.append_nil];exact List.pairwise_reverse.mpr (List.Pairwise.imp (fun h=>Ne.symm h) (List.Nodup.sublist (List.Sublist.map _ List.filter_sublist) h.nodup))
 have G0:∀n c,(n,c)∈cK env.cells sc.names []→env.cells.lookup n=some c:=fun n c m=>((GZ n c m).resolve_left (fun z=>nomatch z)).2;have KG:(cK env.cells sc.names []).Pairwise fun x y=>x.2≠y.2:=by
  have hp:=List.pairwise_map.mp qf;refine List.Pairwise.imp_of_mem ?_ hp;intro a b ma mb xG e;have ea:=G0 a.1 a.2 ma;have eb:=G0 b.1 b.2 mb;rw[e]at ea;exact xG (F.inj _ _ _ ea eb)
 have Ub:xE B Z [] s.heap (cK env.cells sc.names []):=⟨fun n c m=>by
  refine sN (F.dG n c (aY (G0 n c m))) ?_;intro a1 a2 a3 a4 v hv;have Yb:B c=none:=a1.resolve_left fun z=>by
   refine aW (h.all _ (((GZ n c m).resolve_left (fun z=>nomatch z)).1) rfl) ?_;intro x hx e;have e2:env.kindOf (G.nm x)=some .cell:=(h.fr x hx).2;have e':G.nm x=n:=e;rw[←e',e2]at z;cases Option.some.inj z
  exact⟨.inr Yb,a2,a3,v,hv⟩,KG⟩
 have ok:=cJ sc.names (s.heap.push {cls:=.type "dict",data:=.dict #[]}) (s.heap.objs.size+1) (cK env.cells sc.names []) (cK env.cells sc.names []) (fun n c m=>let⟨_,_,_,v,hv⟩:=Ub.1 n c m;⟨v,hv.keeps k1⟩) (fun n c m=>.inl m) KG (by rw[Heap.size_push];exact Nat.le_refl _)
 rw[Heap.size_push]at ok;have D1:∀n,cenv.kindOf n=(jr sc env.scope).names.lookup n:=fun n=>by unfold Env.kindOf;rw[hs];rfl
 have hn:=cx s.heap;have G1:∀x∈fr,cenv.kindOf (G.nm x)=some .cell:=fun x hx=>by
  rw[D1,mw h.nodup (cL h.nodup (h.fr x hx).1),h.PR,(h.fr x hx).2];rfl
 refine⟨⟨by rw[hs];exact h.kind,hg,hb,⟨fun zz=>none,by rw[hL];exact(Heap.Ns.new s.heap (.type "dict")).keeps k2,fun x v hx hk=>?_⟩,fun x v hx=>?_,by rw[hL];exact⟨I.eY hn,I.fI hn,I.i4 hn⟩,fun n c m=>?_,fun n n' c e e'=>?_,fun n e=>?_⟩,fun a m=>?_,fun x hx=>⟨hx,?_⟩,fun n c m=>?_⟩
 ·obtain⟨hf,_⟩:=ng hx
  rw[G1 x hf]at hk;cases Option.some.inj hk
 ·obtain⟨hf,hr⟩:=ng hx
  refine .inr ⟨.inl (G1 x hf),?_⟩;rcases F.cl x v hr with q|⟨hk,c,u,nT,eV,r⟩
  ·have e2:env.kindOf (G.nm x)=some .cell:=(h.fr x hf).2
   rw[e2]at q;cases Option.some.inj q
  ·refine⟨c,u,?_,eV.keeps k,r⟩
   rw[hc,iR sc.names _ _ (G.nm x) fun p hp e q=>?_]
   ·have hl:(cK env.cells sc.names []).lookup (G.nm x)=some c:=by
     have:(G.nm x)∈(cK env.cells sc.names []).map (·.1):=by
      rw[gc];simp only[List.map_nil,List.append_nil,List.mem_reverse];exact List.mem_map.mpr ⟨(G.nm x,.free),List.mem_filter.mpr ⟨(h.fr x hf).1,rfl⟩,rfl⟩
     refine aW (List.mem_map.mp this) ?_;intro p hp e;have e3:=G0 p.1 p.2 hp;rw[e,nT]at e3;refine lookup_of_mem_nodup qf ?_;rw[←e];cases Option.some.inj e3;exact hp
    exact hl
   ·obtain⟨pn,pk⟩:=p
    cases e;cases q;have h1:=cL h.nodup hp;rw[cL h.nodup (h.fr x hf).1]at h1;cases Option.some.inj h1
 ·rw[hc]at m
  rcases ok.1 n c m with q|⟨q,q'⟩
  ·refine GA (Ub.1 n c q) ?_;intro a1 a2 a3 v hv
   exact⟨.inr (a1.resolve_left nofun),a2,a3,by rw[hL];exact Nat.ne_of_lt hv.lt,v,hv.keeps k⟩
  ·have ew:s.heap.get? c=none:=fz (by exact OU q')
   exact⟨.inr (I.eY ew),I.fI ew,I.i4 ew,by rw[hL];exact Nat.ne_of_gt q',none,q⟩
 ·rw[hc]at e e'
  exact name_of_addr ok.2 (mem_of_lookup e) (mem_of_lookup e')
 ·rw[D1]at e
  rw[hc];rcases D0 e with m|m
  ·exact Option.isSome_iff_exists.mp (cellsFrom_some _ _ _ (.inl (cL h.nodup m)))
  ·refine Option.isSome_iff_exists.mp (cellsFrom_some _ _ _ (.inr ?_))
   have:n∈(cK env.cells sc.names []).map (·.1):=by
    rw[gc];simp only[List.map_nil,List.append_nil,List.mem_reverse];exact List.mem_map.mpr ⟨(n,.free),List.mem_filter.mpr ⟨m,rfl⟩,rfl⟩
   refine aW (List.mem_map.mp this) ?_;intro p hp e;have:(cK env.cells sc.names []).lookup n=some p.2:=lookup_of_mem_nodup qf (by rw[←e];exact hp)
   rw[this];rfl
 ·rcases List.mem_cons.mp m with e|m
  ·rw[e,hL];exact hn
  ·refine aW (List.mem_filterMap.mp m) ?_;intro x hx e
   rw[hc]at e;rcases ok.1 _ _ (mem_of_lookup e) with q|q
   ·have q2:=((GZ _ _ q).resolve_left (fun z=>nomatch z)).1
    have q3:=cL h.nodup q2;rcases h.own x hx with z|z<;>rw[z]at q3<;>cases Option.some.inj q3
   ·exact fz (by omega)
 ·rcases h.own x hx with z|z
  ·left;rw[D1,mw h.nodup z];rfl
  ·right;rw[D1,mw h.nodup z];rfl
 ·rw[hc]at m
  rcases ok.1 n c m with q|q
  ·exact .inr ⟨n,G0 n c q⟩
  ·exact .inl (fz (by omega))
theorem nh{n:Nat}{env:Env}{own:List Nat}{U:aw}{O:Mu}{e i0:Expr}{sc:Scope}{pos:Pos}{fr:List Nat}{use:Option (Value→Sem Unit)}{A:Around}{B:ay}{Z:List Addr}{s:Shared}{Qf:Value→Shared→Prop}{g:Comprehension}{gs:List Comprehension}{kk:aw→Mu→List V→Prop}{R:V→Mu→List V→Prop}
  (hA:bY n A)(I:Inv G B Z O s.heap)(F:bt G env B Z U s.heap)(cj:clausesOf e=g::gs)(hf:∀x,foldedSetIterable g.iter env x=pure x)
  (dM:tG G sc env.scope fr own)
  (h0:bz G n env (eval i0 env) U O fun v aA=>∃xs,Iter G v aA xs∧R v aA xs)
  (KH:∀ (cenv:Env) (v:V) (xs:List V) (aA:Mu) (D it:Addr) (fp:List Addr) (Pv:Nat→Value→Prop) (St:Nat→Heap→Prop) (B1:ay) (aE:List Addr) (s1 s0:Shared),R v aA xs→cenv.scope=relabel sc env→
   Walks G.prog G.w A it fp [it] xs.length Pv St→(∀i h,St i h→∃o,h.get? it=some o)→(∀ (i:Nat) y,i<xs.length→Pv i y→∃x,xs[i]?=some x∧VR B1 aE x y)→s1.heap.get? it=none→s1.heap.get? D=none→
   aG G (D::fa G cenv own) B1 aE s1 B1 aE aA s0→CompI (G:=G) cenv own D B1 aE (cz U fr) aA [] s0→qd it fp St cenv D B1 aE 0 s0→
   codeAny (model G.prog G.w) A (.compStart e 0 (.ref it) (.ref D) cenv) (hX (G:=G) cenv own D B1 aE s1 kk) s0)
  (fin:∀ (cenv:Env) (D:Addr) (B1:ay) (aE:List Addr) (aA:Mu) (s1:Shared) (r:Result) (s':Shared),aG G [] B Z s B1 aE aA s1→s1.heap.get? D=none→(∀a∈fa G cenv own,s1.heap.get? a=none)→bt G env B1 aE U s1.heap→
   hX (G:=G) cenv own D B1 aE s1 kk r s'→compPost (model G.prog G.w) A bM use Qf (.ref D) cenv.locals r s'):
  wpAny (model G.prog G.w) A (comprehension e sc env pos (newList []) false (eval i0 env) use) Qf bM s:=by
 refine wpAny_comprehension_free cj hf (jq fun p hp hk=>?_) dM.kind dM.loc ?_
 ·refine aW (dM.all p hp hk) ?_;intro x hx e
  obtain⟨c,hc⟩:=F.all _ (dM.fr x hx).2;rw[←e,hc];rfl
 refine wpAny_mono (h0 A hA B Z s I F) ?_ fun zz zz x=>x;rintro u s1 ⟨v,aA,B1,aE,⟨xs,PO,hR⟩,P1,r1⟩;have F1:=F.same P1;refine PO A B1 aE s1 u _ _ P1.inv r1 ?_;intro it h2 fp Pv St hn iQ dd W hP fY Kz;refine wpAny_newObj_type (s:={s1 with heap:=h2}) ?_ (by show(#[]:Array Value).size≤sizeLine;simp[sizeLine])
 rw[F.gl];refine dp ?_;rw[List.forIn_nil];refine wpAny_pure ?_;have kD:=bN h2 (lobj [] 0);have KI:∀b o,s1.heap.get? b=some o→(h2.push (lobj [] 0)).get? b=some o:=fun b o e=>kD b o (iQ b o e);have I1:=P1.inv;have I3:Inv G B1 aE aA (h2.push (lobj [] 0)):=I1.keeps KI;have F3:bt G env B1 aE U (h2.push (lobj [] 0)):=F1.same (s':={s1 with heap:=h2.push (lobj [] 0)}) (I1.kr (t:=s1.toks) KI (fun zz m=>nomatch m))
 have nD:s1.heap.get? h2.objs.size=none:=by
  cases q:s1.heap.get? h2.objs.size with
  |none=>rfl
  |some o=>exact absurd (Heap.lt_size (iQ _ o q)) (Nat.lt_irrefl _)
 have G2:it<h2.objs.size:=let⟨_,e⟩:=dd _ _ fY;Heap.lt_size e
 have Uc:(h2.push (lobj [] 0)).objs.size=h2.objs.size+1:=Heap.size_push ..;have eD:(h2.push (lobj [] 0)).get? h2.objs.size=some (lobj [] 0):=Heap.get?_push_size _ rfl;have Yc:=bN (h2.push (lobj [] 0)) {cls:=.type "dict",data:=.dict #[]};have Yd:=pushCells_keeps sc.names ((h2.push (lobj [] 0)).push {cls:=.type "dict",data:=.dict #[]});have kC:∀b o,(h2.push (lobj [] 0)).get? b=some o→(pushCells ((h2.push (lobj [] 0)).push {cls:=.type "dict",data:=.dict #[]}) sc.names).get? b=some o:=fun b o e=>Yd b o (Yc b o e);have CF:=y5 (s:={s1 with heap:=h2.push (lobj [] 0)}) (s':=s1) (fr:=fr) (own:=own)
  (cenv:={newEnv sc (h2.push (lobj [] 0)).objs.size mainGlobals (cellsFrom ((h2.push (lobj [] 0)).objs.size+1) sc.names (cK env.cells sc.names [])) env.qual none .none (some env) builtinsNs with scope:=relabel sc env}) dM I3 F3 rfl rfl rfl rfl F.bi
 refine vW CF ?_;clear CF;intro FC KJ okC KL;have G3:∀b o,s1.heap.get? b=some o→(pushCells ((h2.push (lobj [] 0)).push {cls:=.type "dict",data:=.dict #[]}) sc.names).get? b=some o:=fun b o e=>kC b o (KI b o e);have PT:=kC _ _ eD;have Ye:aG G (h2.objs.size::fa G {newEnv sc (h2.push (lobj [] 0)).objs.size mainGlobals (cellsFrom ((h2.push (lobj [] 0)).objs.size+1) sc.names (cK env.cells sc.names [])) env.qual none .none (some env) builtinsNs with scope:=relabel sc env} own) B1 aE s1 B1 aE aA
   {s1 with heap:=pushCells ((h2.push (lobj [] 0)).push {cls:=.type "dict",data:=.dict #[]}) sc.names}:=by
  refine⟨.refl _,List.prefix_refl _,I1.keeps G3,lU.all G3 _,fun a m=>?_,.heap (t:=s1.toks),fun zz h=>.inl h,fun zz h=>.inl h⟩;rcases List.mem_cons.mp m with rfl|m
  ·exact⟨_,PT⟩
  ·exact FC.bL a m
 have CI:CompI (G:=G) {newEnv sc (h2.push (lobj [] 0)).objs.size mainGlobals (cellsFrom ((h2.push (lobj [] 0)).objs.size+1) sc.names (cK env.cells sc.names [])) env.qual none .none (some env) builtinsNs with scope:=relabel sc env} own h2.objs.size B1 aE (cz U fr) aA []
   {s1 with heap:=pushCells ((h2.push (lobj [] 0)).push {cls:=.type "dict",data:=.dict #[]}) sc.names}:=by
  refine⟨I1.keeps G3,FC,⟨[],0,PT,.nil⟩,I1.off nD,?_,fun n' c m q=>?_⟩
  ·show(h2.push (lobj [] 0)).objs.size≠h2.objs.size
   rw[Uc];exact Nat.succ_ne_self _
  ·refine cw (FC.dG n' c m) ?_;intro zz zz zz zz z o e ed
   rw[q]at e;have e':(pushCells ((h2.push (lobj [] 0)).push {cls:=.type "dict",data:=.dict #[]}) sc.names).get? h2.objs.size=some o:=e;rw[PT]at e';cases Option.some.inj e';cases ed
 have II:qd it fp St {newEnv sc (h2.push (lobj [] 0)).objs.size mainGlobals (cellsFrom ((h2.push (lobj [] 0)).objs.size+1) sc.names (cK env.cells sc.names [])) env.qual none .none (some env) builtinsNs with scope:=relabel sc env} h2.objs.size B1 aE 0
   {s1 with heap:=pushCells ((h2.push (lobj [] 0)).push {cls:=.type "dict",data:=.dict #[]}) sc.names}:=by
  refine⟨(W A hA.handled).frame 0 h2 _ fY fun b zz o e=>kC b o (kD b o e),I1.off hn,Kz,?_,fun n' c m q=>?_,Nat.ne_of_gt G2⟩
  ·show(h2.push (lobj [] 0)).objs.size≠it
   rw[Uc];exact Nat.ne_of_gt (Nat.lt_succ_of_lt G2)
  ·rcases KL n' c m with z|⟨n2,z⟩
   ·obtain⟨o,e⟩:=dd _ _ fY
    have:=kD _ _ e;rw[q]at z;have z':(h2.push (lobj [] 0)).get? it=none:=z;rw[this]at z';exact fe z'
   ·refine cw (F1.dG n2 c (aY z)) ?_;intro zz zz zz zz v' o e zz
    rw[q,hn]at e;exact bk e
 refine codeAny_mono (KH _ v xs aA h2.objs.size it fp Pv St B1 aE s1 _ hR rfl (W A hA.handled) dd hP hn nD Ye CI II) ?_;intro r s' hr;have PU:∀a,(h2.push (lobj [] 0)).get? a=none→s1.heap.get? a=none:=fun a z=>by
  cases q:s1.heap.get? a with
  |none=>rfl
  |some o=>rw[KI a o q]at z;exact fe z
 have z:=fin _ _ B1 aE aA s1 r s' P1 nD (fun a m=>PU a (KJ a m)) F1 hr;exact z
theorem aG.qg{W:List Addr}{B B':ay}{Z aH:List Addr}{ar:Mu}{s s':Shared}(P:aG G W B Z s B' aH ar s')(hW:∀a∈W,s.heap.get? a=none):aG G [] B Z s B' aH ar s':=by
 refine⟨P.le,P.pre,P.inv,fun b o hb e=>P.keep b o (fun m=>?_) e,(fun zz m=>nomatch m),P.rest,P.dD,P.c8⟩;rcases List.mem_append.mp m with m|m
 ·rw[hW b m]at e;exact bk e
 ·exact hb (by simpa using m)
theorem Inv.adopt{B:ay}{Z:List Addr}{O:Mu}{h:Heap}{D:Addr}{o:Obj}(I:Inv G B Z O h)(f:Off B Z D)(e:h.get? D=some o):Inv G (B.add D o) Z O h:=by
 have le:=ay.iA (o:=o) f.1;refine⟨I.base.trans le,fun b x hb=>?_,I.len,fun i b xs h1 h2=>?_,I.dm,I.nodup,fun b hb=>⟨?_,(I.cg b hb).2⟩,G.hT.mono I.tab le fun zz zz zz x=>x,I.ei⟩
 ·unfold ay.add at hb
  by_cases q:b=D
  ·subst q;rw[if_pos rfl]at hb;cases Option.some.inj hb;exact e
  ·rw[if_neg q]at hb;exact I.holds b x hb
 ·refine eh (I.ml i b xs h1 h2) ?_;intro hb vs n g r
  refine⟨?_,vs,n,g,r.mono le (List.prefix_refl _)⟩;unfold ay.add;rw[if_neg (fun q:b=D=>f.2.1 (q▸List.mem_of_getElem? h1))];exact hb
 ·unfold ay.add;rw[if_neg (fun q:b=D=>f.2.2 (q▸hb))];exact(I.cg b hb).1
theorem aG.adopt{W:List Addr}{B B':ay}{Z aH:List Addr}{ar:Mu}{s s':Shared}{D:Addr}{o:Obj}(P:aG G W B Z s B' aH ar s')(hn:s.heap.get? D=none)(f:Off B' aH D)(e:s'.heap.get? D=some o):aG G W B Z s (B'.add D o) aH ar s':=by
 refine⟨P.le.trans (ay.iA f.1),P.pre,P.inv.adopt f e,P.keep,P.bL,P.rest,fun a ha=>?_,P.c8⟩;unfold ay.add at ha
 by_cases q:a=D
 ·subst q;exact .inr (.inr hn)
 ·rw[if_neg q]at ha;exact P.dD a ha
theorem Inv.xH{B:ay}{Z:List Addr}{O:Mu}{h:Heap}{D:Addr}{xs:List V}{vs:List Value}{k:Nat}(I:Inv G B Z O h)(f:Off B Z D)(e:h.get? D=some (lobj vs k))(r:aB B [] xs vs):Inv G B (Z++[D]) (O++[some xs]) h:=by
 refine⟨I.base,I.holds,by simp[I.len],fun i b ys h1 h2=>?_,fun b hb=>?_,?_,fun b hb=>⟨(I.cg b hb).1,fun m=>?_⟩,I.tab,I.ei.snoc (I.base.off f.1)⟩
 ·by_cases q:i<Z.length
  ·rw[List.getElem?_append_left q]at h1
   rw[List.getElem?_append_left (I.len▸q)]at h2;exact I.ml i b ys h1 h2
  ·rw[List.getElem?_append_right (Nat.le_of_not_lt q)]at h1
   rw[List.getElem?_append_right (I.len▸Nat.le_of_not_lt q),←I.len]at h2;cases q2:i-Z.length with
   |zero=>
    rw[q2]at h1 h2;cases h1;cases h2;exact⟨f.1,vs,k,e,r⟩
   |succ j=>rw[q2]at h1;cases h1
 ·rcases List.mem_append.mp hb with m|m
  ·exact I.dm b m
  ·rw[List.mem_singleton.mp m];exact⟨_,e⟩
 ·refine List.nodup_append.mpr ⟨I.nodup,by simp,fun b hb c hc=>?_⟩
  rw[List.mem_singleton.mp hc];exact fun q=>f.2.1 (q▸hb)
 ·rcases List.mem_append.mp m with m|m
  ·exact(I.cg b hb).2 m
  ·exact f.2.2 (List.mem_singleton.mp m▸hb)
theorem aG.xH{W:List Addr}{B B':ay}{Z aH:List Addr}{ar:Mu}{s s':Shared}{D:Addr}{xs:List V}{vs:List Value}{k:Nat}(P:aG G W B Z s B' aH ar s')(hn:s.heap.get? D=none)(f:Off B' aH D)(e:s'.heap.get? D=some (lobj vs k))(r:aB B' [] xs vs):
  aG G W B Z s B' (aH++[D]) (ar++[some xs]) s':=by
 refine⟨P.le,P.pre.trans (List.prefix_append _ _),P.inv.xH f e r,P.keep,P.bL,P.rest,P.dD,fun a ha=>?_⟩;rcases List.mem_append.mp ha with m|m
 ·exact P.c8 a m
 ·rw[List.mem_singleton.mp m];exact .inr hn
def de(m:Bool)(Q:V→Mu→Prop)(O:Mu)(xs:List V):Prop:=match m with
 |false=>Q (.list xs) O
 |true=>(∀x∈xs,Cl x)∧Q (.ml O.length) (O++[some xs])
theorem de.out{m:Bool}{Q:V→Mu→Prop}{W:List Addr}{B B':ay}{Z aH:List Addr}{ar:Mu}{s s':Shared}{D:Addr}{xs:List V}{vs:List Value}{k:Nat}(q:de m Q ar xs)(P:aG G W B Z s B' aH ar s')(hn:s.heap.get? D=none)(f:Off B' aH D)
  (e:s'.heap.get? D=some (lobj vs k))(r:aB B' aH xs vs):∃v cT mr jZ,Q v cT∧aG G W B Z s mr jZ cT s'∧VR mr jZ v (.ref D)∧(∀a,a≠D→mr a=B' a)∧(∀a∈jZ,a∈aH∨a=D):=by
 cases m with
 |false=>
  have le:=ay.iA (o:=lobj vs k) f.1;exact⟨.list xs,ar,_,aH,q,P.adopt hn f e,.list (ay.c9 ..) r.1 (r.mono le (List.prefix_refl _)).2,fun a ha=>if_neg ha,fun a ha=>.inl ha⟩
 |true=>
  refine⟨.ml ar.length,ar++[some xs],B',aH++[D],q.2,P.xH hn f e (r.clean q.1 []),.ml ?_,fun zz zz=>rfl,fun a ha=>?_⟩
  ·rw[←P.inv.len];simp
  ·rcases List.mem_append.mp ha with z|z
   ·exact .inl z
   ·exact .inr (List.mem_singleton.mp z)
theorem tH{n:Nat}{env cenv:Env}{own:List Nat}{m:Bool}{B B1:ay}{Z aE:List Addr}{s s1 s':Shared}{aA:Mu}{A:Around}{D:Addr}{r:Result}{Q:V→Mu→Prop}
  (P1:aG G [] B Z s B1 aE aA s1)(nD:s1.heap.get? D=none)(nF:∀a∈fa G cenv own,s1.heap.get? a=none)
  (h:hX (G:=G) cenv own D B1 aE s1 (fun zz ar acc=>de m Q ar acc) r s'):compPost (model G.prog G.w) A bM none (PV G B Z s Q) (.ref D) cenv.locals r s':=by
 refine tf h ?_;clear h;intro z1;subst z1;intro ao ar acc B' aH q P C;refine aW C.fr.ns ?_;intro mm i9 zz;refine⟨mm,i9,fun h' PN=>?_⟩;have W0:∀a∈D::fa G cenv own,s1.heap.get? a=none:=fun a ha=>by
  rcases List.mem_cons.mp ha with rfl|ha
  ·exact nD
  ·exact nF a ha
 have P2:=P.qg W0;have kp:∀b o,b≠cenv.locals→s'.heap.get? b=some o→h'.get? b=some o:=fun b o z g=>(PN.2 b z).trans g;have P3:=P2.fL (it:=cenv.locals) (tk:=s'.toks) (nF _ (.head _)) C.fr.cU.1 C.fr.cU.2.1 C.fr.cU.2.2 (by simp) kp
 refine jX C.acc ?_;intro vs k e r;refine qb (q.out P3 nD C.off (kp _ _ C.cU.symm e) r) ?_;intro v cT mr jZ hq P4 r4 zz;exact⟨v,cT,mr,jZ,hq,P1.trans P4,r4⟩
theorem G4{n:Nat}{env:Env}{own fr:List Nat}{U:aw}{O:Mu}{Q:V→Mu→Prop}{elt target iter:Expr}{ifs:List Expr}{sc:Scope}{pos:Pos}(m:Bool)
  (dM:tG G sc env.scope fr own)(hf:∀x,foldedSetIterable iter env x=pure x)(hl:∀it v,letOwnedTupleGo target it v=pure ())
  (h:bz G n env (eval iter env) U O fun v aA=>∃xs,Iter G v aA xs∧∀cenv:Env,cenv.scope=jr sc env.scope→cb (gb G n cenv own elt target ifs) xs (cz U fr) aA [] fun zz ar acc=>de m Q ar acc):
  bz G n env (eval (.ListComp elt [⟨target,iter,ifs,0⟩] sc pos) env) U O Q:=by
 intro A hA B Z s I F;rw[eval_ListComp];refine nh (kk:=fun zz ar acc=>de m Q ar acc) (R:=fun v aA xs=>∀cenv:Env,cenv.scope=jr sc env.scope→cb (gb G n cenv own elt target ifs) xs (cz U fr) aA [] fun zz ar acc=>de m Q ar acc) (own:=own) (fr:=fr) hA I F rfl hf dM h ?_ ?_
 ·intro cenv v xs aA D it fp Pv St B1 aE s1 s0 hR hs W dd hP hn nD P C J
  have inner:=lp (e:=.ListComp elt [⟨target,iter,ifs,0⟩] sc pos) (d:=0) hA (compTurn_list elt target iter ifs sc pos (.ref it) (.ref D) cenv) rfl rfl rfl (hl _) W dd hP hn P C J (hR cenv (hs.trans (j2 sc env)));exact codeAny_compStart_list inner (W.self 0 _ _ _ J.st inner)
 ·intro cenv D B1 aE aA s1 r s' P1 nD nF F1 hr
  exact tH (n:=n) (env:=env) P1 nD nF hr
theorem G5{n:Nat}{env:Env}{own fr:List Nat}{U:aw}{O:Mu}{Q:V→Mu→Prop}{elt t0 i0 t1 i1:Expr}{f0 f1:List Expr}{sc:Scope}{pos:Pos}(m:Bool)
  (dM:tG G sc env.scope fr own)(hf:∀x,foldedSetIterable i0 env x=pure x)(G6:∀env x,foldedSetIterable i1 env x=pure x)(hl:∀it v,letOwnedTupleGo t0 it v=pure ())(qe:∀it v,letOwnedTupleGo t1 it v=pure ())
  (h:bz G n env (eval i0 env) U O fun v aA=>∃xs,Iter G v aA xs∧∀cenv:Env,cenv.scope=jr sc env.scope→cb (gK G n cenv own elt t0 f0 i1 t1 f1) xs (cz U fr) aA [] fun zz ar acc=>de m Q ar acc):
  bz G n env (eval (.ListComp elt [⟨t0,i0,f0,0⟩,⟨t1,i1,f1,0⟩] sc pos) env) U O Q:=by
 intro A hA B Z s I F;rw[eval_ListComp];refine nh (kk:=fun zz ar acc=>de m Q ar acc) (R:=fun v aA xs=>∀cenv:Env,cenv.scope=jr sc env.scope→cb (gK G n cenv own elt t0 f0 i1 t1 f1) xs (cz U fr) aA [] fun zz ar acc=>de m Q ar acc) (own:=own) (fr:=fr) hA I F rfl hf dM h ?_ ?_
 ·intro cenv v xs aA D it fp Pv St B1 aE s1 s0 hR hs W dd hP hn nD P C J
  have inner:=n3 (i0:=i0) (scope:=sc) (pos:=pos) hA hl qe (G6 cenv) W dd hP hn P C J (hR cenv (hs.trans (j2 sc env)));exact codeAny_compStart_list inner (W.self 0 _ _ _ J.st inner)
 ·intro cenv D B1 aE aA s1 r s' P1 nD nF F1 hr
  exact tH (n:=n) (env:=env) P1 nD nF hr
theorem tI{env cenv:Env}{own lV:List Nat}{m:Bool}{B B1:ay}{Z aE:List Addr}{s s1 s':Shared}{aA:Mu}{U:aw}{A:Around}{D:Addr}{r:Result}{x:Nat}{px:Pos}{Q:Fl→aw→Mu→Prop}
  (F:bt G env B Z U s.heap)(hx:nR G env lV x)(P1:aG G [] B Z s B1 aE aA s1)(nD:s1.heap.get? D=none)(nF:∀a∈fa G cenv own,s1.heap.get? a=none)(F1:bt G env B1 aE U s1.heap)
  (h:hX (G:=G) cenv own D B1 aE s1 (fun zz ar acc=>de m (fun v cT=>Q .next (set U x v) cT) ar acc) r s'):
  compPost (model G.prog G.w) A bM (some (assign (.Name (G.nm x) px) env)) (fun zz s'=>PS G env lV B Z s Q .next s') (.ref D) cenv.locals r s':=by
 refine tf h ?_;clear h;intro z1;subst z1;intro ao ar acc B' aH q P C;have W0:∀a∈D::fa G cenv own,s1.heap.get? a=none:=fun a ha=>by
  rcases List.mem_cons.mp ha with rfl|ha
  ·exact nD
  ·exact nF a ha
 have P2:=P.qg W0;refine jX C.acc ?_;intro vs k e r;refine th (q.out P2 nD C.off e r) ?_;intro v cT mr jZ hq P4 r4 hB dJ;have F4:=F1.keep P4 (by simp) (fun zz zz zz=>by simp)
 refine aW C.fr.ns ?_;intro mm i9 zz;have nC:s1.heap.get? cenv.locals=none:=nF _ (.head _);have Yf:=P1.back nC;have KN:env.locals≠cenv.locals:=fun z=>by refine aW F1.ns ?_;intro zz z1;obtain⟨o,_,_,eo,_⟩:=z1;intro zz;rw[z,nC]at eo;exact bk eo
 have Yg:∀n c,(n,c)∈env.cells→c≠cenv.locals:=fun n c m z=>by refine cw (F1.dG n c m) ?_;intro zz zz zz zz v o e zz;rw[z,nC]at e;exact bk e
 have Ud:cenv.locals∉fa G env lV:=fun z=>by obtain⟨o,eo⟩:=F1.bL _ z;rw[nC]at eo;exact bk eo
 have BC:mr cenv.locals=none:=(hB _ C.cU).trans C.fr.cU.1;have AC:cenv.locals∉jZ:=fun z=>by
  rcases dJ _ z with z|z
  ·exact C.fr.cU.2.1 z
  ·exact C.cU z
 have TC:cenv.locals∉tabs:=C.fr.cU.2.2;have P5:aG G (fa G env lV) B Z s mr jZ cT s':=(P1.trans P4).wide F;refine assign_Name (gu hx.1 hx.2 P4.inv F4 r4 fun h' tk F' P'=>?_);refine oq i9 ?_;clear i9;intro oC Yh Yi eC rC;refine⟨mm,⟨oC,Yh,Yi,P'.kept eC Ud AC TC,rC⟩,fun bu G7=>?_⟩;have kp:∀b o,b≠cenv.locals→h'.get? b=some o→bu.get? b=some o:=fun b o z g=>(G7.2 b z).trans g;exact⟨.next,_,cT,mr,jZ,hq,(P5.trans P').fL (it:=cenv.locals) (tk:=tk) Yf BC AC TC Ud kp,F'.fL KN Yg kp,.next⟩
theorem G8{n:Nat}{env:Env}{own lV fr:List Nat}{U:aw}{O:Mu}{Q:Fl→aw→Mu→Prop}{elt target iter:Expr}{ifs:List Expr}{sc:Scope}{pos q7 px:Pos}{x:Nat}(m:Bool)
  (hx:nR G env lV x)(hs:swapsWith (.ListComp elt [⟨target,iter,ifs,0⟩] sc pos) (some (.Name (G.nm x) px)) q7.line env=pure true)
  (dM:tG G sc env.scope fr own)(hf:∀x,foldedSetIterable iter env x=pure x)(hl:∀it v,letOwnedTupleGo target it v=pure ())
  (h:bz G n env (eval iter env) U O fun v aA=>∃xs,Iter G v aA xs∧∀cenv:Env,cenv.scope=jr sc env.scope→cb (gb G n cenv own elt target ifs) xs (cz U fr) aA [] fun zz ar acc=>de m (fun v cT=>Q .next (set U x v) cT) ar acc):
  cn G n env lV (exec (.Assign [.Name (G.nm x) px] (.ListComp elt [⟨target,iter,ifs,0⟩] sc pos) q7) env) U O Q:=by
 intro A hA B Z s I F;rw[exec_Assign_Name_used _ _ _ _ hs,arm_evalThenUse_ListComp];refine wpAny_bind (wpAny_standAt (wpAny_bind (wpAny_bind ?_)));refine wpAny_mono (nh (kk:=fun zz ar acc=>de m (fun v cT=>Q .next (set U x v) cT) ar acc) (R:=fun v aA xs=>∀cenv:Env,cenv.scope=jr sc env.scope→cb (gb G n cenv own elt target ifs) xs (cz U fr) aA [] fun zz ar acc=>de m (fun v cT=>Q .next (set U x v) cT) ar acc)
  (own:=own) (fr:=fr) (Qf:=fun zz s'=>PS G env lV B Z s Q .next s') hA I F rfl hf dM h ?_ ?_) (fun zz zz q=>wpAny_pure (wpAny_pure q)) fun zz zz x=>x
 ·intro cenv v xs aA D it fp Pv St B1 aE s1 s0 hR hs W dd hP hn nD P C J
  have inner:=lp (e:=.ListComp elt [⟨target,iter,ifs,0⟩] sc pos) (d:=0) hA (compTurn_list elt target iter ifs sc pos (.ref it) (.ref D) cenv) rfl rfl rfl (hl _) W dd hP hn P C J (hR cenv (hs.trans (j2 sc env)));exact codeAny_compStart_list inner (W.self 0 _ _ _ J.st inner)
 ·intro cenv D B1 aE aA s1 r s' P1 nD nF F1 hr
  exact tI F hx P1 nD nF F1 hr
theorem G9{n:Nat}{env:Env}{own lV fr:List Nat}{U:aw}{O:Mu}{Q:Fl→aw→Mu→Prop}{elt t0 i0 t1 i1:Expr}{f0 f1:List Expr}{sc:Scope}{pos q7 px:Pos}{x:Nat}(m:Bool)
  (hx:nR G env lV x)(hs:swapsWith (.ListComp elt [⟨t0,i0,f0,0⟩,⟨t1,i1,f1,0⟩] sc pos) (some (.Name (G.nm x) px)) q7.line env=pure true)
  (dM:tG G sc env.scope fr own)(hf:∀x,foldedSetIterable i0 env x=pure x)(G6:∀env x,foldedSetIterable i1 env x=pure x)(hl:∀it v,letOwnedTupleGo t0 it v=pure ())(qe:∀it v,letOwnedTupleGo t1 it v=pure ())
  (h:bz G n env (eval i0 env) U O fun v aA=>∃xs,Iter G v aA xs∧∀cenv:Env,cenv.scope=jr sc env.scope→cb (gK G n cenv own elt t0 f0 i1 t1 f1) xs (cz U fr) aA [] fun zz ar acc=>de m (fun v cT=>Q .next (set U x v) cT) ar acc):
  cn G n env lV (exec (.Assign [.Name (G.nm x) px] (.ListComp elt [⟨t0,i0,f0,0⟩,⟨t1,i1,f1,0⟩] sc pos) q7) env) U O Q:=by
 intro A hA B Z s I F;rw[exec_Assign_Name_used _ _ _ _ hs,arm_evalThenUse_ListComp];refine wpAny_bind (wpAny_standAt (wpAny_bind (wpAny_bind ?_)));refine wpAny_mono (nh (kk:=fun zz ar acc=>de m (fun v cT=>Q .next (set U x v) cT) ar acc) (R:=fun v aA xs=>∀cenv:Env,cenv.scope=jr sc env.scope→cb (gK G n cenv own elt t0 f0 i1 t1 f1) xs (cz U fr) aA [] fun zz ar acc=>de m (fun v cT=>Q .next (set U x v) cT) ar acc)
  (own:=own) (fr:=fr) (Qf:=fun zz s'=>PS G env lV B Z s Q .next s') hA I F rfl hf dM h ?_ ?_) (fun zz zz q=>wpAny_pure (wpAny_pure q)) fun zz zz x=>x
 ·intro cenv v xs aA D it fp Pv St B1 aE s1 s0 hR hs W dd hP hn nD P C J
  have inner:=n3 (i0:=i0) (scope:=sc) (pos:=pos) hA hl qe (G6 cenv) W dd hP hn P C J (hR cenv (hs.trans (j2 sc env)));exact codeAny_compStart_list inner (W.self 0 _ _ _ J.st inner)
 ·intro cenv D B1 aE aA s1 r s' P1 nD nF F1 hr
  exact tI F hx P1 nD nF F1 hr
section
variable (G)
def gf(n:Nat)(v i:V)(O:Mu)(Q:V→Mu→Prop):Prop:=
 ∀A,bY n A→∀B Z s x y,Inv G B Z O s.heap→VR B Z v x→VR B Z i y→∃T id,s.TypeIs x T∧typeLookup (.type T) "__getitem__"=pure (some (.builtin id))∧wpAny (model G.prog G.w) A (getItem x y) (PV G B Z s Q) bM s
variable {G}
theorem tJ{M:Model}{A:Around}{E:Value→Shared→Prop}{s:Shared}{value slice:Expr}{o i:Value}{T id:String}{Q:Value→Shared→Prop}(hT:s.TypeIs o T)
  (hl:typeLookup (.type T) "__getitem__"=pure (some (.builtin id))){ops:List Value}(hs:subscripted slice false o i=operate ops (getItem o i))(h:∀ {prog w},M=model prog w→wpAny (model prog w) A (getItem o i) Q E s){prog:Program}{w:World}(hM:M=model prog w):
  wpAny M A (do let r ←subscripted slice (←getitemInPython o) o i;letTemporaryGo value o r;pure r) Q E s:=by
 subst hM;refine wpAny_bind ?_;rw[getitemInPython_of_ne hT.not_modules];refine wpAny_bind (wpAny_specialOf hT hl ?_);have fin:wpAny (model prog w) A (subscripted slice false o i) (fun r s3=>wpAny (model prog w) A (letTemporaryGo value o r >>= fun zz=>pure r) Q E s3) E s:=by
  rw[hs];exact wpAny_operating (wpAny_mono (h rfl) (fun r s3 h3=>wpAny_bind (wpAny_letTemporaryGo (wpAny_pure h3))) fun zz zz x=>x)
 first
  |exact wpAny_pure (wpAny_bind fin)
  |exact wpAny_bind (wpAny_pure (wpAny_bind fin))
  |exact wpAny_bind fin
section
variable{n:Nat}{env:Env}{U:aw}{O:Mu}{Q:V→Mu→Prop}
theorem PW{value slice:Expr}{pos:Pos}(h:bz G n env (eval value env) U O fun v aA=>bz G n env (eval slice env) U aA fun i aZ=>gf G n v i aZ Q)
  (hs:∀o i,subscripted slice false o i=operate [o,i] (getItem o i)):bz G n env (eval (.Subscript value slice pos) env) U O Q:=by
 intro A hA B Z s I F;rw[eval_Subscript];refine wpAny_bind (wpAny_mono (h A hA B Z s I F) ?_ fun zz zz x=>x);rintro x s1 ⟨v,aA,B1,aE,h1,P1,r1⟩;have F1:=F.same P1;refine wpAny_bind (wpAny_holding (wpAny_mono (h1 A hA B1 aE s1 P1.inv F1) ?_ fun zz zz x=>x));rintro y s2 ⟨u,aZ,B2,aV,h2,P2,r2⟩;refine wpAny_bind (wpAny_standAt ?_);refine oo (h2 A hA B2 aV s2 x y P2.inv (r1.mono P2.le P2.pre) r2) ?_;intro T id hT hl hg;exact wpAny_mono (tJ hT hl (hs _ _) (fun e=>by cases e;exact hg) rfl) (fun z s3 h3=>PV.after P1 (PV.after P2 h3)) fun zz zz x=>x
noncomputable def cE(i:Int)(len:Nat):Nat:=(if i<0 then i+len else i).toNat
theorem D2{xs:List V}{i:Int}{v:V}(h0 : -(xs.length:Int)≤i)(js:xs.length<2 ^ 62)(hx:xs[cE i xs.length]?=some v)(q:Q v O):gf G n (.list xs) (.int i) O Q:=by
 intro A hA B Z s x y I hv hi;refine VR.bC hi ?_;intro _;rename_i t;cases hv with
 |list e l h9=>
  rename_i a vs k;have hl:s.heap.IsList a vs.toArray:=⟨_,I.holds _ _ e,rfl,k,rfl⟩;refine aW (aB.get ⟨l,h9⟩ hx) ?_;intro u hu r;have bA:=(List.getElem?_eq_some_iff.mp hx).1;refine⟨"list",_,hl.typeIs,list_getitem_lookup,?_⟩;have l9:vs.toArray[cE i xs.length]?=some u:=by simpa using hu
  unfold cE at bA l9
  by_cases j4:i<0
  ·rw[if_pos j4]at bA l9
   have sz:vs.toArray.size=xs.length:=by simp[l]
   exact wpAny_getItem_list_neg hl j4 (by rw[sz];exact h0) (by exact S6 h0 js l sz) (by rw[sz];exact l9) (PV.bQ I r q)
  ·rw[if_neg j4]at bA l9
   exact wpAny_getItem_list hl (by exact S7 j4) (by exact S8 js l bA) l9 (PV.bQ I r q)
theorem KO{xs:List V}{j:Nat}{i:Int}{v:V}(hj:O[j]?=some (some xs))(h0 : -(xs.length:Int)≤i)(js:xs.length<2 ^ 62)(hx:xs[cE i xs.length]?=some v)(q:Q v O):gf G n (.ml j) (.int i) O Q:=by
 intro A hA B Z s x y I hv hi;refine VR.bC hi ?_;intro _;rename_i t;cases hv with
 |ml e=>
  rename_i a;refine eh (I.ml j a xs e hj) ?_;intro _ vs k g r;have l:=r.1;have hl:s.heap.IsList a vs.toArray:=⟨_,g,rfl,k,rfl⟩;refine aW (aB.get (r.any Z) hx) ?_;intro u hu r;have bA:=(List.getElem?_eq_some_iff.mp hx).1;refine⟨"list",_,hl.typeIs,list_getitem_lookup,?_⟩;have l9:vs.toArray[cE i xs.length]?=some u:=by simpa using hu
  unfold cE at bA l9
  by_cases j4:i<0
  ·rw[if_pos j4]at bA l9
   have sz:vs.toArray.size=xs.length:=by simp[l]
   exact wpAny_getItem_list_neg hl j4 (by rw[sz];exact h0) (by exact S6 h0 js l sz) (by rw[sz];exact l9) (PV.bQ I r q)
  ·rw[if_neg j4]at bA l9
   exact wpAny_getItem_list hl (by exact S7 j4) (by exact S8 js l bA) l9 (PV.bQ I r q)
theorem AE{xs:List V}{i:Int}{v:V}(h0:0≤i)(js:xs.length<2 ^ 62)(hx:xs[i.toNat]?=some v)(q:Q v O):gf G n (.tuple xs) (.int i) O Q:=by
 intro A hA B Z s x y I hv hi;refine VR.bC hi ?_;intro _;rename_i t;cases hv with
 |tuple e l h9=>
  rename_i a vs k;have hl:IsTup s.heap a vs.toArray:=⟨_,I.holds _ _ e,rfl,k,rfl⟩;refine aW (aB.get ⟨l,h9⟩ hx) ?_;intro u hu r;have bA:=(List.getElem?_eq_some_iff.mp hx).1;have sz:vs.toArray.size=xs.length:=by simp[l]
  refine⟨"tuple",_,hl.typeIs,slot_tuple_getitem.lookup,?_⟩;exact PyProof.Rows.getItem_tuple hl (by exact ag 0 1 (aa (ai aJ aq) (ai (cH (zk (2 ^ 63))) aq)) (by kd_p) h0) (by exact ag 3 1 (aa (ak au (nk (2 ^ 62))) (aa (ax au af) (aa (ak (dz aq) au) (aa (ax ab au) (aM aq (zk (2 ^ 63))))))) (by kd_p) js l bA sz) (j:=i.toNat) (by
   unfold seqIndex?;rw[sz];simp only[];rw[if_neg (by exact ag 0 1 (aa (ai aJ aq) (dH (aM aq aJ))) (by kd_p) h0:¬ i<0)]
   rw[if_pos (by simp;exact ag 3 1 (aa (ai aJ aq) (aa (ak au (nk (2 ^ 62))) (aa (ax au af) (aa (ak (dz aq) au) (aa (ax ab au) (aT (ai aJ aq) (aM aq (az au)))))))) (by kd_p) h0 js l bA sz)]) (by simpa using hu) (PV.bQ I r q)
noncomputable def pick{τ:Type}(xs:List τ)(lo hi st:Option Int):List τ:=
 (sliceRange (sliceBounds lo hi st xs.length).1 (sliceBounds lo hi st xs.length).2.1 (sliceBounds lo hi st xs.length).2.2).filterMap (xs[·]?)
theorem vq(vs:List Value)(lo hi st:Option Int):slicePick vs.toArray lo hi st=(pick vs lo hi st).toArray:=by
 unfold slicePick pick;simp
theorem aB.Ha{B:ay}{Z:List Addr}{xs:List V}{vs:List Value}(h:aB B Z xs vs):∀is:List Nat,aB B Z (is.filterMap (xs[·]?)) (is.filterMap (vs[·]?))
 |[]=>.nil
 |i::is=>by
  rw[List.filterMap_cons,List.filterMap_cons]
  by_cases hi:i<xs.length
  ·have DW:i<vs.length:=h.1▸hi
   rw[List.getElem?_eq_getElem hi,List.getElem?_eq_getElem DW];exact .cons (h.2 i _ _ (List.getElem?_eq_getElem hi) (List.getElem?_eq_getElem DW)) (h.Ha is)
  ·have DW:¬ i<vs.length:=h.1▸hi
   rw[List.getElem?_eq_none (by exact OV hi),List.getElem?_eq_none (by exact OV DW)]
   exact h.Ha is
theorem aB.pick{B:ay}{Z:List Addr}{xs:List V}{vs:List Value}(h:aB B Z xs vs)(lo hi st:Option Int):aB B Z (pick xs lo hi st) (bg.pick vs lo hi st):=by
 unfold bg.pick;rw[←h.1];exact h.Ha _
noncomputable def fM(x:Str)(lo hi:Option Int):Str:=
 let is:=Builtin.Str.strSliceIndices lo hi 1 x.length
 if is.length==x.length then x else⟨(is.filterMap (x.cps[·]?)).toArray⟩
noncomputable def jt:Option Int→V
 |none=>.none
 |some i=>.int i
theorem VR.part{B:ay}{Z:List Addr}{v:Value}{p:Option Int}(h:VR B Z (jt p) v):IsPart v p∧∃q:Option (Int×Tok),v=partValue q∧q.map (·.1)=p:=by
 cases p with
 |none=>cases h;exact⟨IsPart.none,Option.none,rfl,rfl⟩
 |some i=>cases h;exact⟨IsPart.int _ _,Option.some (_,_),rfl,rfl⟩
variable (G)
def ju(n:Nat)(v:V)(lo hi st:Option Int)(O:Mu)(Q:V→Mu→Prop):Prop:=
 ∀A,bY n A→∀B Z s x l u st' sl,Inv G B Z O s.heap→VR B Z v x→VR B Z (jt lo) l→VR B Z (jt hi) u→VR B Z (jt st) st'→s.heap.get? sl=some {cls:=.type "slice",data:=.fields #[l,u,st']}→
  ∃T id,s.TypeIs x T∧typeLookup (.type T) "__getitem__"=pure (some (.builtin id))∧wpAny (model G.prog G.w) A (getItem x (.ref sl)) (PV G B Z s Q) bM s
variable {G}
theorem Hb{value:Expr}{lower upper step:Option Expr}{p pos:Pos}
  (h:bz G n env (eval value env) U O fun v aA=>bz G n env (evalPart lower env) U aA fun l aZ=>bz G n env (evalPart upper env) U aZ fun u dK=>bz G n env (evalPart step env) U dK fun st oy=>
   ∃lo hi s,l=jt lo∧u=jt hi∧st=jt s∧ju G n v lo hi s oy Q):bz G n env (eval (.Subscript value (.Slice lower upper step p) pos) env) U O Q:=by
 intro A hA B Z s I F;rw[eval_Subscript];refine wpAny_bind (wpAny_mono (h A hA B Z s I F) ?_ fun zz zz x=>x);rintro x s1 ⟨v,aA,B1,aE,h1,P1,r1⟩;have F1:=F.same P1;refine wpAny_bind (wpAny_holding (wpAny_Slice (wpAny_mono (h1 A hA B1 aE s1 P1.inv F1) ?_ fun zz zz x=>x)));rintro l s2 ⟨lv,aZ,B2,aV,h2,P2,r2⟩;have F2:=F1.same P2;refine wpAny_mono (h2 A hA B2 aV s2 P2.inv F2) ?_ fun zz zz x=>x;rintro u s3 ⟨uv,dK,B3,dI,h3,P3,r3⟩;have F3:=F2.same P3;refine wpAny_mono (h3 A hA B3 dI s3 P3.inv F3) ?_ fun zz zz x=>x;rintro st s4 ⟨sv,oy,B4,fy,⟨lo,hi,so,rfl,rfl,rfl,h4⟩,P4,r4⟩;refine wpAny_bind (wpAny_standAt ?_);have P5:aG G [] B4 fy s4 B4 fy oy {s4 with heap:=s4.heap.push {cls:=.type "slice",data:=.fields #[l,u,st]}}:=P4.inv.kr (t:=s4.toks) (bN _ _) (fun zz m=>nomatch m)
 refine oo (h4 A hA B4 fy {s4 with heap:=s4.heap.push {cls:=.type "slice",data:=.fields #[l,u,st]}} x l u st s4.heap.objs.size P5.inv (((r1.mono P2.le P2.pre).mono P3.le P3.pre).mono P4.le P4.pre) ((r2.mono P3.le P3.pre).mono P4.le P4.pre) (r3.mono P4.le P4.pre) r4 (Heap.get?_push_size _ rfl)) ?_;intro T id hT hl hg
 have hs:∃ops,subscripted (.Slice lower upper step p) false x (.ref s4.heap.objs.size)=operate ops (getItem x (.ref s4.heap.objs.size)):=by
  cases step with
  |none=>exact⟨_,rfl⟩
  |some e=>exact⟨_,rfl⟩
 obtain⟨ops,hs⟩:=hs;exact wpAny_mono (tJ hT hl hs (fun e=>by cases e;exact hg) rfl) (fun z s6 h6=>PV.after P1 (PV.after P2 (PV.after P3 (PV.after P4 (PV.after P5 h6))))) fun zz zz x=>x
theorem Hc{xs:List V}{lo hi st:Option Int}(h0:st≠some 0)(bG:xs.length≤sizeLine)(q:Q (.list (pick xs lo hi st)) O):ju G n (.list xs) lo hi st O Q:=by
 intro A hA B Z s x l u st' sl I hv hl hu hs y6;cases hv with
 |list e len h9=>
  rename_i a vs k;have hL:s.heap.IsList a vs.toArray:=⟨_,I.holds _ _ e,rfl,k,rfl⟩;refine⟨"list",_,hL.typeIs,list_getitem_lookup,?_⟩;refine wpAny_getItem_list_slice hL ⟨_,y6,rfl,rfl⟩ hl.part.1 hu.part.1 hs.part.1 h0 ?_ (by simp[←len];exact bG)
  rw[vq];have r:=(aB.pick (⟨len,h9⟩:aB B Z xs vs) lo hi st);have P:=I.push (o:=lobj (bg.pick vs lo hi st) 0) (t:=s.toks) rfl;exact⟨_,_,_,_,q,P,.newList (ay.c9 ..) (r.mono P.le P.pre)⟩
theorem KQ{x:Str}{lo hi:Option Int}(bG:(fM x lo hi).length≤sizeLine)(q:Q (.str (fM x lo hi)) O):ju G n (.str x) lo hi none O Q:=by
 intro A hA B Z s x' l u st' sl I hv hl hu hs y6;cases hv with
 |str=>
  rename_i t;refine aW hl.part.2 ?_;intro ql z1;subst z1;intro z2;subst z2;refine aW hu.part.2 ?_;intro qu z1;subst z1;intro z2;subst z2;refine aW hs.part.2 ?_;intro qs z1;subst z1;intro hq;cases qs with
  |some p=>cases hq
  |none=>
   refine⟨"str",_,typeIs_str _ x t,F.slot_str_getitem.lookup,?_⟩;refine wpAny_getItem_str_slice (l:=ql) (u:=qu) (st:=Option.none) ⟨_,y6,rfl,rfl⟩ rfl ?_;unfold sliceMade slicePicked;unfold fM at q bG;simp only[Option.map_none,Option.getD_none]at *;split
   ·rename_i hc
    rw[if_pos (by simpa using hc)]at q
    exact PV.bQ I .str q
   ·rename_i hc
    rw[if_neg (by simpa using hc)]at q bG
    exact⟨bG,PV.here I .str q⟩
end
end
section
variable (G)
def fU(f:Value)(h:Heap):Prop:=∃k,(k=Keeper.frame∨k=Keeper.machine∨k=Keeper.boundFrame)∧Looks (model G.prog G.w) h (keeperOf f) k
def bD(n:Nat)(f:V)(vs:List V)(kw:List (Str×V))(O:Mu)(Q:V→Mu→Prop):Prop:=
 ∀A,bY n A→∀B Z s fx xs ks,Inv G B Z O s.heap→VR B Z f fx→aB B Z vs xs→aB B Z (kw.map (·.2)) ks→
  fU G fx s.heap∧wpAny (model G.prog G.w) A (call fx xs ((kw.map (·.1)).zip ks)) (PV G B Z s Q) bM s
variable {G}
theorem bD.machine{n:Nat}{f:Value}{vs:List V}{kw:List (Str×V)}{O:Mu}{Q:V→Mu→Prop}(hf:∀a,f≠.ref a)(h:aU G n f vs kw O Q):bD G n (.raw f) vs kw O Q:=by
 intro A hA B Z s fx xs ks I rf rv rk;refine VR.jY rf ?_;refine⟨⟨.machine,.inr (.inl rfl),Looks.of_pure ?_⟩,h A hA B Z s xs ks I rv rk⟩;unfold keeperOf;cases f<;>first|rfl|exact absurd rfl (hf _)
theorem bD.K{n:Nat}{f:Value}{vs:List V}{kw:List (Str×V)}{O:Mu}{Q:V→Mu→Prop}(hf:keepIn G.K f=true)(h:aU G n f vs kw O Q):bD G n (.raw f) vs kw O Q:=by
 intro A hA B Z s fx xs ks I rf rv rk;refine VR.jY rf ?_;exact⟨keeps_K hf _ I.jS,h A hA B Z s xs ks I rv rk⟩
theorem aU.deeper{n m:Nat}{f:Value}{vs:List V}{kw:List (Str×V)}{O:Mu}{Q:V→Mu→Prop}(h:aU G n f vs kw O Q)(hm:n≤m):aU G m f vs kw O Q:=
 fun A hA=>h A (hA.le hm)
theorem qh(pos:Pos)(env:Env):∀kws:List Keyword,(backToKw pos (keywordEach kws env)).filterMap (·.1)=kws.filterMap (·.arg)
 |[]=>rfl
 |⟨.none,v,p⟩::r=>qh pos env r
 |⟨.some n,v,p⟩::r=>congrArg (n :: ·) (qh pos env r)
theorem CJ(pos:Pos)(env:Env):∀kws:List Keyword,kws.all (·.arg.isSome)=true→(backToKw pos (keywordEach kws env)).all (·.1.isSome)=true
 |[],_=>rfl
 |⟨_,v,p⟩::r,h=>by
  simp only[List.all_cons,Bool.and_eq_true]at h;show(_&&(backToKw pos (keywordEach r env)).all (·.1.isSome))=true
  rw[CJ pos env r h.2];simp[h.1]
theorem ni(pos:Pos)(env:Env):∀kws:List Keyword,kws.all (·.arg.isSome)=true→(backToKw pos (keywordEach kws env)).any (·.1.isNone)=false
 |[],_=>rfl
 |⟨a,v,p⟩::r,h=>by
  simp only[List.all_cons,Bool.and_eq_true]at h;show(_||(backToKw pos (keywordEach r env)).any (·.1.isNone))=false
  rw[ni pos env r h.2];cases a with
  |none=>cases h.1
  |some=>rfl
def eG(args:List Expr)(env:Env):Prop:=starEach args env=args.map fun e=>(false,eval e env)
theorem plain_any{args:List Expr}{env:Env}{pos:Pos}(h:eG args env):(backTo pos (starEach args env)).any (·.1)=false:=by
 rw[h];unfold backTo;simp
theorem iE{M:Model}{A:Around}{E:Value→Shared→Prop}{s:Shared}{f:Value}{pos:Pos}{env:Env}{args:List Expr}{kws:List Keyword}{Q:Args→Shared→Prop}(hp:eG args env)(hk:kws.all (·.arg.isSome)=true)
  (h:wpAny M A (spliced (backTo pos (starEach args env))) (fun vs s1=>wpAny M A (evalAll ((backToKw pos (keywordEach kws env)).map (·.2))) (fun ks s2=>Q ⟨vs,(kws.filterMap (·.arg)).zip ks⟩ s2) E s1) E s):
  wpAny M A (evalArgs f true (backTo pos (starEach args env)) (backToKw pos (keywordEach kws env))) Q E s:=by
 have lW:=CJ pos env kws hk;rw[hp]at h ⊢;have fin:∀ (t:Sem (List Value)),wpAny M A t (fun vs s1=>wpAny M A (evalAll ((backToKw pos (keywordEach kws env)).map (·.2))) (fun ks s2=>Q ⟨vs,(kws.filterMap (·.arg)).zip ks⟩ s2) E s1) E s→
   wpAny M A (t >>= fun vs=>holding (vs++[]) (do
    let kw:=((backToKw pos (keywordEach kws env)).filterMap (·.1)).zip (←evalAll ((backToKw pos (keywordEach kws env)).map (·.2)))
    return⟨vs,kw⟩)) Q E s:=by
  intro t ht;refine wpAny_bind (wpAny_mono ht (fun vs s1 h1=>wpAny_holding ?_) fun zz zz x=>x);rw[qh];exact wpAny_bind (wpAny_mono h1 (fun ks s2 h2=>wpAny_pure h2) fun zz zz x=>x)
 cases args with
 |nil=>
  have:=fin (spliced []) h;unfold evalArgs;simp only[lW,if_true];exact this
 |cons e r=>
  have:=fin _ h;unfold evalArgs;simp only[lW,if_true];exact this
section
variable{n:Nat}{env:Env}{U:aw}{O:Mu}{Q:V→Mu→Prop}
theorem AF{pos:Pos}{R:List V→Mu→Prop}(q:R [] O):eZ G n env (evalAll ((backToKw pos (keywordEach [] env)).map (·.2))) U O R:=
 fun A hA B Z s I F=>kwAll_nil ⟨[],O,B,Z,q,aG.refl I (fun zz m=>nomatch m),.nil⟩
theorem CL{name:Str}{e:Expr}{p:Pos}{rest:List Keyword}{pos:Pos}{R:List V→Mu→Prop}
  (h:bz G n env (eval e env) U O fun v aA=>eZ G n env (evalAll ((backToKw pos (keywordEach rest env)).map (·.2))) U aA fun vs aZ=>R (v::vs) aZ):
  eZ G n env (evalAll ((backToKw pos (keywordEach (⟨some name,e,p⟩::rest) env)).map (·.2))) U O R:=by
 intro A hA B Z s I F;refine kwAll_cons (wpAny_mono (h A hA B Z s I F) ?_ fun zz zz x=>x);rintro x s1 ⟨v,aA,B1,aE,h1,P1,r1⟩;refine wpAny_mono (h1 A hA B1 aE s1 P1.inv (F.keep P1 (by simp) (fun zz zz zz=>by simp))) ?_ fun zz zz x=>x
 rintro xs s2 ⟨vs,aZ,B2,aV,h2,P2,r2⟩;exact⟨v::vs,aZ,B2,aV,h2,P1.trans P2,.cons (r1.mono P2.le P2.pre) r2⟩
theorem xI{f:Expr}{args:List Expr}{kws:List Keyword}{pos:Pos}(he:eval (.Call f args kws pos) env=(do callWith pos (←eval f env) [] (backTo pos (starEach args env)) (backToKw pos (keywordEach kws env))))
  (hp:eG args env)(hk:kws.all (·.arg.isSome)=true)
  (h:bz G n env (eval f env) U O fun fv aA=>eZ G n env (spliced (backTo pos (starEach args env))) U aA fun vs aZ=>eZ G n env (evalAll ((backToKw pos (keywordEach kws env)).map (·.2))) U aZ fun ks dK=>
   ∃kw:List (Str×V),kw.map (·.1)=kws.filterMap (·.arg)∧kw.map (·.2)=ks∧bD G n fv vs kw dK Q):
  bz G n env (eval (.Call f args kws pos) env) U O Q:=by
 intro A hA B Z s I F;rw[he];refine wpAny_bind (wpAny_mono (h A hA B Z s I F) ?_ fun zz zz x=>x);rintro fx s1 ⟨fv,aA,B1,aE,h1,P1,r1⟩;have F1:=F.same P1;refine callWith_of (P:=fU G fx) (by rw[plain_any hp,ni _ _ _ hk];rfl) (fun zz x=>x) (iE hp hk ?_)
 refine wpAny_mono (h1 A hA B1 aE s1 P1.inv F1) ?_ fun zz zz x=>x;rintro xs s2 ⟨vs,aZ,B2,aV,h2,P2,r2⟩;have F2:=F1.same P2;refine wpAny_mono (h2 A hA B2 aV s2 P2.inv F2) ?_ fun zz zz x=>x;rintro ks s3 ⟨us,dK,B3,dI,⟨kw,e1,e2,h3⟩,P3,r3⟩;obtain⟨a,b⟩:=h3 A hA B3 dI s3 fx xs ks P3.inv ((r1.mono P2.le P2.pre).mono P3.le P3.pre) (r2.mono P3.le P3.pre) (e2▸r3);refine⟨a,?_⟩;rw[List.nil_append,←e1];exact wpAny_mono b (fun z s6 h6=>PV.after P1 (PV.after P2 (PV.after P3 h6))) fun zz zz x=>x
variable (G)
variable {G}
end
end
section
variable (G)
def xJ(v:V)(O:Mu)(xs:List V):Prop:=
 ∀A,A.handled=none→∀B Z s u (Q:List Value→Shared→Prop) (E:Value→Shared→Prop),Inv G B Z O s.heap→VR B Z v u→
  (∀h' items,(∀b o,s.heap.get? b=some o→h'.get? b=some o)→aB B Z xs items→Q items {s with heap:=h'})→wpAny (model G.prog G.w) A (unpackItems u xs.length none) Q E s
variable {G}
theorem tK{h h':Heap}(x:Heap.ExtBut h.objs.size h h'):∀b o,h.get? b=some o→h'.get? b=some o:=fun b o e=>x b o (Nat.ne_of_lt (Heap.lt_size e)) e
theorem xJ.list{xs:List V}{O:Mu}:xJ G (.list xs) O xs:=by
 intro A hA B Z s u Q E I r hQ;cases r with
 |list e l h9=>
  rename_i a vs k;have hl:s.heap.IsList a vs.toArray:=⟨_,I.holds _ _ e,rfl,k,rfl⟩;rw[show xs.length=vs.toArray.size by simp[l]]
  exact kun_itemsOf hA hl fun h' hx=>hQ h' _ (tK hx) ⟨l,h9⟩
theorem xJ.tuple{xs:List V}{O:Mu}:xJ G (.tuple xs) O xs:=by
 intro A hA B Z s u Q E I r hQ;cases r with
 |tuple e l h9=>
  rename_i a vs k;have hl:IsTup s.heap a vs.toArray:=⟨_,I.holds _ _ e,rfl,k,rfl⟩;rw[show xs.length=vs.toArray.size by simp[l]]
  exact unpackItems_tuple hA hl fun h' hx=>hQ h' _ (tK hx) ⟨l,h9⟩
section
variable{n:Nat}{env:Env}{own:List Nat}{U:aw}{O:Mu}{Q:Fl→aw→Mu→Prop}
variable (G)
def xK(n:Nat)(v i u:V)(O:Mu)(Q:Mu→Prop):Prop:=
 ∀A,bY n A→∀B Z s x y z,Inv G B Z O s.heap→VR B Z v x→VR B Z i y→VR B Z u z→
  wpAny (model G.prog G.w) A (setItem x y z) (fun zz s'=>∃ar B' aH,Q ar∧aG G [] B Z s B' aH ar s') bM s
variable {G}
theorem He{A:Around}{s:Shared}{l:Addr}{vs:List Value}{m:Nat}{k:Int}{t:Tok}{v:Value}{Q:Unit→Shared→Prop}{E:Value→Shared→Prop}(g:s.heap.get? l=some (lobj vs m))(h0:0≤k)(js:k<2 ^ 63)(hn:k<vs.length)
  (hQ:∀h' m',h'.get? l=some (lobj (vs.set k.toNat v) m')→Heap.SameBut l s.heap h'→Q () {s with heap:=h'}):wpAny (model G.prog G.w) A (setItem (.ref l) (.int k t) v) Q E s:=by
 have hl:s.heap.IsList l vs.toArray:=⟨_,g,rfl,m,rfl⟩;have fin:∀j,k.toNat=j→wpAny (model G.prog G.w) A.in1 (setSeqItemAt l j v) (fun zz=>Q ()) (fun zz zz=>False) s:=by
  rintro j rfl;refine wpAny_setSeqItemAt g rfl (hQ _ (if(vs.toArray.setIfInBounds k.toNat v).size==vs.toArray.size then m else m+1) ?_ (Heap.SameBut.update ..))
  have:=IsL.update (h:=s.heap) (l:=l) g (·.setIfInBounds k.toNat v)
  rw[show vs.toArray.setIfInBounds k.toNat v=(vs.set k.toNat v).toArray by simp]at this
  rw[show vs.toArray.setIfInBounds k.toNat v=(vs.set k.toNat v).toArray by simp]
  exact this
 unfold setItem;refine wpAny_holding ?_;refine wpAny_bind (wpAny_sequenceKey hl.typeIs (by decide) ?_)
 refine wpAny_bind (wpAny_callSpecial?_slot (name:=Str.ofString "__setitem__") hl.typeIs slot_list_setitem
  (wpAny_call_entry slot_list_setitem hl.typeIs entry_list_setitem ?_ (args_list_setitem _ _ _)))
 show wpAny _ _ (Builtin.List.listSubscript? (.int k t) >>= _) _ _ s;refine wpAny_bind (wpAny_listSubscript_int (fitsIndex_of h0 js) ?_);clear js hQ;obtain⟨j,rfl⟩:=Int.eq_ofNat_of_zero_le h0;have hj:j<vs.toArray.size:=by simp;exact ag 2 0 (aa (aM (az af) (az ab)) (ak af ab)) (by kd_p) hn
 have fin:=fin j rfl;show wpAny _ _ ((seqItemAt l j >>= fun r=>pure (r.map (j,·))) >>= _) _ _ s
 refine wpAny_bind (wpAny_bind (wpAny_seqItemAt g rfl (wpAny_pure ?_)));rw[Array.getElem?_eq_getElem hj];show wpAny _ _ (setSeqItemAt l j v >>= _) _ _ s;refine wpAny_bind (wpAny_mono fin (fun zz s' q=>?_) fun zz zz x=>x.elim);first
  |exact wpAny_bind (wpAny_pure (wpAny_pure ⟨.none,rfl,wpAny_pure q⟩))
  |exact wpAny_pure ⟨.none,rfl,wpAny_pure q⟩
theorem KR{xs:List V}{j:Nat}{i:Int}{u:V}{Q:Mu→Prop}(hj:O[j]?=some (some xs))(h0:0≤i)(h1:i<xs.length)(js:xs.length<2 ^ 62)(hc:Cl u)(q:Q (O.set j (some (xs.set i.toNat u)))):xK G n (.ml j) (.int i) u O Q:=by
 intro A hA B Z s x y z I hv hi hu;refine VR.bC hi ?_;intro _;rename_i t;cases hv with
 |ml e=>
  rename_i a;refine eh (I.ml j a xs e hj) ?_;intro _ vs k g r;have hl:s.heap.IsList a vs.toArray:=⟨_,g,rfl,k,rfl⟩;have sz:vs.toArray.size=xs.length:=by simp[r.1]
  refine He g h0 (by exact ag 2 1 (aa (aM aq (az af)) (aa (ak af (nk (2 ^ 62))) (aa (ax ab af) (aM aq (zk (2 ^ 63)))))) (by kd_p) h1 js sz) (by rw[←r.1];exact h1) fun h' k' e' hs=>?_
  have P:=I.xx (t:=s.toks) e hj (r.set (hu.clean hc []) i.toNat) (n:=k') e' hs;exact⟨_,_,_,q,P⟩
theorem PX{o i:Expr}{pos:Pos}{v:V}{R:aw→Mu→Prop}(h:bz G n env (eval o env) U O fun ov aA=>bz G n env (eval i env) U aA fun iv aZ=>xK G n ov iv v aZ (R U)):
  gF G n env own (assign (.Subscript o i pos) env) v U O R:=by
 intro A hA B Z s u I F r;rw[assign_Subscript];refine wpAny_bind (wpAny_holding (wpAny_mono (h A hA B Z s I F) ?_ fun zz zz x=>x));rintro x s1 ⟨ov,aA,B1,aE,bf,P1,r1⟩;have F1:=F.same P1;refine wpAny_bind (wpAny_holding (wpAny_mono (bf A hA B1 aE s1 P1.inv F1) ?_ fun zz zz x=>x));rintro y s2 ⟨iv,aZ,B2,aV,h2,P2,r2⟩;have F2:=F1.same P2;refine wpAny_bind (wpAny_standAt (wpAny_bind (wpAny_holding (wpAny_mono (h2 A hA B2 aV s2 x y u P2.inv (r1.mono P2.le P2.pre) r2 ((r.mono P1.le P1.pre).mono P2.le P2.pre)) ?_ fun zz zz x=>x))));rintro zz s3 ⟨dK,B3,dI,q,P3⟩;exact wpAny_release ⟨U,dK,B3,dI,q,((P1.trans P2).trans P3).wide F,F2.same P3⟩
variable (G)
noncomputable def qi(n:Nat)(env:Env)(own:List Nat):List Expr→List V→aw→Mu→(aw→Mu→Prop)→Prop
 |[],[],U,O,R=>R U O
 |t::ts,v::vs,U,O,R=>gF G n env own (assign t env) v U O fun ao ar=>qi n env own ts vs ao ar R
 |_,_,_,_,_=>False
noncomputable def Hf(n:Nat)(env:Env)(own:List Nat):List Expr→V→aw→Mu→(aw→Mu→Prop)→Prop
 |[],v,U,O,R=>R U O
 |t::ts,v,U,O,R=>gF G n env own (assign t env) v U O fun ao ar=>Hf n env own ts v ao ar R
variable {G}
theorem ra:∀ {ts:List Expr} {vs:List V} {U:aw} {O:Mu} {R:aw→Mu→Prop},qi G n env own ts vs U O R→∀A,bY n A→∀B Z s xs,Inv G B Z O s.heap→bt G env B Z U s.heap→aB B Z vs xs→
  wpAny (model G.prog G.w) A (assignInOrder (ts.map fun t=>assign t env) xs) (PA G env own B Z s R) bM s
 |[],[],U,O,R,h,A,hA,B,Z,s,xs,I,F,r=>wpAny_pure ⟨U,O,B,Z,h,aG.refl I F.bL,F⟩
 |t::ts,v::vs,U,O,R,h,A,hA,B,Z,s,xs,I,F,r=>by
  refine aB.aN r ?_;intro x us rx ru;show wpAny _ _ (do holding us (assign t env x);assignInOrder (ts.map fun t=>assign t env) us) _ _ _
  refine wpAny_bind (wpAny_holding (wpAny_mono (h A hA B Z s x I F rx) ?_ fun zz zz x=>x));rintro zz s1 ⟨a9,aA,B1,aE,bf,P1,F1⟩;refine wpAny_mono (ra bf A hA B1 aE s1 us P1.inv F1 (ru.mono P1.le P1.pre)) ?_ fun zz zz x=>x;rintro zz s2 ⟨b9,aZ,B2,aV,h2,P2,F2⟩;exact⟨b9,aZ,B2,aV,h2,P1.trans P2,F2⟩
 |[],_::_,_,_,_,h,_,_,_,_,_,_,_,_,_=>h.elim
 |_::_,[],_,_,_,h,_,_,_,_,_,_,_,_,_=>h.elim
theorem CM:∀ {ts:List Expr} {v:V} {U:aw} {O:Mu} {R:aw→Mu→Prop},Hf G n env own ts v U O R→∀A,bY n A→∀B Z s x,Inv G B Z O s.heap→bt G env B Z U s.heap→VR B Z v x→
  wpAny (model G.prog G.w) A (assignAll x (ts.map fun t=>assign t env)) (PA G env own B Z s R) bM s
 |[],v,U,O,R,h,A,hA,B,Z,s,x,I,F,r=>wpAny_pure ⟨U,O,B,Z,h,aG.refl I F.bL,F⟩
 |[t],v,U,O,R,h,A,hA,B,Z,s,x,I,F,r=>h A hA B Z s x I F r
 |t::t'::ts,v,U,O,R,h,A,hA,B,Z,s,x,I,F,r=>by
  show wpAny _ _ (do holding [x] (assign t env x);assignAll x ((t'::ts).map fun t=>assign t env)) _ _ _
  refine wpAny_bind (wpAny_holding (wpAny_mono (h A hA B Z s x I F r) ?_ fun zz zz x=>x));rintro zz s1 ⟨a9,aA,B1,aE,bf,P1,F1⟩;refine wpAny_mono (CM (ts:=t'::ts) bf A hA B1 aE s1 x P1.inv F1 (r.mono P1.le P1.pre)) ?_ fun zz zz x=>x;rintro zz s2 ⟨b9,aZ,B2,aV,h2,P2,F2⟩;exact⟨b9,aZ,B2,aV,h2,P1.trans P2,F2⟩
def jv(ts:List Expr)(env:Env):Prop:=assignEach ts env=ts.map fun t=>(false,assign t env)
theorem jv.snd{ts:List Expr}{env:Env}(h:jv ts env):(assignEach ts env).map (·.2)=ts.map fun t=>assign t env:=by rw[h];simp
theorem n4:∀ts:List Expr,(ts.map fun t=>(false,assign t env)).findIdx? (·.1)=none
 |[]=>rfl
 |t::ts=>by rw[List.map_cons,List.findIdx?_cons];simp[n4 ts]
theorem Hg{ts:List Expr}{k:Nat}{pos:Pos}{v:V}{vs:List V}{R:aw→Mu→Prop}(hp:jv ts env)(hu:xJ G v O vs)(hl:vs.length=ts.length)(h:qi G n env own ts vs U O R):
  gF G n env own (assign (.Tuple ts k pos) env) v U O R:=by
 intro A hA B Z s u I F r;rw[assign_Tuple];refine wpAny_bind (wpAny_standAt ?_);unfold unpack;rw[hp.snd,hp,n4,List.length_map,←hl];refine wpAny_bind (wpAny_holding (hu A hA.handled B Z s u _ _ I r fun h' items hk ri=>?_));have P:aG G (fa G env own) B Z s B Z O {s with heap:=h'}:=I.kr (t:=s.toks) hk F.bL
 refine wpAny_mono (ra h A hA B Z {s with heap:=h'} items P.inv (F.same (I.kr (t:=s.toks) hk (fun zz m=>nomatch m))) ri) ?_ fun zz zz x=>x
 rintro zz s2 ⟨b9,aZ,B2,aV,h2,P2,F2⟩;exact⟨b9,aZ,B2,aV,h2,P.trans P2,F2⟩
theorem xM{ts:List Expr}{e:Expr}{pos:Pos}(hp:jv ts env)(hs:swapsWithSole ts e pos.line env=pure false)(hw:swappedStores ts e env=pure none)
  (h:bz G n env (eval e env) U O fun v aA=>Hf G n env own ts v U aA (Q .next)):cn G n env own (exec (.Assign ts e pos) env) U O Q:=by
 intro A hA B Z s I F;refine wpAny_Assign_stores (wpAny_mono (h A hA B Z s I F) ?_ fun zz zz x=>x) hs hw;rintro x s1 ⟨v,aA,B1,aE,bf,P1,r1⟩;rw[hp.snd];refine wpAny_mono (CM bf A hA B1 aE s1 x P1.inv (F.same P1) r1) ?_ fun zz zz x=>x;rintro zz s2 ⟨b9,aZ,B2,aV,h2,P2,F2⟩;exact⟨.next,b9,aZ,B2,aV,h2,(P1.wide F).trans P2,F2,.next⟩
theorem lX{A:Around}{B:ay}{Z:List Addr}{O:Mu}:∀ {xs:List Nat} {vs:List V} {U:aw} {s:Shared} {us:List Value} {Q:Unit→Shared→Prop} {E:Value→Shared→Prop},(∀x∈xs,nR G env own x)→xs.length=vs.length→Inv G B Z O s.heap→bt G env B Z U s.heap→aB B Z vs us→
  (∀h' tk,bt G env B Z (bc U (xs.zip vs)) h'→aG G (fa G env own) B Z s B Z O {s with heap:=h',toks:=tk}→Q () {s with heap:=h',toks:=tk})→
  wpAny (model G.prog G.w) A (assignInOrder (xs.map fun x=>bindName env (G.nm x)) us) Q E s
 |[],[],U,s,us,Q,E,hk,hl,I,F,r,hQ=>wpAny_pure (hQ s.heap s.toks F (aG.refl I F.bL))
 |x::xs,v::vs,U,s,us,Q,E,hk,hl,I,F,r,hQ=>by
  refine aB.aN r ?_;intro u us rx ru;show wpAny _ _ (do holding us (bindName env (G.nm x) u);assignInOrder (xs.map fun x=>bindName env (G.nm x)) us) _ _ _
  have hx:=hk x (.head _);refine wpAny_bind (wpAny_holding (wpAny_bindName (gu hx.1 hx.2 I F rx fun h' tk F' P=>?_)));exact lX (fun y hy=>hk y (.tail _ hy)) (by simpa using hl) P.inv F' ru fun ky Yj GS P'=>hQ ky Yj GS (P.trans P')
 |[],_::_,_,_,_,_,_,_,hl,_,_,_,_=>by simp at hl
 |_::_,[],_,_,_,_,_,_,hl,_,_,_,_=>by simp at hl
theorem Hh{ts:List Expr}{k:Nat}{e:Expr}{Hi pos:Pos}{xs:List Nat}(hk:∀x∈xs,nR G env own x)(hs:swapsWithSole [.Tuple ts k Hi] e pos.line env=pure false)(hw:swappedStores [.Tuple ts k Hi] e env=pure (some (xs.map G.nm)))
  (h:bz G n env (eval e env) U O fun v aA=>∃vs,xJ G v aA vs∧vs.length=xs.length∧Q .next (bc U (xs.reverse.zip vs.reverse)) aA):cn G n env own (exec (.Assign [.Tuple ts k Hi] e pos) env) U O Q:=by
 intro A hA B Z s I F;refine Assign_Tuple_swapped (wpAny_mono (h A hA B Z s I F) ?_ fun zz zz x=>x) hs hw;rintro x s1 ⟨v,aA,B1,aE,⟨vs,hu,hl,q⟩,P1,r1⟩;rw[List.length_map,←hl];refine hu A hA.handled B1 aE s1 x _ _ P1.inv r1 fun h' items gL ri=>?_;have F1:=F.same P1;have P2:aG G (fa G env own) B1 aE s1 B1 aE aA {s1 with heap:=h'}:=P1.inv.kr (t:=s1.toks) gL F1.bL
 have F2:=F1.same (P1.inv.kr (t:=s1.toks) gL (fun zz m=>nomatch m));have e1:((xs.map G.nm).reverse.map fun n=>bindName env n)=xs.reverse.map fun x=>bindName env (G.nm x):=by simp
 rw[e1];refine lX (fun y hy=>hk y (by simpa using hy)) (by simp[hl]) P2.inv F2 ri.reverse fun ky tk F' P'=>?_
 exact⟨.next,_,aA,B1,aE,q,((P1.wide F).trans P2).trans P',F',.next⟩
end
end
open PySem PySem.Spec PySem.Calls PyProof.Rows PySem.W PySem.SeqAt
theorem resolve{B:ay}{Z:List Addr}{O:Mu}{h:Heap}{i:Nat}{xs:List V}{x:Value}(I:Inv G B Z O h)(hi:O[i]?=some (some xs))(r:VR B Z (.ml i) x):∃a vs n,x=.ref a∧h.get? a=some (lobj vs n)∧aB B [] xs vs∧Z[i]?=some a:=by
 cases r with
 |ml e=>refine eh (I.ml i _ xs e hi) ?_;intro zz vs n g r;exact⟨_,vs,n,rfl,g,r,e⟩
theorem held{B:ay}{Z:List Addr}{O:Mu}{h:Heap}{xs:List V}{x:Value}(I:Inv G B Z O h)(r:VR B Z (.list xs) x):∃a vs n,x=.ref a∧h.get? a=some (lobj vs n)∧aB B Z xs vs∧B a=some (lobj vs n):=by
 cases r with
 |list e l h9=>exact⟨_,_,_,rfl,I.holds _ _ e,⟨l,h9⟩,e⟩
theorem qj{B:ay}{Z:List Addr}{O:Mu}{h:Heap}{xs:List V}{x:Value}(I:Inv G B Z O h)(r:VR B Z (.tuple xs) x):∃a vs n,x=.ref a∧h.get? a=some (gY vs n)∧aB B Z xs vs∧B a=some (gY vs n):=by
 cases r with
 |tuple e l h9=>exact⟨_,_,_,rfl,I.holds _ _ e,⟨l,h9⟩,e⟩
theorem y7{A:Around}{s:Shared}{a b:Addr}{vs us:List Value}{k m:Nat}{Q:Value→Shared→Prop}{E:Value→Shared→Prop}(h1:s.heap.get? a=some (lobj vs k))(h2:s.heap.get? b=some (lobj us m))(bG:vs.length+us.length≤sizeLine)
  (h:Q (.ref s.heap.objs.size) {s with heap:=s.heap.push (lobj (vs++us) 0)}):wpAny (model G.prog G.w) A (binaryOp .Add (.ref a) (.ref b)) Q E s:=by
 refine P.add_list (items:=vs.toArray) (items2:=us.toArray) h1 h2 ?_ (by simpa using bG)
 rw[show vs.toArray++us.toArray=(vs++us).toArray by simp]
 exact h
noncomputable def times{τ:Type}(xs:List τ)(k:Int):List τ:=(List.replicate k.toNat xs).flatten
theorem tM(xs:List Value):∀ (n:Nat) (acc:Array Value),List.foldl (fun x1 x2=>x1++x2) acc (List.replicate n xs.toArray)=acc++((List.replicate n xs).flatten).toArray
 |0,acc=>by simp
 |n+1,acc=>by rw[List.replicate_succ,List.foldl_cons,tM xs n];simp[List.replicate_succ]
theorem y8{A:Around}{s:Shared}{a:Addr}{vs:List Value}{m:Nat}{k:Int}{t:Tok}{Q:Value→Shared→Prop}{E:Value→Shared→Prop}(h1:s.heap.get? a=some (lobj vs m))(hU : -(2 ^ 63:Int)≤k)(AG:k<2 ^ 63)(bG:vs.length*k.toNat≤2 ^ 24)
  (h:Q (.ref s.heap.objs.size) {s with heap:=s.heap.push (lobj (times vs k) 0)}):wpAny (model G.prog G.w) A (binaryOp .Mult (.ref a) (.int k t)) Q E s:=by
 have e:List.foldl (fun x1 x2=>x1++x2) #[] (List.replicate (if vs.toArray.isEmpty=true then 0 else k.toNat) vs.toArray)=(times vs k).toArray:=by
  unfold times;rw[tM];cases vs with
  |nil=>simp
  |cons x r=>simp
 refine wpAny_binaryOp_repeat_ref (T:="list") (U:="int") (by decide) ⟨_,h1,rfl⟩ (fun s'=>typeIs_int s' k t) noFill_list_mul F.fills_int_mul F.slot_int_rmul repeat_list F.slot_int_index.lookup
  (call_meets F.slot_int_rmul (typeIs_int s k t) F.entry_int_rmul (F.args_int_rmul_2 _ _) (int___rmul___int_list k t a vs.toArray m) ⟨h1,rfl,⟨_,h1,rfl⟩,call_meets F.slot_list_mul ⟨_,h1,rfl⟩ F.entry_list_mul (F.args_list_mul_2 _ _)
    (AutoListH.list___mul___list_int_3 a vs.toArray m k t (by simp[Builtin.List.listFitsIndex];exact ag 0 1 (aa (ai (cH (zk (2 ^ 63))) aq) (aa (aM aq (zk (2 ^ 63))) (aT (ai (zk (-9223372036854775808)) aq) (aM aq (zk 9223372036854775808))))) (by kd_p) hU AG) (by simp;exact ag 1 0 (aa (ae ab (nk (2 ^ 24))) (ae ab (nk 1152921504606846975))) (by kd_p) bG) (by simp[Builtin.List.listTooLong,sizeLine];omega)) ⟨h1,?_⟩⟩)
 rw[e];exact h
theorem aB.flat{B:ay}{Z:List Addr}{xs:List V}{vs:List Value}(h:aB B Z xs vs):∀n,aB B Z (List.replicate n xs).flatten (List.replicate n vs).flatten
 |0=>.nil
 |n+1=>by rw[List.replicate_succ,List.replicate_succ,List.flatten_cons,List.flatten_cons];exact h.append (h.flat n)
section
variable{n:Nat}{O:Mu}{Q:V→Mu→Prop}
theorem N0{B:ay}{Z:List Addr}{s:Shared}{xs:List V}{vs:List Value}(I:Inv G B Z O s.heap)(r:aB B Z xs vs)(q:Q (.list xs) O):PV G B Z s Q (.ref s.heap.objs.size) {s with heap:=s.heap.push (lobj vs 0)}:=by
 have P:=I.push (o:=lobj vs 0) (t:=s.toks) rfl;exact⟨_,_,_,_,q,P,.newList (ay.c9 ..) (r.mono P.le P.pre)⟩
theorem N1{B:ay}{Z:List Addr}{s:Shared}{xs:List V}{vs:List Value}(I:Inv G B Z O s.heap)(r:aB B [] xs vs)(q:Q (.ml O.length) (O++[some xs])):PV G B Z s Q (.ref s.heap.objs.size) {s with heap:=s.heap.push (lobj vs 0)}:=by
 have P:=I.GD (t:=s.toks) r;exact⟨_,_,_,_,q,P,.ml (by rw[←I.len];simp)⟩
theorem N2{B:ay}{Z:List Addr}{s:Shared}{xs:List V}{vs:List Value}(I:Inv G B Z O s.heap)(r:aB B Z xs vs)(q:Q (.tuple xs) O):PV G B Z s Q (.ref s.heap.objs.size) {s with heap:=s.heap.push (gY vs 0)}:=by
 have P:=I.push (o:=gY vs 0) (t:=s.toks) rfl;exact⟨_,_,_,_,q,P,.newTuple (ay.c9 ..) (r.mono P.le P.pre)⟩
theorem AH{xs ys:List V}(bG:xs.length+ys.length≤sizeLine)(q:Q (.list (xs++ys)) O):cB G n .Add (.list xs) (.list ys) O Q:=by
 intro A hA B Z s x y I hx hy;refine br (held I hx) ?_;intro a vs k z1;subst z1;intro h1 r1 zz;refine br (held I hy) ?_;intro b us m z1;subst z1;intro h2 r2 zz;exact y7 h1 h2 (by rw[←r1.1,←r2.1];exact bG) (N0 I (r1.append r2) q)
theorem Hj{i:Nat}{xs ys:List V}(hi:O[i]?=some (some xs))(hc:∀y∈ys,Cl y)(bG:xs.length+ys.length≤sizeLine)(q:Q (.ml O.length) (O++[some (xs++ys)])):cB G n .Add (.ml i) (.list ys) O Q:=by
 intro A hA B Z s x y I hx hy;refine br (resolve I hi hx) ?_;intro a vs k z1;subst z1;intro h1 r1 zz;refine br (held I hy) ?_;intro b us m z1;subst z1;intro h2 r2 zz;exact y7 h1 h2 (by rw[←r1.1,←r2.1];exact bG) (N1 I (r1.append (r2.clean hc [])) q)
theorem AI{xs:List V}{k:Int}(hU : -(2 ^ 63:Int)≤k)(AG:k<2 ^ 63)(bG:xs.length*k.toNat≤2 ^ 24)(q:Q (.list (times xs k)) O):cB G n .Mult (.list xs) (.int k) O Q:=by
 intro A hA B Z s x y I hx hy;refine VR.bC hy ?_;intro zz;refine br (held I hx) ?_;intro a vs m z1;subst z1;intro h1 r1 zz;exact y8 h1 hU AG (by rw[←r1.1];exact bG) (N0 I (r1.flat _) q)
theorem y9{xs:List V}{k:Int}(hc:∀y∈xs,Cl y)(hU : -(2 ^ 63:Int)≤k)(AG:k<2 ^ 63)(bG:xs.length*k.toNat≤2 ^ 24)(q:Q (.ml O.length) (O++[some (times xs k)])):cB G n .Mult (.list xs) (.int k) O Q:=by
 intro A hA B Z s x y I hx hy;refine VR.bC hy ?_;intro zz;refine br (held I hx) ?_;intro a vs m z1;subst z1;intro h1 r1 zz;exact y8 h1 hU AG (by rw[←r1.1];exact bG) (N1 I ((r1.clean hc []).flat _) q)
end
noncomputable def gv:List (Option Bool)→Option Bool
 |[]=>some true
 |some b::r=>(gv r).map (b && ·)
 |none::_=>none
noncomputable def dN:Nat→V→V→Option Bool
 |0,_,_=>none
 |k+1,v,u=>match v,u with
  |.int a,.int b=>some (a==b)
  |.str a,.str b=>some (a==b)
  |.list xs,.list ys=>if xs.length=ys.length then gv (List.zipWith (dN k) xs ys) else some false
  |.tuple xs,.tuple ys=>if xs.length=ys.length then gv (List.zipWith (dN k) xs ys) else none
  |_,_=>none
theorem hZ:∀ {l:List (Option Bool)} {b:Bool},gv l=some b→∃bs:List Bool,l=bs.map some∧b=bs.all id
 |[],b,h=>by cases h;exact⟨[],rfl,rfl⟩
 |some c::r,b,h=>by
  unfold gv at h;cases q:gv r with
  |none=>rw[q]at h;cases h
  |some d=>
   rw[q]at h;refine aW (hZ q) ?_;intro bs z1;subst z1;intro z2;subst z2;cases h;exact⟨c::bs,rfl,rfl⟩
 |none::r,b,h=>by cases h
theorem zip_get{k:Nat}{xs ys:List V}{bs:List Bool}(h:List.zipWith (dN k) xs ys=bs.map some){j:Nat}{x y:V}(hx:xs[j]?=some x)(hy:ys[j]?=some y):∃b,bs[j]?=some b∧dN k x y=some b:=by
 have:(List.zipWith (dN k) xs ys)[j]?=some (dN k x y):=by rw[List.getElem?_zipWith,hx,hy]
 rw[h,List.getElem?_map]at this;cases q:bs[j]? with
 |none=>rw[q]at this;cases this
 |some b=>rw[q]at this;exact⟨b,rfl,(Option.some.inj this).symm⟩
theorem all_range(bs:List Bool):(List.range bs.length).all (fun j=>bs[j]?.getD true)=bs.all id:=by
 rw[Bool.eq_iff_iff];simp only[List.all_eq_true,List.mem_range,id];constructor
 ·intro h b hb
  obtain⟨j,hj,rfl⟩:=List.mem_iff_getElem.mp hb;have:=h j hj
  rwa [List.getElem?_eq_getElem hj]at this
 ·intro h j hj
  rw[List.getElem?_eq_getElem hj];exact h _ (List.getElem_mem _)
theorem pq{k:Nat}{xs ys:List V}{bs:List Bool}(h:List.zipWith (dN k) xs ys=bs.map some)(e:xs.length=ys.length):bs.length=xs.length:=by
 have:=congrArg List.length h;simp at this;exact ag 3 0 (aa (ax af ab) (aa (ax (jP af ab) au) (ax au af))) (by kd_p) e this
theorem CN{k:Nat}{xs ys:List V}{bs:List Bool}(hb:List.zipWith (dN k) xs ys=bs.map some)(e:xs.length=ys.length)(f:∀ (j:Nat) (x y:V) (b:Bool),xs[j]?=some x→ys[j]?=some y→dN k x y=some b→b=true):bs.all id=true:=by
 rw[List.all_eq_true];intro c hc;obtain⟨j,hj,rfl⟩:=List.mem_iff_getElem.mp hc;have hl:=pq hb e;have hx:xs[j]?=some xs[j]:=List.getElem?_eq_getElem (by exact ag 4 0 (aa (ax au af) (aa (ak aO ab) (aa (ax ab au) (ak aO au)))) (by kd_p) e hj hl)
 have hy:ys[j]?=some ys[j]:=List.getElem?_eq_getElem (by exact ag 4 0 (aa (ax af au) (aa (ak aO ab) (aa (ax ab af) (ak aO au)))) (by kd_p) e hj hl)
 refine aW (zip_get hb hx hy) ?_;intro b h3 h4;rw[List.getElem?_eq_getElem hj]at h3;cases Option.some.inj h3;exact f j _ _ _ hx hy h4
theorem nj:∀ (k:Nat) {v u:V} {B:ay} {Z:List Addr} {x:Value} {b:Bool},dN k v u=some b→VR B Z v x→VR B Z u x→b=true
 |0,v,u,B,Z,x,b,h,_,_=>by cases h
 |k+1,v,u,B,Z,x,b,h,h1,h2=>by
  unfold dN at h;split at h
  ·cases Option.some.inj h;cases h1;cases h2;simp
  ·cases Option.some.inj h;cases h1;cases h2;simp
  ·cases h1 with
   |list e l h9=>
    cases h2 with
    |list e' l' PY=>
     rw[e]at e';have:=congrArg (fun o:Option Obj=>o.map (·.data)) e'
     simp at this;obtain⟨rfl,_⟩:=this;rw[if_pos (l.trans l'.symm)]at h;refine aW (hZ h) ?_;intro bs hb z1;subst z1;refine CN hb (l.trans l'.symm) fun j x y b hx hy r7=>?_;refine aW (aB.get (B:=B) (Z:=Z) ⟨l,h9⟩ hx) ?_;intro v hv r;exact nj k r7 r (PY j _ _ hy hv)
  ·cases h1 with
   |tuple e l h9=>
    cases h2 with
    |tuple e' l' PY=>
     rw[e]at e';have:=congrArg (fun o:Option Obj=>o.map (·.data)) e'
     simp at this;obtain⟨rfl,_⟩:=this;rw[if_pos (l.trans l'.symm)]at h;refine aW (hZ h) ?_;intro bs hb z1;subst z1;refine CN hb (l.trans l'.symm) fun j x y b hx hy r7=>?_;refine aW (aB.get (B:=B) (Z:=Z) ⟨l,h9⟩ hx) ?_;intro v hv r;exact nj k r7 r (PY j _ _ hy hv)
  ·exact bk h
theorem PZ(a b:Str):(a==b)=(a.cps.toList==b.cps.toList):=by
 rw[Bool.eq_iff_iff];obtain⟨a⟩:=a;obtain⟨b⟩:=b;simp
theorem pv:∀ (k:Nat) {v u:V} {B:ay} {Z:List Addr} {O:Mu} {s:Shared} {x y:Value} {b:Bool} {A:Around},dN k v u=some b→A.units+k<cLine→Inv G B Z O s.heap→VR B Z v x→VR B Z u y→
  EqAt A s x y b∧((∀a,x=.ref a→RcAt A s x y b))
 |0,v,u,B,Z,O,s,x,y,b,A,h,_,_,_,_=>by cases h
 |k+1,v,u,B,Z,O,s,x,y,b,A,h,hu,I,h1,h2=>by
  have KS:A.in1.units+k<cLine:=by show A.units+1+k<cLine;exact ag 3 0 (aa (ak (aj au (aj af aC)) ab) (ak (aj (aj au aC) af) ab)) (by kd_p) hu
  have l9:A.units<cLine:=by exact ag 3 0 (aa (ak (aj au (aj ab aC)) af) (ak au af)) (by kd_p) hu
  unfold dN at h;split at h
  ·cases Option.some.inj h;refine VR.bC h1 ?_;intro _;refine VR.bC h2 ?_;intro _;exact⟨(PySem.MeetsSeq.EqGives.int _ _ _ _).at A s,(fun _ e=>by cases e)⟩
  ·cases Option.some.inj h;refine VR.fQ h1 ?_;intro _;refine VR.fQ h2 ?_;intro _;rw[PZ];exact⟨PySem.MeetsSeq.EqGives.at (PySem.SeqRoads2.EqGives.str _ _ _ _) A s,(fun _ e=>by cases e)⟩
  ·rename_i xs ys
   refine br (held I h1) ?_;intro a vs m z1;subst z1;intro g1 r1 e1;refine br (held I h2) ?_;intro a' us m' z1;subst z1;intro g2 r2 e2;have qe:s.heap.IsList a vs.toArray:=⟨_,g1,rfl,m,rfl⟩;have AJ:s.heap.IsList a' us.toArray:=⟨_,g2,rfl,m',rfl⟩;have rc:RcAt A s (.ref a) (.ref a') b:=by
    by_cases q:xs.length=ys.length
    ·rw[if_pos q]at h
     refine aW (hZ h) ?_;intro bs hb z1;subst z1;have hl:=pq hb q;have sz:vs.toArray.size=us.toArray.size:=by simp[←r1.1,←r2.1,q]
     have:=RcAt.lists (A:=A) (e:=fun j=>bs[j]?.getD true) qe AJ sz l9 (fun j p1 p2=>by
      simp at p1 p2;have q1:j<xs.length:=by rw[r1.1];exact p1
      have q2:j<ys.length:=by rw[r2.1];exact p2
      refine aW (zip_get hb (List.getElem?_eq_getElem q1) (List.getElem?_eq_getElem q2)) ?_;intro b Hk he;simp only[Hk,Option.getD_some];exact(pv k he KS I (r1.2 j _ _ (List.getElem?_eq_getElem q1) (by simp)) (r2.2 j _ _ (List.getElem?_eq_getElem q2) (by simp))).1)
     rw[show vs.toArray.size=bs.length by simp[←r1.1,hl],all_range]at this
     exact this
    ·rw[if_neg q]at h;cases Option.some.inj h
     exact RcAt.lists_lengths qe AJ (by simp[←r1.1,←r2.1,q]) l9
   refine⟨?_,fun _ _=>rc⟩
   by_cases q:a=a'
   ·subst q
    have:=nj (k+1) (v:=.list xs) (u:=.list ys) (b:=b) (by unfold dN;exact h) h1 h2
    subst this;exact EqAt.same _
   ·exact EqAt.of_refs q rc
  ·rename_i xs ys
   refine br (qj I h1) ?_;intro a vs m z1;subst z1;intro g1 r1 e1;refine br (qj I h2) ?_;intro a' us m' z1;subst z1;intro g2 r2 e2;have qe:s.heap.IsTuple a vs.toArray:=⟨_,g1,rfl,m,rfl⟩;have AJ:s.heap.IsTuple a' us.toArray:=⟨_,g2,rfl,m',rfl⟩
   by_cases q:xs.length=ys.length
   ·have h':=h
    rw[if_pos q]at h;refine aW (hZ h) ?_;intro bs hb z1;subst z1;have hl:=pq hb q;have sz:vs.toArray.size=us.toArray.size:=by simp[←r1.1,←r2.1,q]
    have rc:RcAt A s (.ref a) (.ref a') (bs.all id):=by
     have:=RcAt.tuples (A:=A) (e:=fun j=>bs[j]?.getD true) qe AJ l9 (fun j p1 p2=>by
      simp at p1 p2;have q1:j<xs.length:=by rw[r1.1];exact p1
      have q2:j<ys.length:=by rw[r2.1];exact p2
      refine aW (zip_get hb (List.getElem?_eq_getElem q1) (List.getElem?_eq_getElem q2)) ?_;intro b Hk he;simp only[Hk,Option.getD_some];exact(pv k he KS I (r1.2 j _ _ (List.getElem?_eq_getElem q1) (by simp)) (r2.2 j _ _ (List.getElem?_eq_getElem q2) (by simp))).1)
     rw[←sz,Nat.min_self,show vs.toArray.size=bs.length by simp[←r1.1,hl],all_range]at this
     simpa using this
    refine⟨?_,fun _ _=>rc⟩
    by_cases z:a=a'
    ·subst z
     have:=nj (k+1) (v:=.tuple xs) (u:=.tuple ys) (b:=bs.all id) (by unfold dN;exact h') h1 h2
     rw[this];exact EqAt.same _
    ·exact EqAt.of_refs z rc
   ·rw[if_neg q]at h;exact bk h
  ·exact bk h
section
variable{n:Nat}{O:Mu}{Q:V→Mu→Prop}
theorem Qa{v u:V}{b:Bool}(h:dN 50 v u=some b)(hl:∃xs,v=.list xs∨v=.tuple xs)(q:Q (.bool b) O):bW G n .Eq v u O Q:=by
 intro A hA B Z s x y I hx hy;have hu:A.units+50<cLine:=by have:=hA.units;unfold cLine;exact ag 2 0 (aa (ae (aj af (cY 16 ab)) c7) (ak (aj af (nk 50)) (nk 9900))) (by kd_p) this
 have:∃a,x=.ref a:=by
  obtain⟨xs,rfl|rfl⟩:=hl
  ·refine VR.eList hx ?_;intro zz zz zz zz zz zz;exact⟨_,rfl⟩
  ·refine VR.NU hx ?_;intro zz zz zz zz zz zz;exact⟨_,rfl⟩
 obtain⟨a,rfl⟩:=this;exact(pv 50 h hu I hx hy).2 a rfl _ _ _ _ (PV.bQ I .bool q)
end
section
variable(G:dk)(n:Nat)
def CP(op:UnaryOp)(v:V)(O:Mu)(Q:V→Mu→Prop):Prop:=∀A,bY n A→∀B Z s x,Inv G B Z O s.heap→VR B Z v x→wpAny (model G.prog G.w) A (unaryOp op x) (PV G B Z s Q) bM s
def sP(name:Str)(v:V)(O:Mu)(Q:V→Mu→Prop):Prop:=∀A,bY n A→∀B Z s x,Inv G B Z O s.heap→VR B Z v x→wpAny (model G.prog G.w) A (getAttr x name true) (PV G B Z s Q) bM s
def AK(op:Operator)(v u:V)(O:Mu)(Q:V→Mu→Prop):Prop:=∀A,bY n A→∀B Z s x y,Inv G B Z O s.heap→VR B Z v x→VR B Z u y→wpAny (model G.prog G.w) A (inplaceOp op x y) (PV G B Z s Q) bM s
structure gZ(a b:Int):Prop where ok:IntMulOk a b
structure N3(b:Int):Prop where
 ne:b≠0
 small:b.natAbs.log2<9000
structure pz(a b:Int):Prop where
 nonneg:0≤b
 small:(Builtin.Int.intBits a:Int)*b≤2 ^ 27
structure v8(a b:Int):Prop where
 nonneg:0≤b
 small:(Builtin.Int.intBits a:Int)+b≤2 ^ 27
structure lY(a b:Str):Prop where ok:a.length+b.length≤sizeLine
structure tN(a:Str)(k:Int):Prop where ok:MulOk a k
structure Ue(m k:Nat):Prop where ok:m+k≤sizeLine
structure Ug(m:Nat)(k:Int):Prop where
 lo : -(2 ^ 63:Int)≤k
 hi:k<2 ^ 63
 ok:m*k.toNat≤2 ^ 24
structure cp(m:Nat):Prop where ok:m<2 ^ 62
structure gM(m:Nat):Prop where ok:m≤sizeLine
end
noncomputable def Hl:V→Option (List V)
 |.list xs=>some xs
 |.tuple xs=>some xs
 |_=>none
section
variable{G:dk}{n:Nat}{O:Mu}{Q:V→Mu→Prop}
theorem xN{v:V}{xs:List V}(h:Hl v=some xs):xJ G v O xs:=by
 unfold Hl at h;split at h
 ·cases Option.some.inj h;exact xJ.list
 ·cases Option.some.inj h;exact xJ.tuple
 ·exact bk h
theorem Hm{a b:Int}{t:Tok}(q:Q (.bool (decide (a≤b))) O):bW G n .LtE (.int a) (.raw (.int b t)) O Q:=by
 intro A hA B Z s x y I hx hy;refine VR.jY hy ?_;exact NW q A hA B Z s x _ I hx .int
theorem Hn{x:Value}(hx:x≠.none)(q:Q (.bool false) O):bW G n .Is (.raw x) .none O Q:=by
 intro A hA B Z s x y I KU hy;refine VR.jY KU ?_;refine VR.xu hy ?_;exact is_none_ne hx (PV.bQ I .bool q)
theorem Qb{xs ys:List V}{b:Bool}(h:dN 50 (.list xs) (.list ys)=some b)(q:Q (.bool (!b)) O):bW G n .NotEq (.list xs) (.list ys) O Q:=by
 intro A hA B Z s x y I hx hy;have l9:A.units<cLine:=hA.CG;have KS:A.in1.units+49<cLine:=by have:=hA.units;show A.units+1+49<cLine;unfold cLine;exact ag 2 0 (aa (ae (aj af (cY 16 ab)) c7) (ak (aj (aj af aC) (nk 49)) (nk 9900))) (by kd_p) this
 refine br (held I hx) ?_;intro a vs m z1;subst z1;intro g1 r1 e1;refine br (held I hy) ?_;intro a' us m' z1;subst z1;intro g2 r2 e2;have qe:s.heap.IsList a vs.toArray:=⟨_,g1,rfl,m,rfl⟩;have AJ:s.heap.IsList a' us.toArray:=⟨_,g2,rfl,m',rfl⟩;unfold dN at h;simp only[]at h
 by_cases z:xs.length=ys.length
 ·rw[if_pos z]at h
  refine aW (hZ h) ?_;intro bs hb z1;subst z1;have hl:=pq hb z;have sz:vs.toArray.size=us.toArray.size:=by simp[←r1.1,←r2.1,z]
  have:=PySem.SeqAt.RcNeAt.lists (A:=A) (e:=fun j=>bs[j]?.getD true) qe AJ sz l9 (fun j p1 p2=>by
   simp at p1 p2;have q1:j<xs.length:=by rw[r1.1];exact p1
   have q2:j<ys.length:=by rw[r2.1];exact p2
   refine aW (zip_get hb (List.getElem?_eq_getElem q1) (List.getElem?_eq_getElem q2)) ?_;intro b Hk he;simp only[Hk,Option.getD_some];exact(pv 49 he KS I (r1.2 j _ _ (List.getElem?_eq_getElem q1) (by simp)) (r2.2 j _ _ (List.getElem?_eq_getElem q2) (by simp))).1)
  rw[show vs.toArray.size=bs.length by simp[←r1.1,hl],all_range]at this
  exact this _ _ _ _ (PV.bQ I .bool q)
 ·rw[if_neg z]at h;cases Option.some.inj h
  exact PySem.SeqAt.RcNeAt.lists_lengths qe AJ (by simp[←r1.1,←r2.1,z]) l9 _ _ _ _ (PV.bQ I .bool q)
theorem AL{a b:Int}(q:Q (.int (a+b)) O):cB G n .Add (.int a) (.int b) O Q:=Pj q
theorem Qc{a b:Int}(q:Q (.int (a-b)) O):cB G n .Sub (.int a) (.int b) O Q:=Pk q
theorem gg{a b:Int}(h:gZ a b)(q:Q (.int (a*b)) O):cB G n .Mult (.int a) (.int b) O Q:=Pl h.ok q
theorem dO{a b:Int}(h:N3 b)(q:Q (.int (a.fdiv b)) O):cB G n .FloorDiv (.int a) (.int b) O Q:=Kq h.ne h.small q
theorem dB{a b:Int}(h:b≠0)(q:Q (.int (a.fmod b)) O):cB G n .Mod (.int a) (.int b) O Q:=Pm h q
theorem qk{a b:Int}(h:pz a b)(q:Q (.int (a ^ b.toNat)) O):cB G n .Pow (.int a) (.int b) O Q:=Pn h.nonneg h.small q
theorem AM{a b:Int}(h:v8 a b)(q:Q (.int (a*2 ^ b.toNat)) O):cB G n .LShift (.int a) (.int b) O Q:=Pp h.nonneg h.small q
theorem AO{a b:Int}(h:0≤b)(q:Q (.int (a.fdiv (2 ^ b.toNat))) O):cB G n .RShift (.int a) (.int b) O Q:=Pq h q
theorem Ho{a b:Int}(q:Q (.int (Builtin.bitXor a b)) O):cB G n .BitXor (.int a) (.int b) O Q:=Pr q
theorem ja{a b:Str}(h:lY a b)(q:Q (.str (a++b)) O):cB G n .Add (.str a) (.str b) O Q:=DR h.ok q
theorem sQ{a:Str}{k:Int}(h:tN a k)(q:Q (.str (Txt.mul a k)) O):cB G n .Mult (.str a) (.int k) O Q:=DS h.ok q
theorem sS{a b:List V}(h:Ue a.length b.length)(q:Q (.list (a++b)) O):cB G n .Add (.list a) (.list b) O Q:=AH h.ok q
theorem lq{a:List V}{k:Int}(h:Ug a.length k)(q:Q (.list (times a k)) O):cB G n .Mult (.list a) (.int k) O Q:=AI h.lo h.hi h.ok q
theorem V_lt{a b:Int}(q:Q (.bool (decide (a<b))) O):bW G n .Lt (.int a) (.int b) O Q:=TO q
theorem Uh{a b:Int}(q:Q (.bool (decide (a≤b))) O):bW G n .LtE (.int a) (.int b) O Q:=NW q
theorem Qd{a b:Int}{t:Tok}(q:Q (.bool (decide (a≤b))) O):bW G n .LtE (.int a) (.raw (.int b t)) O Q:=Hm q
theorem Ui{a b:Int}(q:Q (.bool (decide (b<a))) O):bW G n .Gt (.int a) (.int b) O Q:=TP q
theorem Uj{a b:Int}(q:Q (.bool (decide (b≤a))) O):bW G n .GtE (.int a) (.int b) O Q:=TQ q
theorem Uk{a b:Int}(q:Q (.bool (a==b)) O):bW G n .Eq (.int a) (.int b) O Q:=TR q
theorem Ul{a b:Int}(q:Q (.bool (a !=b)) O):bW G n .NotEq (.int a) (.int b) O Q:=TS q
theorem Hp{a b:Str}(q:Q (.bool (a==b)) O):bW G n .Eq (.str a) (.str b) O Q:=Pt q
theorem Qe{a b:Str}(q:Q (.bool (a !=b)) O):bW G n .NotEq (.str a) (.str b) O Q:=Pu q
theorem D3{a b:Bool}(q:Q (.bool (a !=b)) O):bW G n .IsNot (.bool a) (.bool b) O Q:=DU q
theorem Qg(q:Q (.bool true) O):bW G n .Is .none .none O Q:=Pw q
theorem Qh{a:Int}(q:Q (.bool false) O):bW G n .Is (.int a) .none O Q:=Kr (by intro e;cases e) (by intro zz e;cases e) q
theorem tO{x:Value}(hx:x≠.none)(q:Q (.bool false) O):bW G n .Is (.raw x) .none O Q:=Hn hx q
theorem AP{xs ys:List V}{b:Bool}(h:dN 50 (.list xs) (.list ys)=some b)(q:Q (.bool b) O):bW G n .Eq (.list xs) (.list ys) O Q:=Qa h ⟨_,.inl rfl⟩ q
theorem Hq{xs ys:List V}{b:Bool}(h:dN 50 (.list xs) (.list ys)=some b)(q:Q (.bool (!b)) O):bW G n .NotEq (.list xs) (.list ys) O Q:=Qb h q
theorem iB{b:Bool}{Q:Bool→Mu→Prop}(q:Q b O):iP G n (.bool b) O Q:=Ks q
theorem KV{a:Int}{Q:Bool→Mu→Prop}(q:Q (a !=0) O):iP G n (.int a) O Q:=Py q
theorem KW{xs:List V}{Q:Bool→Mu→Prop}(h:cp xs.length)(q:Q (!xs.isEmpty) O):iP G n (.list xs) O Q:=Kt h.ok q
theorem Hr{a:Int}(q:Q (.int (-a)) O):CP G n .USub (.int a) O Q:=Pz q
theorem Qi{a:Int}(q:Q (.int (Builtin.bitNot a)) O):CP G n .Invert (.int a) O Q:=PC q
theorem V_at{xs:List V}{i:Int}{v:V}(hv:xs[cE i xs.length]?=some v)(h0 : -(xs.length:Int)≤i)(hl:cp xs.length)(q:Q v O):gf G n (.list xs) (.int i) O Q:=D2 h0 hl.ok hv q
theorem jw{xs:List V}{i:Int}{v:V}(hv:xs[i.toNat]?=some v)(h0:0≤i)(hl:cp xs.length)(q:Q v O):gf G n (.tuple xs) (.int i) O Q:=AE h0 hl.ok hv q
theorem xO{xs:List V}{j:Nat}{i:Int}{v:V}(hj:(O[j]?:Option (Option (List V)))=some (some xs))(hv:xs[cE i xs.length]?=some v)(h0 : -(xs.length:Int)≤i)(hl:cp xs.length)(q:Q v O):gf G n (.ml j) (.int i) O Q:=KO hj h0 hl.ok hv q
theorem tP{xs:List V}{lo hi st:Option Int}(h0:st≠some 0)(hl:gM xs.length)(q:Q (.list (pick xs lo hi st)) O):ju G n (.list xs) lo hi st O Q:=Hc h0 hl.ok q
theorem Hs{x:Str}{lo hi:Option Int}(hl:gM (fM x lo hi).length)(q:Q (.str (fM x lo hi)) O):ju G n (.str x) lo hi none O Q:=KQ hl.ok q
theorem D4{a b:Int}(q:Q (.int (a+b)) O):AK G n .Add (.int a) (.int b) O Q:=by
 intro A hA B Z s x y I hx hy;refine VR.bC hx ?_;intro zz;refine VR.bC hy ?_;intro zz;exact AutoIntOps.iadd_0 (PV.here I .int q)
theorem D5{a b:Int}(q:Q (.int (a-b)) O):AK G n .Sub (.int a) (.int b) O Q:=by
 intro A hA B Z s x y I hx hy;refine VR.bC hx ?_;intro zz;refine VR.bC hy ?_;intro zz;exact AutoIntOps.isub_0 (PV.here I .int q)
theorem xP{xs:List V}{j:Nat}{i:Int}{u:V}{Q:Mu→Prop}(hj:(O[j]?:Option (Option (List V)))=some (some xs))(h0:0≤i)(h1:i<xs.length)(hl:cp xs.length)(hc:Cl u)(q:Q (O.set j (some (xs.set i.toNat u)))):xK G n (.ml j) (.int i) u O Q:=KR hj h0 h1 hl.ok hc q
end
mutual
inductive E where
 |var (x:Nat)|glob (x:Nat)
 |int (i:Int)|str (s:Str)|bool (b:Bool)|vt|no
 |bin (op:Operator) (l r:E)|cmp (op:CmpOp) (l r:E)|neg (e:E)|inv (e:E)
 |v9 (l r:E)|za (t:T) (c d:E)
 |list (m:Bool) (es:Es)|tup (es:Es)
 |call (f:E) (args:Es)|mx (f:E) (args:Es) (name:Str) (k:E)
 |cA (o:E) (name:Str) (args:Es)|attr (o:E) (name:Str)
 |sub (o i:E)|slice (o lo hi st:E)
 |ey (m:Bool) (elt:E) (x:Nat) (iter:E) (cond:Ts) (fr own:List Nat)
 |tQ (m:Bool) (elt:E) (x:Nat) (iter:E) (cond:Ts) (y:Nat) (xQ:E) (ez:Ts) (fr own:List Nat)
inductive Es where
 |nil|cons (e:E) (r:Es)
inductive T where
 |val (e:E)|cmp (op:CmpOp) (l r:E)|not (t:T)|and (ts:Ts)|or (ts:Ts)
inductive Ts where
 |nil|cons (t:T) (r:Ts)
end
inductive Tg where
 |name (x:Nat)|sub (o i:E)|g9 (a b:Tg)|CQ (a b c:Tg)
mutual
inductive S where
 |expr (e:E)|asg (t:Tg) (e:E)|N4 (t u:Tg) (e:E)|CR (t u v:Tg) (e:E)|kz (xs:List Nat) (e:E)|aug (x:Nat) (op:Operator) (e:E)
 |iff (t:T) (b e:Ss)|rb (t:T) (b:Ss)|for (x:Nat) (it:E) (b:Ss)|ret (e:E)|Ht|pass|brk|bad
inductive Ss where
 |nil|cons (s:S) (r:Ss)|sa (x:Nat) (r:Ss)
end
section
variable(G:dk)(nm:Nat→Str)(gl:Nat→Option Value)(n:Nat)
def jx(name:Str)(v:V)(O:Mu)(f:Value):Prop:=
 (∀h,(∀a o,G.Bs a=some o→h.get? a=some o)→fU G f h) ∧
  ∀A B Z s x pl (Q:Value×List Value→Shared→Prop) (E:Value→Shared→Prop),Inv G B Z O s.heap→VR B Z v x→Q (f,[x]) s→wpAny (model G.prog G.w) A (getMethod x name pl) Q E s
noncomputable def pA:V→Option (Option Int)
 |.none=>some none
 |.int i=>some (some i)
 |_=>none
end
noncomputable def isEqSome{τ:Type} [BEq τ] (o:Option τ) (a:τ):Bool:=match o with
 |some b=>b==a
 |none=>false
section
variable(nm:Nat→Str)
noncomputable def D6(sc:Scope)(x:Nat)(k:NameKind):Bool:=sc.names.lookup (nm x)==some k
noncomputable def jT(sc:Scope)(own:List Nat)(x:Nat):Bool:=own.contains x&&(D6 nm sc x .local||D6 nm sc x .cell)
noncomputable def nr:List Str→Bool
 |[]=>true
 |a::r=>!(r.any (· == a))&&nr r
noncomputable def xR(sc outer:Scope)(y4 v7:List Nat):Bool:=
 sc.kind == .function&&outer.kind == .function&&nr (sc.names.map (·.1)) &&
 y4.all (fun x=>sc.names.lookup (nm x)==some .free&&outer.names.lookup (nm x)==some .cell) &&
 sc.names.all (fun p=>p.2 != .free||y4.any fun x=>nm x==p.1) &&
 v7.all fun x=>D6 nm sc x .local||D6 nm sc x .cell
end
noncomputable def pt:Expr→List Expr×Nat×List Comprehension×Scope×Keyword
 |.BoolOp _ vs _=>(vs,0,[],default,default)
 |.BinOp l _ r _=>([l,r],0,[],default,default)
 |.UnaryOp _ a _=>([a],0,[],default,default)
 |.IfExp t a b _=>([t,a,b],0,[],default,default)
 |.ListComp e g s _=>([e],0,g,s,default)
 |.Compare l _ r _=>(l::r,0,[],default,default)
 |.Call f as k _=>(f::as,0,[],default,k.headD default)
 |.Constant _ k _=>([],k,[],default,default)
 |.Attribute v _ _=>([v],0,[],default,default)
 |.Subscript a b _=>([a,b],0,[],default,default)
 |.List es _=>(es,0,[],default,default)
 |.Tuple es k _=>(es,k,[],default,default)
 |.Slice l u s _=>([l.getD default,u.getD default,s.getD default],0,[],default,default)
 |_=>([],0,[],default,default)
noncomputable def ks(x:Expr):List Expr:=(pt x).1
noncomputable def bj(i:Nat)(x:Expr):Expr:=(pt x).1.getD i default
noncomputable def gen(i:Nat)(x:Expr):Comprehension:=(pt x).2.2.1.getD i default
noncomputable def D7(l:List Expr):Expr:=l.headD default
noncomputable def E.kd(e:E):Nat:=E.casesOn (motive_1:=fun zz=>Nat) e
 (fun zz=>0) (fun zz=>0) (fun zz=>0) (fun zz=>0) (fun zz=>0) 0 1 (fun zz zz zz=>0) (fun zz zz zz=>4) (fun zz=>0) (fun zz=>0) (fun zz zz=>4) (fun zz zz zz=>4) (fun zz zz=>0) (fun zz=>0)
 (fun zz zz=>2) (fun zz zz zz zz=>2) (fun zz zz zz=>2) (fun zz zz=>0) (fun zz zz=>0) (fun zz zz zz zz=>0) (fun zz zz zz zz zz zz zz=>3) (fun zz zz zz zz zz zz zz zz zz zz=>3)
noncomputable def E.zb(e:E):Bool:=e.kd==1
section
variable(nm:Nat→Str)
mutual
noncomputable def bH:E→Expr→Expr
 |.var x,y=>.Name (nm x) y.pos
 |.glob x,y=>.Name (nm x) y.pos
 |.int i,y=>.Constant (.int i) (pt y).2.1 y.pos
 |.str a,y=>.Constant (.str a) (pt y).2.1 y.pos
 |.bool b,y=>.Constant (.bool b) (pt y).2.1 y.pos
 |.vt,y=>.Constant .none (pt y).2.1 y.pos
 |.no,y=>.Constant .none (pt y).2.1 y.pos
 |.bin op l r,y=>.BinOp (bH l (bj 0 y)) op (bH r (bj 1 y)) y.pos
 |.cmp op l r,y=>.Compare (bH l (bj 0 y)) [op] [bH r (bj 1 y)] y.pos
 |.neg e,y=>.UnaryOp .USub (bH e (bj 0 y)) y.pos
 |.inv e,y=>.UnaryOp .Invert (bH e (bj 0 y)) y.pos
 |.v9 l r,y=>.BoolOp .And [bH l (bj 0 y),bH r (bj 1 y)] y.pos
 |.za t c d,y=>.IfExp (my t (bj 0 y)) (bH c (bj 1 y)) (bH d (bj 2 y)) y.pos
 |.list _ es,y=>.List (jy es (ks y)) y.pos
 |.tup es,y=>.Tuple (jy es (ks y)) (pt y).2.1 y.pos
 |.call f as,y=>.Call (bH f (bj 0 y)) (jy as (ks y).tail) [] y.pos
 |.mx f as name k,y=>.Call (bH f (bj 0 y)) (jy as (ks y).tail) [⟨some name,bH k (pt y).2.2.2.2.value,(pt y).2.2.2.2.pos⟩] y.pos
 |.cA o name as,y=>.Call (.Attribute (bH o (bj 0 (bj 0 y))) name (bj 0 y).pos) (jy as (ks y).tail) [] y.pos
 |.attr o name,y=>.Attribute (bH o (bj 0 y)) name y.pos
 |.sub o i,y=>.Subscript (bH o (bj 0 y)) (bH i (bj 1 y)) y.pos
 |.slice o lo hi st,y=>.Subscript (bH o (bj 0 y)) (.Slice (bif lo.zb then none else some (bH lo (bj 0 (bj 1 y)))) (bif hi.zb then none else some (bH hi (bj 1 (bj 1 y)))) (bif st.zb then none else some (bH st (bj 2 (bj 1 y)))) (bj 1 y).pos) y.pos
 |.ey _ elt x iter cond _ _,y=>.ListComp (bH elt (bj 0 y)) [⟨.Name (nm x) (gen 0 y).target.pos,bH iter (gen 0 y).iter,j5 cond (gen 0 y).ifs,0⟩] (pt y).2.2.2.1 y.pos
 |.tQ _ elt x iter cond x2 xQ ez _ _,y=>.ListComp (bH elt (bj 0 y)) [⟨.Name (nm x) (gen 0 y).target.pos,bH iter (gen 0 y).iter,j5 cond (gen 0 y).ifs,0⟩,⟨.Name (nm x2) (gen 1 y).target.pos,bH xQ (gen 1 y).iter,j5 ez (gen 1 y).ifs,0⟩] (pt y).2.2.2.1 y.pos
noncomputable def jy:Es→List Expr→List Expr
 |.nil,_=>[]
 |.cons e r,l=>bH e (D7 l)::jy r l.tail
noncomputable def my:T→Expr→Expr
 |.val e,y=>bH e y
 |.cmp op l r,y=>.Compare (bH l (bj 0 y)) [op] [bH r (bj 1 y)] y.pos
 |.not t,y=>.UnaryOp .Not (my t (bj 0 y)) y.pos
 |.and ts,y=>.BoolOp .And (j5 ts (ks y)) y.pos
 |.or ts,y=>.BoolOp .Or (j5 ts (ks y)) y.pos
noncomputable def j5:Ts→List Expr→List Expr
 |.nil,_=>[]
 |.cons t r,l=>my t (D7 l)::j5 r l.tail
end
mutual
noncomputable def bP:E→Scope→Expr→Bool
 |.glob x,sc,_=>D6 nm sc x .globalImplicit
 |.bin _ l r,sc,y=>bP l sc (bj 0 y)&&bP r sc (bj 1 y)
 |.cmp op l r,sc,y=>bP l sc (bj 0 y)&&bP r sc (bj 1 y) && !behindInMarks op (bH nm r (bj 1 y))
 |.neg e,sc,y=>bP e sc (bj 0 y)
 |.inv e,sc,y=>bP e sc (bj 0 y)
 |.v9 l r,sc,y=>bP l sc (bj 0 y)&&bP r sc (bj 1 y)
 |.za t c d,sc,y=>mA t sc (bj 0 y)&&bP c sc (bj 1 y)&&bP d sc (bj 2 y)
 |.list _ es,sc,y=>iS es sc (ks y)
 |.tup es,sc,y=>iS es sc (ks y)
 |.call f as,sc,y=>bP f sc (bj 0 y)&&iS as sc (ks y).tail
 |.mx f as _ k,sc,y=>bP f sc (bj 0 y)&&iS as sc (ks y).tail&&bP k sc (pt y).2.2.2.2.value
 |.cA o _ as,sc,y=>!(o.kd==2)&&((bj 0 y).pos.endLine==y.pos.line)&&decide ((jy nm as (ks y).tail).length<20)&&bP o sc (bj 0 (bj 0 y))&&iS as sc (ks y).tail
 |.attr o _,sc,y=>!(o.kd==2)&&bP o sc (bj 0 y)
 |.sub o i,sc,y=>bP o sc (bj 0 y)&&bP i sc (bj 1 y)
 |.slice o lo hi st,sc,y=>bP o sc (bj 0 y)&&bP lo sc (bj 0 (bj 1 y))&&bP hi sc (bj 1 (bj 1 y))&&bP st sc (bj 2 (bj 1 y))
 |.ey _ elt x iter cond fr own,sc,y=>xR nm (pt y).2.2.2.1 sc fr own&&jT nm (jr (pt y).2.2.2.1 sc) own x&&bP iter sc (gen 0 y).iter&&bP elt (jr (pt y).2.2.2.1 sc) (bj 0 y)&&jz cond (jr (pt y).2.2.2.1 sc) (gen 0 y).ifs
 |.tQ _ elt x iter cond x2 xQ ez fr own,sc,y=>xR nm (pt y).2.2.2.1 sc fr own&&jT nm (jr (pt y).2.2.2.1 sc) own x&&jT nm (jr (pt y).2.2.2.1 sc) own x2&&bP iter sc (gen 0 y).iter&&bP xQ (jr (pt y).2.2.2.1 sc) (gen 1 y).iter&&bP elt (jr (pt y).2.2.2.1 sc) (bj 0 y)&&jz cond (jr (pt y).2.2.2.1 sc) (gen 0 y).ifs&&jz ez (jr (pt y).2.2.2.1 sc) (gen 1 y).ifs
 |_,_,_=>true
noncomputable def iS:Es→Scope→List Expr→Bool
 |.nil,_,_=>true
 |.cons e r,sc,l=>bP e sc (D7 l)&&iS r sc l.tail
noncomputable def mA:T→Scope→Expr→Bool
 |.val e,sc,y=>!(e.kd==4)&&bP e sc y
 |.cmp op l r,sc,y=>bP l sc (bj 0 y)&&bP r sc (bj 1 y) && !behindInMarks op (bH nm r (bj 1 y))
 |.not t,sc,y=>mA t sc (bj 0 y)
 |.and ts,sc,y=>jz ts sc (ks y)
 |.or ts,sc,y=>jz ts sc (ks y)
noncomputable def jz:Ts→Scope→List Expr→Bool
 |.nil,_,_=>true
 |.cons t r,sc,l=>mA t sc (D7 l)&&jz r sc l.tail
end
noncomputable def gV:Tg→Expr→Expr
 |.name x,y=>.Name (nm x) y.pos
 |.sub o i,y=>.Subscript (bH nm o (bj 0 y)) (bH nm i (bj 1 y)) y.pos
 |.g9 a b,y=>.Tuple [gV a (bj 0 y),gV b (bj 1 y)] (pt y).2.1 y.pos
 |.CQ a b c,y=>.Tuple [gV a (bj 0 y),gV b (bj 1 y),gV c (bj 2 y)] (pt y).2.1 y.pos
noncomputable def jA(sc:Scope)(own:List Nat):Tg→Expr→Bool
 |.name x,_=>jT nm sc own x
 |.sub o i,y=>bP nm o sc (bj 0 y)&&bP nm i sc (bj 1 y)
 |.g9 a b,y=>jA sc own a (bj 0 y)&&jA sc own b (bj 1 y)
 |.CQ a b c,y=>jA sc own a (bj 0 y)&&jA sc own b (bj 1 y)&&jA sc own c (bj 2 y)
noncomputable def pureOf{τ:Type}:Sem τ→Option τ
 |.pure a=>some a
 |_=>none
theorem AQ{τ:Type}{t:Sem τ}{a:τ}(h:pureOf t=some a):t=pure a:=by
 cases t<;>first|(cases h;rfl)|cases h
noncomputable def zc(sc:Scope):Env:=newEnv sc 0 0 [] "" none .none none 0
theorem Hu{env env':Env}(h:env.scope=env'.scope)(ts:List Expr)(e:Expr):swappedStores ts e env=swappedStores ts e env':=by
 unfold swappedStores Env.blockKind Env.kindOf;rw[h]
noncomputable def Tg.name?(t:Tg):Option Nat:=Tg.casesOn (motive:=fun zz=>Option Nat) t some (fun zz zz=>none) (fun zz zz=>none) (fun zz zz zz=>none)
noncomputable def Um:Stmt→List Expr×List (List Stmt)
 |.Expr x _=>([x],[])
 |.Assign ts v _=>(v::ts,[])
 |.AugAssign t _ v _=>([t,v],[])
 |.If t b e _=>([t],[b,e])
 |.While t b _ _=>([t],[b])
 |.For t i b _ _=>([t,i],[b])
 |.Return v _=>([v.getD default],[])
 |_=>([],[])
noncomputable def sk(i:Nat)(x:Stmt):Expr:=(Um x).1.getD i default
noncomputable def sb(i:Nat)(x:Stmt):List Stmt:=(Um x).2.getD i []
noncomputable def Hv(sc:Scope)(ts:List Expr)(v:Expr)(r:Option (List Str)):Bool:=isEqSome (pureOf (swappedStores ts v (zc sc))) r
mutual
noncomputable def pB:S→Stmt→Stmt
 |.expr e,y=>.Expr (bH nm e (sk 0 y)) y.pos
 |.asg t e,y=>.Assign [gV nm t (sk 1 y)] (bH nm e (sk 0 y)) y.pos
 |.N4 t u e,y=>.Assign [gV nm t (sk 1 y),gV nm u (sk 2 y)] (bH nm e (sk 0 y)) y.pos
 |.CR t u v e,y=>.Assign [gV nm t (sk 1 y),gV nm u (sk 2 y),gV nm v (sk 3 y)] (bH nm e (sk 0 y)) y.pos
 |.kz _ e,y=>.Assign [.Tuple (ks (sk 1 y)) (pt (sk 1 y)).2.1 (sk 1 y).pos] (bH nm e (sk 0 y)) y.pos
 |.aug x op e,y=>.AugAssign (.Name (nm x) (sk 0 y).pos) op (bH nm e (sk 1 y)) y.pos
 |.iff t b e,y=>.If (my nm t (sk 0 y)) (dP b (sb 0 y)) (dP e (sb 1 y)) y.pos
 |.rb t b,y=>.While (my nm t (sk 0 y)) (dP b (sb 0 y)) [] y.pos
 |.for x it b,y=>.For (.Name (nm x) (sk 0 y).pos) (bH nm it (sk 1 y)) (dP b (sb 0 y)) [] y.pos
 |.ret e,y=>.Return (some (bH nm e (sk 0 y))) y.pos
 |.Ht,y=>.Return none y.pos
 |.pass,y=>.Pass y.pos
 |.brk,y=>.Break y.pos
 |.bad,y=>y
noncomputable def dP:Ss→List Stmt→List Stmt
 |.nil,_=>[]
 |.cons s r,l=>pB s (l.headD default)::dP r l.tail
 |.sa _ r,l=>dP r l
end
mutual
noncomputable def tR:S→Scope→List Nat→Stmt→Bool
 |.expr e,sc,_,y=>!(e.kd==3)&&bP nm e sc (sk 0 y)
 |.asg t e,sc,own,y=>jA nm sc own t (sk 1 y)&&bP nm e sc (sk 0 y)&&(!(e.kd==3)||t.name?.isSome)&&Hv sc [gV nm t (sk 1 y)] (bH nm e (sk 0 y)) none
 |.N4 t u e,sc,own,y=>jA nm sc own t (sk 1 y)&&jA nm sc own u (sk 2 y)&&bP nm e sc (sk 0 y)&&Hv sc [gV nm t (sk 1 y),gV nm u (sk 2 y)] (bH nm e (sk 0 y)) none
 |.CR t u v e,sc,own,y=>jA nm sc own t (sk 1 y)&&jA nm sc own u (sk 2 y)&&jA nm sc own v (sk 3 y)&&bP nm e sc (sk 0 y)&&Hv sc [gV nm t (sk 1 y),gV nm u (sk 2 y),gV nm v (sk 3 y)] (bH nm e (sk 0 y)) none
 |.kz xs e,sc,own,y=>xs.all (jT nm sc own)&&bP nm e sc (sk 0 y) && !(e.kd==3)&&Hv sc [.Tuple (ks (sk 1 y)) (pt (sk 1 y)).2.1 (sk 1 y).pos] (bH nm e (sk 0 y)) (some (xs.map nm))
 |.aug x _ e,sc,own,y=>jT nm sc own x&&bP nm e sc (sk 1 y)
 |.iff t b e,sc,own,y=>mA nm t sc (sk 0 y)&&cW b sc own (sb 0 y)&&cW e sc own (sb 1 y)
 |.rb t b,sc,own,y=>mA nm t sc (sk 0 y)&&cW b sc own (sb 0 y)
 |.for x it b,sc,own,y=>jT nm sc own x&&bP nm it sc (sk 1 y)&&cW b sc own (sb 0 y)
 |.ret e,sc,_,y=>bP nm e sc (sk 0 y)
 |_,_,_,_=>true
noncomputable def cW:Ss→Scope→List Nat→List Stmt→Bool
 |.nil,_,_,_=>true
 |.cons s r,sc,own,l=>tR s sc own (l.headD default)&&cW r sc own l.tail
 |.sa _ r,sc,own,l=>cW r sc own l
end
end
section
variable{n:Nat}{env:Env}{own:List Nat}{U:aw}{O:Mu}
theorem fX.mono{t:Sem Bool}{Q Q':Bool→Mu→Prop}(h:fX G n env t U O Q)(hQ:∀v ar,Q v ar→Q' v ar):fX G n env t U O Q':=
 fun A hA B Z s I F=>wpAny_mono (h A hA B Z s I F) (fun zz _ ⟨ar,B',aH,q,r⟩=>⟨ar,B',aH,hQ _ _ q,r⟩) fun zz zz x=>x
theorem eZ.mono{t:Sem (List Value)}{Q Q':List V→Mu→Prop}(h:eZ G n env t U O Q)(hQ:∀v ar,Q v ar→Q' v ar):eZ G n env t U O Q':=
 fun A hA B Z s I F=>wpAny_mono (h A hA B Z s I F) (fun zz _ ⟨v,ar,B',aH,q,r⟩=>⟨v,ar,B',aH,hQ _ _ q,r⟩) fun zz zz x=>x
theorem gF.mono{f:Value→Sem Unit}{v:V}{Q Q':aw→Mu→Prop}(h:gF G n env own f v U O Q)(hQ:∀ao ar,Q ao ar→Q' ao ar):gF G n env own f v U O Q':=
 fun A hA B Z s u I F r=>wpAny_mono (h A hA B Z s u I F r) (fun zz _ ⟨ao,ar,B',aH,q,r⟩=>⟨ao,ar,B',aH,hQ _ _ q,r⟩) fun zz zz x=>x
theorem Hw{o:Expr}{name:Str}{apos pos:Pos}{args:List Expr}{Q:V→Mu→Prop}(tS:attributeBase o name env (eval o env)=eval o env)(hp:eG args env)(hlen:args.length<20)(Qj:(apos.endLine==pos.line)=true)
  (h:bz G n env (eval o env) U O fun v aA=>∃f,jx G name v aA f∧eZ G n env (spliced (backTo pos (starEach args env))) U aA fun vs aZ=>aU G n f (v::vs) [] aZ Q):
  bz G n env (eval (.Call (.Attribute o name apos) args [] pos) env) U O Q:=by
 intro A hA B Z s I F;rw[arm_eval_Call,tS];refine wpAny_bind (wpAny_mono (h A hA B Z s I F) ?_ fun zz zz x=>x);rintro x s1 ⟨v,aA,B1,aE,⟨f,⟨hk,hm⟩,bf⟩,P1,r1⟩;have F1:=F.same P1;refine wpAny_bind (wpAny_standAt ?_);have Un:methodCallForm (args.length+([]:List Keyword).length) (backTo pos (starEach args env)) (backToKw pos (keywordEach [] env))=true:=by
  unfold methodCallForm;rw[hp];unfold backTo backToKw keywordEach;simp;exact ag 1 0 (aa (ak ab (nk 20)) (ak ab (nk 30))) (by kd_p) hlen
 have tT:methodCallPos true o env apos pos=pure pos:=by unfold methodCallPos;simp[Qj]
 unfold methodCall;rw[Un];refine wpAny_bind (wpAny_holding (hm _ B1 aE s1 x _ _ _ P1.inv r1 ?_));refine wpAny_bind (wpAny_of_eq tT ?_);refine callWith_of (P:=fU G f) (by rw[plain_any hp];rfl) (fun zz h=>h) (iE (kws:=[]) hp rfl ?_)
 refine wpAny_mono (bf A hA B1 aE s1 P1.inv F1) ?_ fun zz zz x=>x;rintro xs s2 ⟨vs,aZ,B2,aV,bu,P2,r2⟩;refine kwAll_nil ⟨hk _ fun a o e=>P2.inv.holds a o (P2.inv.base a o e),?_⟩;exact wpAny_mono (bu A hA B2 aV s2 (x::xs) [] P2.inv (.cons (r1.mono P2.le P2.pre) r2) .nil) (fun z s6 Uo=>PV.after P1 (PV.after P2 Uo)) fun zz zz x=>x
theorem KX{o:Expr}{name:Str}{pos:Pos}{Q:V→Mu→Prop}(tS:attributeBase o name env (eval o env)=eval o env)
  (h:bz G n env (eval o env) U O fun v aA=>sP G n name v aA Q):bz G n env (eval (.Attribute o name pos) env) U O Q:=by
 intro A hA B Z s I F;rw[arm_eval_Attribute,tS];refine wpAny_bind (wpAny_mono (h A hA B Z s I F) ?_ fun zz zz x=>x);rintro x s1 ⟨v,aA,B1,aE,bf,P1,r1⟩;refine wpAny_bind (wpAny_standAt (wpAny_bind (wpAny_holding (wpAny_mono (bf A hA B1 aE s1 x P1.inv r1) (fun z s2 bu=>?_) fun zz zz x=>x))));exact wpAny_bind (wpAny_letTemporaryGo (wpAny_pure (PV.after P1 bu)))
theorem j6{st st':V→aw→Mu→List V→(aw→Mu→List V→Prop)→Prop}(h1:∀v U O acc k,st v U O acc k→st' v U O acc k)(h2:∀v U O acc k k',(∀a b c,k a b c→k' a b c)→st' v U O acc k→st' v U O acc k'):
  ∀ {xs:List V} {U:aw} {O:Mu} {acc:List V} {k:aw→Mu→List V→Prop},cb st xs U O acc k→cb st' xs U O acc k
 |[],_,_,_,_,h=>h
 |x::xs,U,O,acc,k,h=>h2 _ _ _ _ _ _ (fun a b c q=>j6 h1 h2 q) (h1 _ _ _ _ _ h)
theorem jb{st:V→aw→Mu→List V→(aw→Mu→List V→Prop)→Prop}(h2:∀v U O acc k k',(∀a b c,k a b c→k' a b c)→st v U O acc k→st v U O acc k'):
  ∀ {xs:List V} {U:aw} {O:Mu} {acc:List V} {k k':aw→Mu→List V→Prop},(∀a b c,k a b c→k' a b c)→cb st xs U O acc k→cb st xs U O acc k'
 |[],_,_,_,_,_,hk,h=>hk _ _ _ h
 |x::xs,U,O,acc,k,k',hk,h=>h2 _ _ _ _ _ _ (fun a b c q=>jb h2 hk q) h
theorem lr{st st':V→aw→Mu→(Fl→aw→Mu→Prop)→Prop}(h1:∀v U O k,st v U O k→st' v U O k)(h2:∀v U O k k',(∀a b c,k a b c→k' a b c)→st' v U O k→st' v U O k'):
  ∀ {xs:List V} {U:aw} {O:Mu} {k:Fl→aw→Mu→Prop},forL st xs U O k→forL st' xs U O k
 |[],_,_,_,h=>h
 |x::xs,U,O,k,h=>h2 _ _ _ _ _ (fun a b c q=>by
   cases a with
   |next=>exact lr h1 h2 q
   |cont=>exact lr h1 h2 q
   |brk=>exact q
   |ret v=>exact q) (h1 _ _ _ _ h)
theorem lu{ifs:List Expr}{k k':Bool→Mu→Prop}(h:∀a b,k a b→k' a b)(q:q5 G n env ifs U O k):q5 G n env ifs U O k':=by
 match ifs,q with
 |[],q=>exact h _ _ q
 |[c],q=>exact fX.mono (n:=n) q h
 |_::_::_,q=>exact q.elim
theorem j7{elt target:Expr}{ifs:List Expr}(v:V)(U:aw)(O:Mu)(acc:List V)(k k':aw→Mu→List V→Prop)(hk:∀a b c,k a b c→k' a b c)(h:gb G n env own elt target ifs v U O acc k):gb G n env own elt target ifs v U O acc k':=by
 refine gF.mono h fun a9 aA bf=>lu (fun b aZ bu=>?_) bf;cases b with
 |false=>exact hk _ _ _ bu
 |true=>exact bz.mono bu fun u dK vY=>⟨vY.1,hk _ _ _ vY.2⟩
theorem rd{elt t0 i1 t1:Expr}{f0 f1:List Expr}(v:V)(U:aw)(O:Mu)(acc:List V)(k k':aw→Mu→List V→Prop)(hk:∀a b c,k a b c→k' a b c)(h:gK G n env own elt t0 f0 i1 t1 f1 v U O acc k):gK G n env own elt t0 f0 i1 t1 f1 v U O acc k':=by
 refine gF.mono h fun a9 aA bf=>lu (fun b aZ bu=>?_) bf;cases b with
 |false=>exact hk _ _ _ bu
 |true=>exact bz.mono bu fun u dK ⟨xs,hi,vY⟩=>⟨xs,hi,jb j7 hk vY⟩
end
theorem aL{a b:Bool}(h:(a&&b)=true):a=true:=(Bool.and_eq_true_iff.mp h).1
theorem aR{a b:Bool}(h:(a&&b)=true):b=true:=(Bool.and_eq_true_iff.mp h).2
theorem gh(nm:Nat→Str)(e:E)(y:Expr)(env:Env)(x:Value):foldedSetIterable (bH nm e y) env x=pure x:=by
 unfold foldedSetIterable;cases e<;>rfl
theorem rg{nm:Nat→Str}{e:E}{y:Expr}{name:Str}{env:Env}(h:(!(e.kd==2))=true):attributeBase (bH nm e y) name env (eval (bH nm e y) env)=eval (bH nm e y) env:=by
 cases e<;>first|rfl|exact nomatch (show false=true from h)
theorem xS(nm:Nat→Str)(e:E)(y:Expr)(o i:Value):subscripted (bH nm e y) false o i=operate [o,i] (getItem o i):=by
 unfold subscripted;cases e<;>rfl
theorem vu{nm:Nat→Str}{e:E}{y:Expr}(h:(!(e.kd==4))=true)(env:Env):isTrue (bH nm e y) env (eval (bH nm e y) env)=(do let v ←eval (bH nm e y) env;standAt (bH nm e y).pos;holding [v] (truthy v)):=by
 cases e<;>first|rfl|exact nomatch (show false=true from h)
theorem mB(nm:Nat→Str)(e:E)(y:Expr)(xs:List Expr)(env:Env):starEach (bH nm e y::xs) env=(false,eval (bH nm e y) env)::starEach xs env:=by
 cases e<;>rfl
theorem qm(nm:Nat→Str)(t:Tg)(y:Expr)(xs:List Expr)(env:Env):assignEach (gV nm t y::xs) env=(false,assign (gV nm t y) env)::assignEach xs env:=by
 cases t<;>rfl
theorem eA{nm:Nat→Str}:∀ {es:Es} {xs:List Expr} {env:Env},eG (jy nm es xs) env
 |.nil,xs,env=>rfl
 |.cons e r,xs,env=>(mB nm e (D7 xs) (jy nm r xs.tail) env).trans (congrArg _ eA)
theorem nu{nm:Nat→Str}{sc:Scope}{x:Nat}{k:NameKind}(h:D6 nm sc x k=true):sc.names.lookup (nm x)=some k:=eq_of_beq h
theorem fA{nm:Nat→Str}{sc:Scope}{own:List Nat}{x:Nat}{env:Env}(hs:env.scope=sc)(hn:∀x,G.nm x=nm x)(h:jT nm sc own x=true):nR G env own x:=by
 unfold jT at h;simp only[Bool.and_eq_true,Bool.or_eq_true]at h;refine⟨by simpa using h.1,?_⟩
 unfold Env.kindOf;rw[hs,hn];exact h.2.imp nu nu
theorem pC:∀ {l:List Str},nr l=true→l.Nodup
 |[],_=>.nil
 |a::r,h=>by
  unfold nr at h;simp only[Bool.and_eq_true]at h;refine List.nodup_cons.mpr ⟨fun m=>?_,pC h.2⟩;have:=h.1;simp at this;exact this a m rfl
theorem wa{nm:Nat→Str}{sc outer:Scope}{y4 v7:List Nat}(hn:∀x,G.nm x=nm x)(h:xR nm sc outer y4 v7=true):tG G sc outer y4 v7:=by
 unfold xR at h;simp only[Bool.and_eq_true]at h;obtain⟨⟨⟨⟨⟨h1,h2⟩,h3⟩,h4⟩,h5⟩,h6⟩:=h;have nd:=pC h3;refine⟨eq_of_beq h1,eq_of_beq h2,nd,fun x hx=>?_,fun p hp hk=>?_,fun p hp hk=>?_,fun x hx=>?_⟩
 ·have:=List.all_eq_true.mp h4 x hx
  simp only[Bool.and_eq_true]at this;rw[hn];exact⟨mem_of_lookupK (eq_of_beq this.1),eq_of_beq this.2⟩
 ·have:=List.all_eq_true.mp h5 p hp
  simp only[Bool.or_eq_true]at this;rcases this with q|q
  ·rw[hk]at q;simp at q
  ·refine aW (List.any_eq_true.mp q) ?_;intro x hx e
   exact⟨x,hx,by rw[hn];exact eq_of_beq e⟩
 ·have:(p.1,NameKind.local)∈sc.names:=hk▸hp
  exact cL nd this
 ·have:=List.all_eq_true.mp h6 x hx
  simp only[Bool.or_eq_true]at this;rw[hn];exact this.imp nu nu
section
variable(G:dk)(gl:Nat→Option Value)(n:Nat)
structure Up(env:Env)(c:Bool)(x:Expr)(U:aw)(O:Mu)(Q:V→Mu→Prop):Prop where
 tr:bz G n env (eval x env) U O Q
 nm:c=true→(∀s p l,∃z,swapsWith x (some (.Name s p)) l env=pure z)∧∀ {px q7:Pos} {own:List Nat} {y:Nat} {R:Fl→aw→Mu→Prop},nR G env own y→swapsWith x (some (.Name (G.nm y) px)) q7.line env=pure true→(∀v ar,Q v ar→R .next (set U y v) ar)→
  cn G n env own (exec (.Assign [.Name (G.nm y) px] x q7) env) U O R
def qo:Prop:=∀x v,gl x=some v→G.gl x=some v
def cC(e:E)(U:aw)(O:Mu)(Q:V→Mu→Prop):Prop:=qo G gl→∀ (sc:Scope) (y:Expr) (env:Env),bP G.nm e sc y=true→env.scope=sc→Up G n env (e.kd==3) (bH G.nm e y) U O Q
def mC(e:Es)(U:aw)(O:Mu)(Q:List V→Mu→Prop):Prop:=qo G gl→∀ (sc:Scope) (ys:List Expr) (env:Env) (pos:Pos),iS G.nm e sc ys=true→env.scope=sc→eZ G n env (spliced (backTo pos (starEach (jy G.nm e ys) env))) U O Q
def tU(t:T)(U:aw)(O:Mu)(Q:Bool→Mu→Prop):Prop:=qo G gl→∀ (sc:Scope) (y:Expr) (env:Env),mA G.nm t sc y=true→env.scope=sc→fX G n env (isTrue (my G.nm t y) env (eval (my G.nm t y) env)) U O Q
def xT(t:Ts)(U:aw)(O:Mu)(Q:Bool→Mu→Prop):Prop:=qo G gl→∀ (sc:Scope) (ys:List Expr) (env:Env),jz G.nm t sc ys=true→env.scope=sc→fX G n env (allTrue .And (j5 G.nm t ys) env) U O Q
def d8(t:Ts)(U:aw)(O:Mu)(Q:Bool→Mu→Prop):Prop:=qo G gl→∀ (sc:Scope) (ys:List Expr) (env:Env),jz G.nm t sc ys=true→env.scope=sc→q5 G n env (j5 G.nm t ys) U O Q
end
section
variable(G:dk)(gl:Nat→Option Value)(n:Nat)
abbrev Hx{β:Type}(F:V→Mu→β→Prop)(Q:β):V→Mu→Prop:=fun v O=>F v O Q
abbrev Yk(F:V→V→Mu→(V→Mu→Prop)→Prop)(v:V)(Q:V→Mu→Prop):V→Mu→Prop:=fun u O=>F v u O Q
abbrev KY(r:E)(U:aw)(F:V→V→Mu→(V→Mu→Prop)→Prop)(Q:V→Mu→Prop):V→Mu→Prop:=fun v O=>cC G gl n r U O (Yk F v Q)
abbrev Uq(r:E)(U:aw)(Q:V→Mu→Prop)(v:V):Bool→Mu→Prop:=fun b O=>match b with|true=>cC G gl n r U O Q|false=>Q v O
abbrev Yl(r:E)(U:aw)(Q:V→Mu→Prop):V→Mu→Prop:=fun v O=>iP G n v O (Uq G gl n r U Q v)
abbrev Ur(c d:E)(U:aw)(Q:V→Mu→Prop):Bool→Mu→Prop:=fun b O=>match b with|true=>cC G gl n c U O Q|false=>cC G gl n d U O Q
abbrev Ym(m:Bool)(Q:V→Mu→Prop):List V→Mu→Prop:=fun vs O=>gM vs.length∧de m Q O vs
abbrev Yn(Q:V→Mu→Prop):List V→Mu→Prop:=fun vs O=>gM vs.length∧Q (.tuple vs) O
abbrev Qk(fv:V)(Q:V→Mu→Prop):List V→Mu→Prop:=fun vs O=>bD G n fv vs [] O Q
abbrev Us(fv:V)(vs:List V)(name:Str)(Q:V→Mu→Prop):V→Mu→Prop:=fun u O=>bD G n fv vs [(name,u)] O Q
abbrev Yo(fv:V)(k:E)(name:Str)(U:aw)(Q:V→Mu→Prop):List V→Mu→Prop:=fun vs O=>cC G gl n k U O (Us G n fv vs name Q)
abbrev Ut(f:Value)(v:V)(Q:V→Mu→Prop):List V→Mu→Prop:=fun vs O=>aU G n f (v::vs) [] O Q
abbrev Yp(name:Str)(args:Es)(U:aw)(Q:V→Mu→Prop):V→Mu→Prop:=fun v O=>∃f,jx G name v O f∧mC G gl n args U O (Ut G n f v Q)
end
theorem ev{n:Nat}{env:Env}{x:Expr}{U:aw}{O:Mu}{Q:V→Mu→Prop}(h:bz G n env (eval x env) U O Q):Up G n env false x U O Q:=⟨h,nofun⟩
section
variable{gl:Nat→Option Value}{n:Nat}{U:aw}{O:Mu}{Q:V→Mu→Prop}
theorem bU{x:Nat}{v:V}(h:get U x=some v)(q:Q v O):cC G gl n (.var x) U O Q:=fun zz zz zz zz zz zz=>ev (xy h q)
theorem tV{x:Nat}{v:Value}(h:gl x=some v)(q:Q (.raw v) O)(hg:qo G gl){sc:Scope}{y:Expr}{env:Env}(l:bP G.nm (.glob x) sc y=true)(hs:env.scope=sc):bz G n env (eval (bH G.nm (.glob x) y) env) U O Q:=
 Kn (by unfold Env.kindOf;rw[hs];exact nu l) (hg _ _ h) q
theorem wc{x:Nat}{v:Value}(h:gl x=some v)(q:Q (.raw v) O):cC G gl n (.glob x) U O Q:=fun hg zz zz zz l hs=>ev (tV h q hg l hs)
theorem Hy{i:Int}(h:Q (.int i) O):cC G gl n (.int i:E) U O Q:=fun zz zz zz zz zz zz=>ev (Pf h)
theorem tW{x:Str}(h:Q (.str x) O):cC G gl n (.str x:E) U O Q:=fun zz zz zz zz zz zz=>ev (Pg h)
theorem wd{b:Bool}(h:Q (.bool b) O):cC G gl n (.bool b:E) U O Q:=fun zz zz zz zz zz zz=>ev (Ko h)
theorem Hz(h:Q .none O):cC G gl n (.vt:E) U O Q:=fun zz zz zz zz zz zz=>ev (Kp h)
theorem zd{op:Operator}{l r:E}(w:cC G gl n l U O (KY G gl n r U (cB G n op) Q)):cC G gl n (.bin op l r:E) U O Q:=fun hg zz zz zz h hs=>
 ev (GF (bz.mono (w hg _ _ _ (aL h) hs).tr fun v aA w1=>(w1 hg _ _ _ (aR h) hs).tr))
theorem HA{op:CmpOp}{l r:E}(w:cC G gl n l U O (KY G gl n r U (bW G n op) Q)):cC G gl n (.cmp op l r:E) U O Q:=fun hg zz zz zz h hs=>
 ev (Ph (bz.mono (w hg _ _ _ (aL (aL h)) hs).tr fun v aA w1=>(w1 hg _ _ _ (aR (aL h)) hs).tr) (Bool.not_eq_true' _▸aR h))
theorem HB{e:E}(w:cC G gl n e U O (Hx (CP G n .USub) Q)):cC G gl n (.neg e:E) U O Q:=fun hg zz zz zz h hs=>ev (NX (w hg _ _ _ h hs).tr)
theorem HC{e:E}(w:cC G gl n e U O (Hx (CP G n .Invert) Q)):cC G gl n (.inv e:E) U O Q:=fun hg zz zz zz h hs=>ev (NX (w hg _ _ _ h hs).tr)
theorem D8{l r:E}(w:cC G gl n l U O (Yl G gl n r U Q)):cC G gl n (.v9 l r:E) U O Q:=fun hg zz zz zz h hs=>by
 refine ev (Kv (bz.mono (w hg _ _ _ (aL h) hs).tr fun v aA w1 A hA B Z s x I r1=>wpAny_mono (w1 A hA B Z s x I r1) ?_ fun zz zz x=>x));rintro b s2 ⟨aZ,B2,aV,q,P2⟩;refine⟨aZ,B2,aV,?_,P2⟩;cases b with
 |true=>exact(q hg _ _ _ (aR h) hs).tr
 |false=>exact q
theorem HD{t:T}{c d:E}(w:tU G gl n t U O (Ur G gl n c d U Q)):cC G gl n (.za t c d:E) U O Q:=fun hg zz zz zz h hs=>by
 refine ev (GH (fX.mono (w hg _ _ _ (aL (aL h)) hs) fun b aA w1=>?_));cases b with
 |true=>exact(w1 hg _ _ _ (aR (aL h)) hs).tr
 |false=>exact(w1 hg _ _ _ (aR h) hs).tr
theorem D9{m:Bool}{es:Es}(w:mC G gl n es U O (Ym m Q)):cC G gl n (.list m es:E) U O Q:=fun hg zz zz zz h hs=>by
 have w':=fun pos=>eZ.mono (w hg _ _ _ pos h hs) fun vs aA w1=>(⟨w1.1.ok,w1.2⟩:vs.length≤sizeLine∧_);cases m with
 |false=>exact ev (Kx (w' _))
 |true=>exact ev (GI (w' _))
theorem tX{es:Es}(w:mC G gl n es U O (Yn Q)):cC G gl n (.tup es:E) U O Q:=fun hg zz zz zz h hs=>
 ev (GJ (eZ.mono (w hg _ _ _ _ h hs) fun vs aA w1=>⟨w1.1.ok,w1.2⟩))
theorem tY{s:Str}{p pos:Pos}{args:Es}{fv:V}{env:Env}{ys:List Expr}{sc:Scope}(hf:∀ {R:V→Mu→Prop},R fv O→bz G n env (eval (.Name s p) env) U O R)(w:mC G gl n args U O (Qk G n fv Q))(hg:qo G gl)(h:iS G.nm args sc ys=true)(hs:env.scope=sc):
  bz G n env (eval (.Call (.Name s p) (jy G.nm args ys) [] pos) env) U O Q:=
 xI rfl eA rfl (hf (eZ.mono (w hg _ _ _ _ h hs) fun vs aZ w2=>AF ⟨[],rfl,rfl,w2⟩))
theorem AR{x:Nat}{v:V}{args:Es}(hx:get U x=some v)(w:mC G gl n args U O (Qk G n v Q)):cC G gl n (.call (.var x) args:E) U O Q:=fun hg zz zz zz h hs=>ev (tY (fun q=>xy hx q) w hg (aR h) hs)
theorem Ea{x:Nat}{v:Value}{args:Es}(hx:gl x=some v)(w:mC G gl n args U O (Qk G n (.raw v) Q)):cC G gl n (.call (.glob x) args:E) U O Q:=fun hg zz zz zz h hs=>ev (tY (fun q=>tV (y:=.Name (G.nm x) _) hx q hg (aL h) hs) w hg (aR h) hs)
theorem AS{x:Nat}{v:Value}{k:E}{args:Es}{name:Str}(hx:gl x=some v)(w:mC G gl n args U O (Yo G gl n (.raw v) k name U Q)):cC G gl n (.mx (.glob x) args name k:E) U O Q:=fun hg zz zz zz h hs=>
 ev (xI rfl eA rfl (tV hx (eZ.mono (w hg _ _ _ _ (aR (aL h)) hs) fun vs aZ w2=>CL (bz.mono (w2 hg _ _ _ (aR h) hs).tr fun u dK w3=>AF ⟨[(_,u)],rfl,rfl,w3⟩)) hg (aL (aL h)) hs))
theorem bB{o:E}{name:Str}{args:Es}(w:cC G gl n o U O (Yp G gl n name args U Q)):cC G gl n (.cA o name args:E) U O Q:=fun hg zz zz zz h hs=>
 ev (Hw (rg (aL (aL (aL (aL h))))) eA (of_decide_eq_true (aR (aL (aL h)))) (aR (aL (aL (aL h)))) (bz.mono (w hg _ _ _ (aR (aL h)) hs).tr fun v aA ⟨f,hf,w1⟩=>⟨f,hf,w1 hg _ _ _ _ (aR h) hs⟩))
theorem Eb{o:E}{name:Str}(w:cC G gl n o U O (Hx (sP G n name) Q)):cC G gl n (.attr o name:E) U O Q:=fun hg zz zz zz h hs=>ev (KX (rg (aL h)) (w hg _ _ _ (aR h) hs).tr)
theorem HE{o i:E}(w:cC G gl n o U O (KY G gl n i U (gf G n) Q)):cC G gl n (.sub o i:E) U O Q:=fun hg zz zz zz h hs=>
 ev (PW (bz.mono (w hg _ _ _ (aL h) hs).tr fun v aA w1=>(w1 hg _ _ _ (aR h) hs).tr) (xS _ _ _))
theorem oB{v:V}{p:Option Int}(h:pA v=some p):v=jt p:=by
 unfold pA at h;split at h
 ·cases Option.some.inj h;rfl
 ·cases Option.some.inj h;rfl
 ·exact bk h
def Uu(G:dk)(n:Nat)(v l u s:V)(O:Mu)(Q:V→Mu→Prop):Prop:=∃a b c,l=jt a∧u=jt b∧s=jt c∧ju G n v a b c O Q
theorem Uv{v l u s:V}{a b c:Option Int}(h1:pA l=some a)(h2:pA u=some b)(h3:pA s=some c)(h:ju G n v a b c O Q):Uu G n v l u s O Q:=⟨a,b,c,oB h1,oB h2,oB h3,h⟩
def HF(gl:Nat→Option Value)(n:Nat)(G:dk)(e:E)(U:aw)(O:Mu)(Q:V→Mu→Prop):Prop:=qo G gl→∀ (sc:Scope) (y:Expr) (env:Env),bP G.nm e sc y=true→env.scope=sc→bz G n env (evalPart (bif e.zb then none else some (bH G.nm e y)) env) U O Q
theorem KZ(q:Q .none O):HF gl n G .no U O Q:=fun zz zz zz env zz zz A hA B Z s I F=>by
 show wpAny _ _ (evalPart none env) _ _ _;rw[evalPart_none];exact wpAny_pure (PV.bQ I .none q)
theorem Yq{e:E}(he:e.zb=false)(w:cC G gl n e U O Q):HF gl n G e U O Q:=fun hg zz zz zz h hs=>by
 rw[he,cond_false,evalPart_some];exact(w hg _ _ _ h hs).tr
abbrev Uw(G:dk)(n:Nat)(v l u:V)(Q:V→Mu→Prop):V→Mu→Prop:=fun s O=>Uu G n v l u s O Q
abbrev Ux(G:dk)(gl:Nat→Option Value)(n:Nat)(st:E)(U:aw)(v l:V)(Q:V→Mu→Prop):V→Mu→Prop:=fun u O=>HF gl n G st U O (Uw G n v l u Q)
abbrev Uy(G:dk)(gl:Nat→Option Value)(n:Nat)(hi st:E)(U:aw)(v:V)(Q:V→Mu→Prop):V→Mu→Prop:=fun l O=>HF gl n G hi U O (Ux G gl n st U v l Q)
abbrev Uz(G:dk)(gl:Nat→Option Value)(n:Nat)(lo hi st:E)(U:aw)(Q:V→Mu→Prop):V→Mu→Prop:=fun v O=>HF gl n G lo U O (Uy G gl n hi st U v Q)
theorem AU{o lo hi st:E}(w:cC G gl n o U O (Uz G gl n lo hi st U Q)):cC G gl n (.slice o lo hi st) U O Q:=fun hg zz zz zz h hs=>
 ev (Hb (bz.mono (w hg _ _ _ (aL (aL (aL h))) hs).tr fun v aA w1=>bz.mono (w1 hg _ _ _ (aR (aL (aL h))) hs) fun l aZ w2=>bz.mono (w2 hg _ _ _ (aR (aL h)) hs) fun u dK w3=>w3 hg _ _ _ (aR h) hs))
theorem bK{xs:List V}(q:Q (.list xs) O):de false Q O xs:=q
end
theorem K1{n:Nat}{env:Env}{own:List Nat}{t:Sem Flow}{U:aw}{O:Mu}{Q:Fl→aw→Mu→Prop}{x i:Nat}{xs:List V}(hx:get U x=some (.ml i))(hi:O[i]?=some (some xs))
  (h:cn G n env own t (set U x (.list xs)) (O.set i none) Q):cn G n env own t U O Q:=by
 intro A hA B Z s I F;have bA:=(List.getElem?_eq_some_iff.mp hi).1;rw[←I.len]at bA;have hl:Z[i]?=some Z[i]:=List.getElem?_eq_getElem bA;refine oo (I.freeze hl hi) ?_;intro vs k r e I';have hm:Z[i]∈Z:=List.getElem_mem _;have le:ay.le B (B.add Z[i] (lobj vs k)):=ay.iA (I.ml i _ xs hl hi).1;have hv:VR (B.add Z[i] (lobj vs k)) Z (.list xs) (.ref Z[i]):=.list (ay.c9 ..) r.1 ((r.any Z).mono le (List.prefix_refl _)).2;have ref:∀u,VR B Z (.ml i) u→u=.ref Z[i]:=fun u hu=>by
  cases hu with
  |ml e=>rw[hl]at e;cases Option.some.inj e;rfl
 have F':bt G env (B.add Z[i] (lobj vs k)) Z (set U x (.list xs)) s.heap:=by
  refine aW F.ns ?_;intro m i9 xw;refine⟨F.kind,F.gl,F.bi,⟨m,i9,fun y v hy hk=>?_⟩,fun y v hy=>?_,⟨?_,F.cU.2⟩,fun n' c hc=>?_,F.inj,F.all⟩
  ·rw[get_set]at hy
   by_cases q:x=y
   ·subst q
    rw[if_pos rfl]at hy;cases Option.some.inj hy;refine aW (xw x _ hx hk) ?_;intro u h1 h2;exact⟨u,h1,ref u h2▸hv⟩
   ·rw[if_neg q]at hy
    refine aW (xw y v hy hk) ?_;intro u h1 h2;exact⟨u,h1,h2.mono le (List.prefix_refl _)⟩
  ·rw[get_set]at hy
   by_cases q:x=y
   ·subst q
    rw[if_pos rfl]at hy;cases Option.some.inj hy;rcases F.cl x _ hx with z|⟨hk,c,u,hc,eV,h2⟩
    ·exact .inl z
    ·exact .inr ⟨hk,c,u,hc,eV,ref u h2▸hv⟩
   ·rw[if_neg q]at hy
    rcases F.cl y v hy with z|⟨hk,c,u,hc,eV,h2⟩
    ·exact .inl z
    ·exact .inr ⟨hk,c,u,hc,eV,h2.mono le (List.prefix_refl _)⟩
  ·unfold ay.add
   rw[if_neg (fun q:env.locals=Z[i]=>F.cU.2.1 (q▸hm))];exact F.cU.1
  ·refine qa (F.dG n' c hc) ?_;intro a1 a2 a3
   refine⟨a1.imp id fun a1=>?_,a2,a3⟩;unfold ay.add;rw[if_neg (fun q:c=Z[i]=>a2 (q▸hm))];exact a1
 have P:aG G (fa G env own) B Z s (B.add Z[i] (lobj vs k)) Z (O.set i none) s:=by
  refine⟨le,List.prefix_refl _,I',.refl _ _,F.bL,.refl s,fun a ha=>?_,fun a ha=>.inl ha⟩;unfold ay.add at ha
  by_cases q:a=Z[i]
  ·exact .inr (.inl (q▸hm))
  ·rw[if_neg q]at ha;exact .inl ha
 refine wpAny_mono (h A hA _ Z s I' F') ?_ fun zz zz x=>x;rintro fl s' ⟨r',ao,ar,B',aH,q,P',GS,rr⟩;exact⟨r',ao,ar,B',aH,q,P.trans P',GS,rr⟩
section
variable{gl:Nat→Option Value}{n:Nat}
theorem dq{nm:Nat→Str}{e:E}{y:Expr}(h:(!(e.kd==3))=true)(t:Option Expr)(l:Nat)(env:Env):swapsWith (bH nm e y) t l env=pure false:=by
 cases e<;>first|rfl|exact nomatch (show false=true from h)
theorem AV{τ:Type} [BEq τ] [LawfulBEq τ] {o:Option τ} {a:τ} (h:isEqSome o a=true):o=some a:=by
 unfold isEqSome at h;cases o with
 |none=>cases h
 |some b=>rw[eq_of_beq h]
theorem sU{sc:Scope}{ts:List Expr}{e:Expr}{env:Env}{r:Option (List Str)}(hs:env.scope=sc)(h:Hv sc ts e r=true):swappedStores ts e env=pure r:=by
 rw[Hu (env':=zc sc) (by rw[hs];rfl)]
 exact AQ (AV h)
theorem we(hg:qo G gl){cenv:Env}{sc:Scope}{own:List Nat}(hc:cenv.scope=sc){x:Nat}{p:Pos}{elt:E}{y:Expr}{cond:Ts}{ifs:List Expr}(ho:jT G.nm sc own x=true)(he:bP G.nm elt sc y=true)(hi:jz G.nm cond sc ifs=true)
  {v:V}{U:aw}{O:Mu}{acc:List V}{k:aw→Mu→List V→Prop}(hk:d8 G gl n cond (set U x v) O fun b aZ=>match b with|false=>k (set U x v) aZ acc|true=>cC G gl n elt (set U x v) aZ fun u dK=>gM (acc.length+1)∧k (set U x v) dK (acc++[u])):gb G n cenv own (bH G.nm elt y) (.Name (G.nm x) p) (j5 G.nm cond ifs) v U O acc k:=by
 unfold gb;refine m9 (fA hc (fun zz=>rfl) ho) (lu (fun b aZ q=>?_) (hk hg _ _ _ hi hc));cases b with
 |false=>exact q
 |true=>exact bz.mono (q hg _ _ _ he hc).tr fun u dK w3=>⟨w3.1.ok,w3.2⟩
theorem Ec(hg:qo G gl){cenv:Env}{sc:Scope}{own:List Nat}(hc:cenv.scope=sc){x x2:Nat}{p p2:Pos}{elt l5:E}{y y2:Expr}{cond ez:Ts}{ifs N5:List Expr}(ho:jT G.nm sc own x=true)(Yr:jT G.nm sc own x2=true)(he:bP G.nm elt sc y=true)(kA:bP G.nm l5 sc y2=true)(hi:jz G.nm cond sc ifs=true)(hj:jz G.nm ez sc N5=true)
  {v:V}{U:aw}{O:Mu}{acc:List V}{k:aw→Mu→List V→Prop}(hk:d8 G gl n cond (set U x v) O fun b aZ=>match b with|false=>k (set U x v) aZ acc|true=>cC G gl n l5 (set U x v) aZ fun w dK=>∃ys,Iter G w dK ys∧(cb (fun v U O acc k=>d8 G gl n ez (set U x2 v) O fun b aZ=>(match b with|false=>k (set U x2 v) aZ acc|true=>cC G gl n elt (set U x2 v) aZ fun u dK=>gM (acc.length+1)∧k (set U x2 v) dK (acc++[u]))) ys (set U x v) dK acc k)):gK G n cenv own (bH G.nm elt y) (.Name (G.nm x) p) (j5 G.nm cond ifs) (bH G.nm l5 y2) (.Name (G.nm x2) p2) (j5 G.nm ez N5) v U O acc k:=by
 unfold gK;refine m9 (fA hc (fun zz=>rfl) ho) (lu (fun b aZ q=>?_) (hk hg _ _ _ hi hc));cases b with
 |false=>exact q
 |true=>exact bz.mono (q hg _ _ _ kA hc).tr fun u dK ⟨ys,hy,w3⟩=>⟨ys,hy,j6 (fun v U O acc k hk=>we hg hc Yr he hj hk) j7 w3⟩
theorem rh{m:Bool}{Q Q':V→Mu→Prop}(h:∀v O,Q v O→Q' v O){O:Mu}{xs:List V}(q:de m Q O xs):de m Q' O xs:=by
 cases m with
 |false=>exact h _ _ q
 |true=>exact⟨q.1,h _ _ q.2⟩
section
variable{U:aw}{O:Mu}{Q:V→Mu→Prop}
abbrev UA(k:aw→Mu→List V→Prop)(acc:List V)(U:aw):V→Mu→Prop:=fun u O=>gM (acc.length+1)∧k U O (acc++[u])
abbrev UB(G:dk)(gl:Nat→Option Value)(n:Nat)(elt:E)(U:aw)(acc:List V)(k:aw→Mu→List V→Prop):Bool→Mu→Prop:=fun b O=>match b with|false=>k U O acc|true=>cC G gl n elt U O (UA k acc U)
abbrev N6(G:dk)(gl:Nat→Option Value)(n:Nat)(cond:Ts)(x:Nat)(elt:E):V→aw→Mu→List V→(aw→Mu→List V→Prop)→Prop:=fun v U O acc k=>d8 G gl n cond (set U x v) O (UB G gl n elt (set U x v) acc k)
abbrev N7(m:Bool)(Q:V→Mu→Prop):aw→Mu→List V→Prop:=fun zz O acc=>de m Q O acc
abbrev UC(G:dk)(gl:Nat→Option Value)(n:Nat)(m:Bool)(elt:E)(x:Nat)(cond:Ts)(fr:List Nat)(U:aw)(Q:V→Mu→Prop):V→Mu→Prop:=fun v O=>∃xs,Iter G v O xs∧cb (N6 G gl n cond x elt) xs (cz U fr) O [] (N7 m Q)
abbrev UD(G:dk)(gl:Nat→Option Value)(n:Nat)(x2:Nat)(ez:Ts)(elt:E)(U:aw)(acc:List V)(k:aw→Mu→List V→Prop):V→Mu→Prop:=fun w O=>∃ys,Iter G w O ys∧cb (N6 G gl n ez x2 elt) ys U O acc k
abbrev UE(G:dk)(gl:Nat→Option Value)(n:Nat)(l5:E)(x2:Nat)(ez:Ts)(elt:E)(U:aw)(acc:List V)(k:aw→Mu→List V→Prop):Bool→Mu→Prop:=fun b O=>match b with|false=>k U O acc|true=>cC G gl n l5 U O (UD G gl n x2 ez elt U acc k)
abbrev UG(G:dk)(gl:Nat→Option Value)(n:Nat)(cond:Ts)(x:Nat)(l5:E)(x2:Nat)(ez:Ts)(elt:E):V→aw→Mu→List V→(aw→Mu→List V→Prop)→Prop:=fun v U O acc k=>d8 G gl n cond (set U x v) O (UE G gl n l5 x2 ez elt (set U x v) acc k)
abbrev UH(G:dk)(gl:Nat→Option Value)(n:Nat)(m:Bool)(elt:E)(x:Nat)(cond:Ts)(l5:E)(x2:Nat)(ez:Ts)(fr:List Nat)(U:aw)(Q:V→Mu→Prop):V→Mu→Prop:=fun v O=>∃xs,Iter G v O xs∧cb (UG G gl n cond x l5 x2 ez elt) xs (cz U fr) O [] (N7 m Q)
theorem dC{m:Bool}{elt it:E}{x:Nat}{cond:Ts}{fr own:List Nat}
  (w:cC G gl n it U O (UC G gl n m elt x cond fr U Q)):cC G gl n (.ey m elt x it cond fr own) U O Q:=fun hg sc y env h hs=>by
 subst hs;have dM:=wa (G:=G) (fun zz=>rfl) (aL (aL (aL (aL h))));have core:=fun(aA:Mu) (xs:List V) cenv (hc:cenv.scope=jr _ env.scope) w1=>j6 (xs:=xs) (U:=cz U fr) (O:=aA) (acc:=[]) (k:=fun zz ar acc=>de m Q ar acc) (st':=gb G n cenv own (bH G.nm elt (bj 0 y)) (.Name (G.nm x) (gen 0 y).target.pos) (j5 G.nm cond (gen 0 y).ifs))
  (fun v U O acc k hk=>we hg hc (aR (aL (aL (aL h)))) (aR (aL h)) (aR h) hk) j7 w1
 have w':=(w hg _ _ _ (aR (aL (aL h))) rfl).tr;exact⟨G4 m dM (gh _ _ _ env) (fun zz zz=>rfl) (bz.mono w' fun v aA ⟨xs,hi,w1⟩=>⟨xs,hi,fun cenv hc=>core aA xs cenv hc w1⟩),
  fun zz=>⟨fun zz zz zz=>⟨_,rfl⟩,fun hx ze hQ=>G8 m hx ze dM (gh _ _ _ env) (fun zz zz=>rfl) (bz.mono w' fun v aA ⟨xs,hi,w1⟩=>⟨xs,hi,fun cenv hc=>jb j7 (fun zz zz zz q=>rh hQ q) (core aA xs cenv hc w1)⟩)⟩⟩
theorem zf{m:Bool}{elt it l5:E}{x x2:Nat}{cond ez:Ts}{fr own:List Nat}
  (w:cC G gl n it U O (UH G gl n m elt x cond l5 x2 ez fr U Q)):cC G gl n (.tQ m elt x it cond x2 l5 ez fr own) U O Q:=fun hg sc y env h hs=>by
 subst hs;have O7:=aR h;have h:=aL h;have O6:=aR h;have h:=aL h;have O5:=aR h;have h:=aL h;have O4:=aR h;have h:=aL h;have h9:=aR (aL h);have h8:=aR (aL (aL h));have dM:=wa (G:=G) (fun zz=>rfl) (aL (aL (aL h)));have core:=fun(aA:Mu) (xs:List V) cenv (hc:cenv.scope=jr _ env.scope) w1=>j6 (xs:=xs) (U:=cz U fr) (O:=aA) (acc:=[]) (k:=fun zz ar acc=>de m Q ar acc) (st':=gK G n cenv own (bH G.nm elt (bj 0 y)) (.Name (G.nm x) (gen 0 y).target.pos) (j5 G.nm cond (gen 0 y).ifs) (bH G.nm l5 (gen 1 y).iter) (.Name (G.nm x2) (gen 1 y).target.pos) (j5 G.nm ez (gen 1 y).ifs))
  (fun v U O acc k hk=>Ec hg hc h8 h9 O5 O4 O6 O7 hk) rd w1
 have w':=(w hg _ _ _ (aR h) rfl).tr;exact⟨G5 m dM (gh _ _ _ env) (gh _ _ _) (fun zz zz=>rfl) (fun zz zz=>rfl) (bz.mono w' fun v aA ⟨xs,hi,w1⟩=>⟨xs,hi,fun cenv hc=>core aA xs cenv hc w1⟩),
  fun zz=>⟨fun zz zz zz=>⟨_,rfl⟩,fun hx ze hQ=>G9 m hx ze dM (gh _ _ _ env) (gh _ _ _) (fun zz zz=>rfl) (fun zz zz=>rfl) (bz.mono w' fun v aA ⟨xs,hi,w1⟩=>⟨xs,hi,fun cenv hc=>jb rd (fun zz zz zz q=>rh hQ q) (core aA xs cenv hc w1)⟩)⟩⟩
end
end
section
variable(G:dk)(gl:Nat→Option Value)(n:Nat)
abbrev UI(Q:List V→Mu→Prop)(v:V):List V→Mu→Prop:=fun vs O=>Q (v::vs) O
abbrev Ys(r:Es)(U:aw)(Q:List V→Mu→Prop):V→Mu→Prop:=fun v O=>mC G gl n r U O (UI Q v)
abbrev UJ(r:Ts)(U:aw)(Q:Bool→Mu→Prop):Bool→Mu→Prop:=fun b O=>match b with|true=>xT G gl n r U O Q|false=>Q false O
end
section
variable{gl:Nat→Option Value}{n:Nat}{U:aw}{O:Mu}
theorem kP{Q:List V→Mu→Prop}(w:Q [] O):mC G gl n (.nil:Es) U O Q:=fun zz zz zz zz zz zz zz=>PD w
theorem gj{Q:List V→Mu→Prop}{e:E}{r:Es}(w:cC G gl n e U O (Ys G gl n r U Q)):mC G gl n (.cons e r:Es) U O Q:=fun hg zz zz zz zz h hs=>
 Kw (bz.mono (w hg _ _ _ (aL h) hs).tr fun v aA w1=>w1 hg _ _ _ _ (aR h) hs) (mB _ _ _ _ _)
section
variable{Q:Bool→Mu→Prop}
theorem tZ{e:E}(w:cC G gl n e U O (Hx (iP G n) Q)):tU G gl n (.val e:T) U O Q:=fun hg zz zz env h hs=>
 Ku (w hg _ _ _ (aR h) hs).tr (vu (aL h) env)
theorem zg{op:CmpOp}{l r:E}(w:cC G gl n l U O (KY G gl n r U (bW G n op) (Hx (iP G n) Q))):tU G gl n (.cmp op l r:T) U O Q:=fun hg zz zz zz h hs=>
 tu (bz.mono (w hg _ _ _ (aL (aL h)) hs).tr fun v aA w1=>(w1 hg _ _ _ (aR (aL h)) hs).tr) (Bool.not_eq_true' _▸aR h)
theorem HG{ts:Ts}(w:xT G gl n ts U O Q):tU G gl n (.and ts:T) U O Q:=fun hg zz zz zz h hs=>qY (w hg _ _ _ h hs)
theorem AW(w:Q true O):xT G gl n (.nil:Ts) U O Q:=fun zz zz zz zz zz zz=>vo w
theorem zh{t:T}{r:Ts}(w:tU G gl n t U O (UJ G gl n r U Q)):xT G gl n (.cons t r:Ts) U O Q:=fun hg zz zz zz h hs=>by
 refine tw (fX.mono (w hg _ _ _ (aL h) hs) fun b aA w1=>?_);cases b with
 |true=>exact w1 hg _ _ _ (aR h) hs
 |false=>exact w1
theorem cQ(w:Q true O):d8 G gl n (.nil:Ts) U O Q:=fun zz zz zz zz zz zz=>w
theorem kQ{t:T}(w:tU G gl n t U O Q):d8 G gl n (.cons t .nil:Ts) U O Q:=fun hg zz zz zz h hs=>w hg _ _ _ (aL h) hs
end
section
variable{R:aw→Mu→Prop}{v:V}
def qp(G:dk)(gl:Nat→Option Value)(n:Nat)(t:Tg)(v:V)(U:aw)(O:Mu)(R:aw→Mu→Prop):Prop:=qo G gl→∀ (sc:Scope) (own:List Nat) (y:Expr) (env:Env),jA G.nm sc own t y=true→env.scope=sc→gF G n env own (assign (gV G.nm t y) env) v U O R
section
variable(G:dk)(gl:Nat→Option Value)(n:Nat)
abbrev UK(ov v:V)(R:aw→Mu→Prop)(U:aw):V→Mu→Prop:=fun iv O=>xK G n ov iv v O (R U)
abbrev Yt(i:E)(U:aw)(v:V)(R:aw→Mu→Prop):V→Mu→Prop:=fun ov O=>cC G gl n i U O (UK G n ov v R U)
abbrev HH(t:Tg)(v:V)(R:aw→Mu→Prop):aw→Mu→Prop:=fun U O=>qp G gl n t v U O R
end
theorem gw{x:Nat}(w:R (set U x v) O):qp G gl n (.name x:Tg) v U O R:=fun zz zz zz zz zz h hs=>m9 (fA hs (fun zz=>rfl) h) w
theorem HI{o i:E}(w:cC G gl n o U O (Yt G gl n i U v R)):qp G gl n (.sub o i:Tg) v U O R:=fun hg zz zz zz zz h hs=>
 PX (bz.mono (w hg _ _ _ (aL h) hs).tr fun ov aA w1=>(w1 hg _ _ _ (aR h) hs).tr)
theorem mD{env:Env}:jv [] env:=rfl
theorem eQ{nm:Nat→Str}{t:Tg}{y:Expr}{xs:List Expr}{env:Env}(h:jv xs env):jv (gV nm t y::xs) env:=(qm nm t y xs env).trans (congrArg _ h)
theorem ny{a b:Tg}{x y:V}(hu:Hl v=some [x,y])(w:qp G gl n a x U O (HH G gl n b y R)):qp G gl n (.g9 a b) v U O R:=fun hg zz zz zz zz h hs=>
 Hg (eQ (eQ mD)) (xN hu) rfl (gF.mono (w hg _ _ _ _ (aL h) hs) fun a9 aA w1=>w1 hg _ _ _ _ (aR h) hs)
theorem Ed{a b c:Tg}{x y z:V}(hu:Hl v=some [x,y,z])(w:qp G gl n a x U O (HH G gl n b y (HH G gl n c z R))):qp G gl n (.CQ a b c) v U O R:=fun hg zz zz zz zz h hs=>
 Hg (eQ (eQ (eQ mD))) (xN hu) rfl (gF.mono (w hg _ _ _ _ (aL (aL h)) hs) fun a9 aA w1=>gF.mono (w1 hg _ _ _ _ (aR (aL h)) hs) fun b9 aZ w2=>w2 hg _ _ _ _ (aR h) hs)
end
section
variable{Q:Fl→aw→Mu→Prop}
def wpS(G:dk)(gl:Nat→Option Value)(n:Nat)(t:S)(U:aw)(O:Mu)(Q:Fl→aw→Mu→Prop):Prop:=qo G gl→∀ (sc:Scope) (own:List Nat) (y:Stmt) (env:Env),sc.kind=.function→tR G.nm t sc own y=true→env.scope=sc→cn G n env own (exec (pB G.nm t y) env) U O Q
def aX(G:dk)(gl:Nat→Option Value)(n:Nat)(t:Ss)(U:aw)(O:Mu)(Q:Fl→aw→Mu→Prop):Prop:=qo G gl→∀ (sc:Scope) (own:List Nat) (ys:List Stmt) (env:Env),sc.kind=.function→cW G.nm t sc own ys=true→env.scope=sc→cn G n env own (execs (dP G.nm t ys) env) U O Q
section
variable(G:dk)(gl:Nat→Option Value)(n:Nat)
abbrev Yu(Q:Fl→aw→Mu→Prop)(U:aw):V→Mu→Prop:=fun zz O=>Q .next U O
abbrev Yv(t:Tg)(U:aw)(Q:Fl→aw→Mu→Prop):V→Mu→Prop:=fun v O=>qp G gl n t v U O (Q .next)
abbrev UL(t u z:Tg)(U:aw)(Q:Fl→aw→Mu→Prop):V→Mu→Prop:=fun v O=>qp G gl n t v U O (HH G gl n u v (HH G gl n z v (Q .next)))
abbrev N8(Q:Fl→aw→Mu→Prop)(U:aw)(x:Nat):V→Mu→Prop:=fun v O=>Q .next (set U x v) O
abbrev UM(op:Operator)(v:V)(x:Nat)(U:aw)(Q:Fl→aw→Mu→Prop):V→Mu→Prop:=fun u O=>AK G n op v u O (N8 Q U x)
abbrev UN(b e:Ss)(U:aw)(Q:Fl→aw→Mu→Prop):Bool→Mu→Prop:=fun c O=>match c with|true=>aX G gl n b U O Q|false=>aX G gl n e U O Q
abbrev UO(J:Nat→aw→Mu→Prop)(k:Nat)(Q:Fl→aw→Mu→Prop):Fl→aw→Mu→Prop:=fun r fJ cT=>match r with
    |.next=>∃m,m<k∧J m fJ cT
    |.cont=>∃m,m<k∧J m fJ cT
    |.brk=>Q .next fJ cT
    |.ret v=>Q (.ret v) fJ cT
abbrev Yw(b:Ss)(J:Nat→aw→Mu→Prop)(k:Nat)(U:aw)(Q:Fl→aw→Mu→Prop):Bool→Mu→Prop:=fun c ar=>match c with
   |true=>aX G gl n b U ar (UO J k Q)
   |false=>Q .next U ar
abbrev UP(x:Nat)(b:Ss):V→aw→Mu→(Fl→aw→Mu→Prop)→Prop:=fun v U O k=>aX G gl n b (set U x v) O k
abbrev Yx(x:Nat)(b:Ss)(U:aw)(Q:Fl→aw→Mu→Prop):V→Mu→Prop:=fun v O=>∃xs,Iter G v O xs∧forL (UP G gl n x b) xs U O Q
abbrev Yy(Q:Fl→aw→Mu→Prop)(U:aw):V→Mu→Prop:=fun v O=>Q (.ret v) U O
abbrev Yz(r:Ss)(Q:Fl→aw→Mu→Prop):Fl→aw→Mu→Prop:=fun f U O=>match f with | .next=>aX G gl n r U O Q|f=>Q f U O
end
theorem Ee{e:E}(w:cC G gl n e U O (Yu Q U)):wpS G gl n (.expr e:S) U O Q:=fun hg zz zz zz zz hk h hs=>
 CH (w hg _ _ _ (aR h) hs).tr (by unfold interactive;rw[hs,hk];rfl) (dq (aL h) _ _ _)
theorem HJ{e:E}{t:Tg}(ht:t.name?.isSome=false)(w:cC G gl n e U O (Yv G gl n t U Q)):wpS G gl n (.asg t e:S) U O Q:=fun hg zz zz zz zz hk h hs=>
 xM (eQ mD) (dq ((Bool.or_eq_true_iff.mp (aR (aL h))).resolve_right (by rw[ht];exact Bool.false_ne_true)) _ _ _) (sU hs (aR h)) (bz.mono (w hg _ _ _ (aR (aL (aL h))) hs).tr fun v aA w1=>w1 hg _ _ _ _ (aL (aL (aL h))) hs)
theorem wg{e:E}{x:Nat}(w:cC G gl n e U O (N8 Q U x)):wpS G gl n (.asg (.name x) e:S) U O Q:=fun hg sc own y env hk h hs=>by
 have w':=w hg _ _ _ (aR (aL (aL h))) hs;have ho:=fA (x:=x) (own:=own) hs (fun zz=>rfl) (aL (aL (aL h)));have ha:=fun(hz:swapsWith (bH G.nm e (sk 0 y)) (some (.Name (G.nm x) (sk 1 y).pos)) y.pos.line env=pure false)=>xM (own:=own) (Q:=Q) (ts:=[gV G.nm (.name x) (sk 1 y)]) (pos:=y.pos) (eQ mD) hz (sU hs (aR h)) (bz.mono w'.tr fun u aA q=>m9 ho q);cases hc:e.kd==3 with
 |false=>exact ha (dq (by rw[hc];rfl) _ _ _)
 |true=>
  obtain⟨hz,hN⟩:=w'.nm hc;obtain⟨z,hz⟩:=hz (G.nm x) (sk 1 y).pos y.pos.line;cases z with
  |true=>exact hN ho hz fun zz zz q=>q
  |false=>exact ha hz
theorem Ef{e:E}{t u z:Tg}(w:cC G gl n e U O (UL G gl n t u z U Q)):wpS G gl n (.CR t u z e:S) U O Q:=fun hg zz zz zz zz hk h hs=>
 xM (eQ (eQ (eQ mD))) rfl (sU hs (aR h)) (bz.mono (w hg _ _ _ (aR (aL h)) hs).tr fun v aA w1=>
  gF.mono (w1 hg _ _ _ _ (aL (aL (aL (aL h)))) hs) fun zz zz w2=>gF.mono (w2 hg _ _ _ _ (aR (aL (aL (aL h)))) hs) fun zz zz w3=>w3 hg _ _ _ _ (aR (aL (aL h))) hs)
def UQ(xs:List Nat)(U:aw)(O:Mu)(Q:Fl→aw→Mu→Prop)(v:V):Prop:=∃vs,Hl v=some vs∧vs.length=xs.length∧Q .next (bc U (xs.reverse.zip vs.reverse)) O
theorem UR{xs:List Nat}{vs:List V}(hl:vs.length=xs.length)(h:Q .next (bc U (xs.reverse.zip vs.reverse)) O):UQ xs U O Q (.tuple vs):=⟨vs,rfl,hl,h⟩
abbrev US(xs:List Nat)(U:aw)(Q:Fl→aw→Mu→Prop):V→Mu→Prop:=fun v O=>UQ xs U O Q v
theorem AX{xs:List Nat}{e:E}(w:cC G gl n e U O (US xs U Q)):wpS G gl n (.kz xs e) U O Q:=fun hg zz zz y env hk h hs=>
 Hh (fun z hz=>fA hs (fun zz=>rfl) (List.all_eq_true.mp (aL (aL (aL h))) z hz)) (dq (aR (aL h)) (some (.Tuple (ks (sk 1 y)) (pt (sk 1 y)).2.1 (sk 1 y).pos)) y.pos.line env) (sU hs (aR h)) (bz.mono (w hg _ _ _ (aR (aL (aL h))) hs).tr fun v aA ⟨vs,hu,w1⟩=>⟨vs,xN hu,w1⟩)
theorem HK{x:Nat}{op:Operator}{e:E}{v:V}(hv:get U x=some v)(w:cC G gl n e U O (UM G n op v x U Q)):wpS G gl n (.aug x op e) U O Q:=fun hg zz zz zz zz hk h hs=>
 PF (fA hs (fun zz=>rfl) (aL h)) hv (w hg _ _ _ (aR h) hs).tr
theorem HL{t:T}{b e:Ss}(w:tU G gl n t U O (UN G gl n b e U Q)):wpS G gl n (.iff t b e:S) U O Q:=fun hg zz zz zz zz hk h hs=>by
 refine NY (fX.mono (w hg _ _ _ (aL (aL h)) hs) fun c aA w1=>?_);cases c with
 |true=>exact w1 hg _ _ _ _ hk (aR (aL h)) hs
 |false=>exact w1 hg _ _ _ _ hk (aR h) hs
theorem Eg{t:T}{b:Ss}(J:Nat→aw→Mu→Prop)(k0:Nat)(h0:J k0 U O)(w:∀k U O,J k U O→tU G gl n t U O (Yw G gl n b J k U Q)):wpS G gl n (.rb t b:S) U O Q:=fun hg zz zz zz zz hk h hs=>by
 refine GR J k0 h0 fun k U O hj=>fX.mono (w k U O hj hg _ _ _ (aL h) hs) fun c aA w1=>?_;cases c with
 |true=>exact w1 hg _ _ _ _ hk (aR h) hs
 |false=>exact w1
theorem gN{x:Nat}{it:E}{b:Ss}(w:cC G gl n it U O (Yx G gl n x b U Q)):wpS G gl n (.for x it b:S) U O Q:=fun hg zz own y env hk h hs=>by
 refine PJ (bz.mono (w hg _ _ _ (aR (aL h)) hs).tr fun v aA ⟨xs,hi,w1⟩=>⟨xs,hi,?_⟩) (gh _ _ _ env) (fun zz zz=>rfl);exact lr (st':=fun v U O k=>gF G n env own (assign (.Name (G.nm x) (sk 0 y).pos) env) v U O fun ao ar=>cn G n env own (execs (dP G.nm b (sb 0 y)) env) ao ar k) (fun v U O k gL=>m9 (fA hs (fun zz=>rfl) (aL (aL h))) (gL hg _ _ _ _ hk (aR h) hs)) (fun v U O k k' Eh fY=>gF.mono fY fun ao ar pg=>cn.mono pg Eh) w1
theorem t4{e:E}(w:cC G gl n e U O (Yy Q U)):wpS G gl n (.ret e:S) U O Q:=fun hg zz zz zz zz hk h hs=>GK (w hg _ _ _ h hs).tr
theorem Ei(w:Q (.ret .none) U O):wpS G gl n (.Ht:S) U O Q:=fun zz zz zz zz zz zz zz zz=>Ky w
theorem HM(w:Q .brk U O):wpS G gl n (.brk:S) U O Q:=fun zz zz zz zz zz zz zz zz=>PE w
theorem eB(w:Q .next U O):aX G gl n (.nil:Ss) U O Q:=fun zz zz zz zz zz zz zz zz=>xC w
theorem ic{s:S}{r:Ss}(w:wpS G gl n s U O (Yz G gl n r Q)):aX G gl n (.cons s r:Ss) U O Q:=fun hg zz zz zz zz hk h hs=>by
 refine j0 (cn.mono (w hg _ _ _ _ hk (aL h) hs) fun f a9 aA w1=>?_);cases f with
 |next=>exact w1 hg _ _ _ _ hk (aR h) hs
 |brk=>exact w1
 |cont=>exact w1
 |ret v=>exact w1
theorem nz{x:Nat}{r:Ss}{i:Nat}{xs:List V}(hx:get U x=some (.ml i))(hi:(O[i]?:Option (Option (List V)))=some (some xs))(w:aX G gl n r (set U x (.list xs)) (O.set i none) Q):aX G gl n (.sa x r) U O Q:=fun hg sc own ys env hk h hs=>
 K1 hx hi (w hg _ _ _ _ hk h hs)
end
def qq(nm:Nat→Str)(e:E)(sc:Scope)(x:Expr):Prop:=bP nm e sc x=true∧bH nm e x=x
def xU(nm:Nat→Str)(e:T)(sc:Scope)(x:Expr):Prop:=mA nm e sc x=true∧my nm e x=x
def HN(nm:Nat→Str)(sc:Scope)(own:List Nat)(t:Tg)(x:Expr):Prop:=jA nm sc own t x=true∧gV nm t x=x
def mE(nm:Nat→Str)(st:S)(sc:Scope)(own:List Nat)(x:Stmt):Prop:=tR nm st sc own x=true∧pB nm st x=x
section
variable{nm:Nat→Str}(hn:∀x,G.nm x=nm x)(hg:∀x v,gl x=some v→G.gl x=some v)
include hn in
theorem qr:nm=G.nm:=funext fun x=>(hn x).symm
include hn hg
theorem dE(e:E){sc:Scope}{y:Expr}{env:Env}{Q:V→Mu→Prop}(h:bP nm e sc y=true)(hs:env.scope=sc)(w:cC G gl n e U O Q):bz G n env (eval (bH nm e y) env) U O Q:=by
 cases qr hn;exact(w hg _ _ _ h hs).tr
theorem kR(e:Es){sc:Scope}{ys:List Expr}{env:Env}{pos:Pos}{Q:List V→Mu→Prop}(h:iS nm e sc ys=true)(hs:env.scope=sc)(w:mC G gl n e U O Q):eZ G n env (spliced (backTo pos (starEach (jy nm e ys) env))) U O Q:=by
 cases qr hn;exact w hg _ _ _ _ h hs
theorem nA(t:T){sc:Scope}{y:Expr}{env:Env}{Q:Bool→Mu→Prop}(h:mA nm t sc y=true)(hs:env.scope=sc)(w:tU G gl n t U O Q):fX G n env (isTrue (my nm t y) env (eval (my nm t y) env)) U O Q:=by
 cases qr hn;exact w hg _ _ _ h hs
theorem xV{sc:Scope}{own:List Nat}(t:Tg){y:Expr}{env:Env}{v:V}{R:aw→Mu→Prop}(h:jA nm sc own t y=true)(hs:env.scope=sc)(w:qp G gl n t v U O R):gF G n env own (assign (gV nm t y) env) v U O R:=by
 cases qr hn;exact w hg _ _ _ _ h hs
theorem sX(st:S){sc:Scope}{own:List Nat}{y:Stmt}{env:Env}{Q:Fl→aw→Mu→Prop}(hk:sc.kind=.function)(h:tR nm st sc own y=true)(hs:env.scope=sc)(w:wpS G gl n st U O Q):cn G n env own (exec (pB nm st y) env) U O Q:=by
 cases qr hn;exact w hg _ _ _ _ hk h hs
theorem eM(st:Ss){sc:Scope}{own:List Nat}{ys:List Stmt}{env:Env}{Q:Fl→aw→Mu→Prop}(hk:sc.kind=.function)(h:cW nm st sc own ys=true)(hs:env.scope=sc)(w:aX G gl n st U O Q):cn G n env own (execs (dP nm st ys) env) U O Q:=by
 cases qr hn;exact w hg _ _ _ _ hk h hs
theorem zi(e:E){sc:Scope}{x:Expr}{env:Env}{Q:V→Mu→Prop}(h:qq nm e sc x)(hs:env.scope=sc)(w:cC G gl n e U O Q):bz G n env (eval x env) U O Q:=h.2▸dE hn hg e h.1 hs w
theorem t5(t:T){sc:Scope}{x:Expr}{env:Env}{Q:Bool→Mu→Prop}(h:xU nm t sc x)(hs:env.scope=sc)(w:tU G gl n t U O Q):fX G n env (isTrue x env (eval x env)) U O Q:=h.2▸nA hn hg t h.1 hs w
theorem HO{sc:Scope}{own:List Nat}(t:Tg){x:Expr}{env:Env}{v:V}{R:aw→Mu→Prop}(h:HN nm sc own t x)(hs:env.scope=sc)(w:qp G gl n t v U O R):gF G n env own (assign x env) v U O R:=h.2▸xV hn hg t h.1 hs w
theorem HP(st:S){sc:Scope}{own:List Nat}{x:Stmt}{env:Env}{Q:Fl→aw→Mu→Prop}(hk:sc.kind=.function)(h:mE nm st sc own x)(hs:env.scope=sc)(w:wpS G gl n st U O Q):cn G n env own (exec x env) U O Q:=h.2▸sX hn hg st hk h.1 hs w
end
end
section
variable{n:Nat}{O:Mu}{Q:V→Mu→Prop}
theorem fg{f:Value}{v:V}(h:∀A,bY n A→∀B Z s x,Inv G B Z O s.heap→VR B Z v x→wpAny (model G.prog G.w) A (call f [x]) (PV G B Z s Q) bM s):aU G n f [v] [] O Q:=by
 intro A hA B Z s xs ks I rv rk;refine aB.aN rv ?_;intro x us r rs;rw[aB.ff rs,aB.ff rk];exact h A hA B Z s x I r
theorem ie{f:Value}{v u:V}(h:∀A,bY n A→∀B Z s x y,Inv G B Z O s.heap→VR B Z v x→VR B Z u y→wpAny (model G.prog G.w) A (call f [x,y]) (PV G B Z s Q) bM s):aU G n f [v,u] [] O Q:=by
 intro A hA B Z s xs ks I rv rk;refine aB.aN rv ?_;intro x us r rs;refine aB.aN rs ?_;intro y us r2 rs;rw[aB.ff rs,aB.ff rk];exact h A hA B Z s x y I r r2
theorem PV.keeps{B:ay}{Z:List Addr}{s:Shared}{v:V}{x:Value}{h':Heap}{tk:Nat}(I:Inv G B Z O s.heap)(k:∀b o,s.heap.get? b=some o→h'.get? b=some o)(r:VR B Z v x)(q:Q v O):PV G B Z s Q x {s with heap:=h',toks:=tk}:=
 ⟨v,O,B,Z,q,I.kr k (fun zz m=>nomatch m),r⟩
theorem cM{xs:List V}(bG:xs.length<2 ^ 62)(q:Q (.int xs.length) O):bD G n (.raw (.builtin "len")) [.list xs] [] O Q:=by
 refine bD.machine (fun zz e=>by cases e) (fg fun A hA B Z s x I r=>?_)
 refine br (held I r) ?_;intro a vs k z1;subst z1;intro g r1 zz;refine call_len_list (items:=vs.toArray) ⟨_,g,rfl,k,rfl⟩ (by simp[←r1.1];exact OW bG) ?_
 rw[show vs.toArray.size=xs.length by simp[r1.1]]
 exact PV.here I .int q
theorem fh{i:Nat}{xs:List V}(hi:O[i]?=some (some xs))(bG:xs.length<2 ^ 62)(q:Q (.int xs.length) O):bD G n (.raw (.builtin "len")) [.ml i] [] O Q:=by
 refine bD.machine (fun zz e=>by cases e) (fg fun A hA B Z s x I r=>?_)
 refine br (resolve I hi r) ?_;intro a vs k z1;subst z1;intro g r1 zz;refine call_len_list (items:=vs.toArray) ⟨_,g,rfl,k,rfl⟩ (by simp[←r1.1];exact OW bG) ?_
 rw[show vs.toArray.size=xs.length by simp[r1.1]]
 exact PV.here I .int q
theorem n5{xs:List V}(bG:xs.length<2 ^ 62)(q:Q (.int xs.length) O):bD G n (.raw (.builtin "len")) [.tuple xs] [] O Q:=by
 refine bD.machine (fun zz e=>by cases e) (fg fun A hA B Z s x I r=>?_)
 refine br (qj I r) ?_;intro a vs k z1;subst z1;intro g r1 zz;refine P.len_tuple (items:=vs.toArray) (n:=k) g (by simp[←r1.1];exact OW bG) ?_
 rw[show vs.toArray.size=xs.length by simp[r1.1]]
 exact PV.here I .int q
theorem zj{x:Str}(bG:x.length<2 ^ 62)(q:Q (.int x.length) O):bD G n (.raw (.builtin "len")) [.str x] [] O Q:=by
 refine bD.machine (fun zz e=>by cases e) (fg fun A hA B Z s y I r=>?_)
 refine VR.fQ r ?_;intro zz;exact PyProof.Rows.len_str (by exact ag 1 0 (aa (ak ab (nk (2 ^ 62))) (dH (ai (zk (2 ^ 63)) (az ab)))) (by kd_p) bG) (PV.here I .int q)
theorem dY{a:Int}(q:Q (.gE 0 a) O):bD G n (.raw (.type "range")) [.int a] [] O Q:=by
 refine bD.machine (fun zz e=>by cases e) (fg fun A hA B Z s x I r=>?_)
 refine VR.bC r ?_;intro zz;refine call_range_1 ?_;exact⟨_,_,_,_,q,I.push rfl,.gE (ay.c9 ..)⟩
theorem oD{a b:Int}(q:Q (.gE a b) O):bD G n (.raw (.type "range")) [.int a,.int b] [] O Q:=by
 refine bD.machine (fun zz e=>by cases e) (ie fun A hA B Z s x y I r r2=>?_)
 refine VR.bC r ?_;intro zz;refine VR.bC r2 ?_;intro zz;refine call_range_2 ?_;exact⟨_,_,_,_,q,I.push rfl,.gE (ay.c9 ..)⟩
theorem K3{a:Int}(q:Q (.int (if a<0 then -a else a)) O):bD G n (.raw (.builtin "abs")) [.int a] [] O Q:=by
 refine bD.machine (fun zz e=>by cases e) (fg fun A hA B Z s x I r=>?_)
 refine VR.bC r ?_;intro zz;exact call_abs_int fun u tk=>PV.here I .int q
theorem zl{a b:Int}(q:Q (.int (max a b)) O):bD G n (.raw (.builtin "max")) [.int a,.int b] [] O Q:=by
 refine bD.machine (fun zz e=>by cases e) (ie fun A hA B Z s x y I r r2=>?_)
 refine VR.bC r ?_;intro zz;refine VR.bC r2 ?_;intro zz;refine max_two_ints hA.handled fun h' tk k=>?_
 by_cases hc:b>a
 ·rw[if_pos hc];rw[show max a b=b by exact ag 0 2 (aa (aM aK aq) (aS (xq aK aq) aq)) (by kd_p) hc]at q;exact PV.keeps I k .int q
 ·rw[if_neg hc];rw[show max a b=a by exact ag 0 2 (aa (dH (aM aK aq)) (aS (xq aK aq) aK)) (by kd_p) hc]at q;exact PV.keeps I k .int q
theorem AY{a b:Int}(hb:b≠0)(hs:b.natAbs.log2<9000)(q:Q (.tuple [.int (a.fdiv b),.int (a.fmod b)]) O):bD G n (.raw (.builtin "divmod")) [.int a,.int b] [] O Q:=by
 refine bD.machine (fun zz e=>by cases e) (ie fun A hA B Z s x y I r r2=>?_)
 refine VR.bC r ?_;intro zz;refine VR.bC r2 ?_;intro zz;refine divmod_int hb ?_ (.inl (PyProof.noPylong_of_log2 (by omega)))
 have:=N2 (Q:=Q) (s:={s with toks:=s.toks+1+1}) I (vs:=[.int (a.fdiv b) s.toks,.int (a.fmod b) (s.toks+1)]) (.cons .int (.cons .int .nil)) q
 exact PV.after (I.tq (t:=s.toks+1+1)) this
theorem ints_of{B:ay}{Z:List Addr}:∀ {ns:List Int} {vs:List Value},aB B Z (ns.map .int) vs→∃xs:List (Int×Tok),vs=xs.map (fun p=>.int p.1 p.2)∧xs.map (·.1)=ns
 |[],vs,h=>⟨[],by rw[aB.ff h];rfl,rfl⟩
 |k::ns,vs,h=>by
  refine aB.aN h ?_;intro v us r rs;refine aW (ints_of rs) ?_;intro xs z1;subst z1;intro e;refine VR.bC r ?_;intro _;rename_i t;exact⟨(k,t)::xs,rfl,by rw[←e];rfl⟩
theorem wi{B:ay}{Z:List Addr}{ns:List Int}{vs:List Value}(h:aB B Z (ns.map .int) vs):∃xs:Array (Int×Tok),vs.toArray=intItems xs∧xs.toList.map (·.1)=ns:=by
 refine aW (ints_of h) ?_;intro xs z1;subst z1;intro e;exact⟨xs.toArray,by simp[intItems],by simpa using e⟩
theorem CS{ns:List Int}(q:Q (.int ns.sum) O):bD G n (.raw (.builtin "sum")) [.list (ns.map .int)] [] O Q:=by
 refine bD.machine (fun zz e=>by cases e) (fg fun A hA B Z s x I r=>?_)
 refine br (held I r) ?_;intro a vs k z1;subst z1;intro g r1 zz;refine aW (wi r1) ?_;intro xs e1 e2;refine sum_intListG hA.handled (l:=a) (xs:=xs) (e1▸⟨_,g,rfl,k,rfl⟩) fun h' tk t' hk=>?_;have e:preSum (numAt xs) xs.size=ns.sum:=by rw[preSum_eq,List.take_of_length_le (by simp),e2]
 rw[e];exact PV.keeps I hk .int q
theorem K4{ns:List Int}{m:Int}(hm:m∈ns)(hle:∀a∈ns,m≤a)(q:Q (.int m) O):bD G n (.raw (.builtin "min")) [.list (ns.map .int)] [] O Q:=by
 refine bD.machine (fun zz e=>by cases e) (fg fun A hA B Z s x I r=>?_)
 refine br (held I r) ?_;intro a vs k z1;subst z1;intro g r1 zz;refine aW (wi r1) ?_;intro xs e1 e2;have hl:xs.size=ns.length:=by rw[←e2];simp
 have hp:0<ns.length:=List.length_pos_of_mem hm;refine min_intList hA.handled (l:=a) (xs:=xs) (e1▸⟨_,g,rfl,k,rfl⟩) (by exact ag 2 0 (aa (ax af ab) (aa (ak b6 ab) (ak b6 af))) (by kd_p) hl hp) fun v h' tk hv hk=>?_
 obtain⟨t,rfl⟩:=intItems_at hv;obtain⟨h1,h2⟩:=argBest_lt (numAt xs) (xs.size-1);have num:∀j,numAt xs j=ns.getD j 0:=fun j=>by rw[numAt_eq,e2]
 have e:numAt xs (argBest (fun i j=>decide (numAt xs i<numAt xs j)) (xs.size-1))=m:=by
  obtain⟨j,hj,rfl⟩:=List.mem_iff_getElem.mp hm;have l1:=h2 j (by exact ag 3 0 (aa (ax af ab) (aa (ak b6 ab) (aa (ak au ab) (ae au (bb af aC))))) (by kd_p) hl hp hj)
  have e3:numAt xs j=ns[j]:=by rw[num];simp[List.getD,hj]
  rw[e3]at l1;have hb:argBest (fun i j=>decide (numAt xs i<numAt xs j)) (xs.size-1)<ns.length:=by exact ag 4 0 (aa (ax af au) (aa (ak b6 au) (aa (ae aO (bb af aC)) (aa (ak ab au) (ak aO au))))) (by kd_p) hl hp h1 hj
  have l2:=hle (ns[argBest (fun i j=>decide (numAt xs i<numAt xs j)) (xs.size-1)]) (List.getElem_mem _);have e4:numAt xs (argBest (fun i j=>decide (numAt xs i<numAt xs j)) (xs.size-1))=ns[argBest (fun i j=>decide (numAt xs i<numAt xs j)) (xs.size-1)]:=by
   rw[num];simp[List.getD,hb]
  exact ag 3 4 (aa (ak au af) (aa (ai fw cu) (aa (aS aK cu) (aa (ak ab af) (aa (ai cu aq) (aa (aS fw aq) (aS fw cu))))))) (by kd_p) hj l1 e3 hb l2 e4
 rw[e];exact PV.keeps I hk .int q
theorem Ej{i:Nat}{xs:List V}(hi:O[i]?=some (some xs))(bG:xs.length≤sizeLine)(q:Q (.tuple xs) O):bD G n (.raw (.type "tuple")) [.ml i] [] O Q:=by
 refine bD.machine (fun zz e=>by cases e) (fg fun A hA B Z s x I r=>?_)
 refine br (resolve I hi r) ?_;intro a vs k z1;subst z1;intro g r1 zz;refine call_tuple_list (items:=vs.toArray) ⟨_,g,rfl,k,rfl⟩ (fun h' hk=>?_) (by simp[←r1.1];exact bG)
 have P:aG G [] B Z s B Z O {s with heap:=h'}:=I.kr (t:=s.toks) hk (fun zz m=>nomatch m)
 exact PV.after P (N2 (s:={s with heap:=h'}) P.inv (vs:=vs) (r1.any Z) q)
theorem jx.builtin{T id:String}{name:Str}{v:V}(pa:PlainAttrs T)(slot:Slot T name id)(Ql:typeOf (.builtin id)=pure (.type "method_descriptor"))
  (h:∀ (B:ay) (Z:List Addr) (s:Shared) (x:Value),Inv G B Z O s.heap→VR B Z v x→s.TypeIs x T∧∀a,x=.ref a→∃ob,s.heap.get? a=some ob∧ob.dict=none):jx G name v O (.builtin id):=
 ⟨fun zz zz=>⟨.machine,.inr (.inl rfl),Looks.of_pure rfl⟩,fun A B Z s x pl Q E I r q=>let⟨a,b⟩:=h B Z s x I r;getMethod_builtin a pa slot Ql b q⟩
theorem HQ{xs:List V}:∀ (B:ay) (Z:List Addr) (s:Shared) (x:Value),Inv G B Z O s.heap→VR B Z (.list xs) x→s.TypeIs x "list"∧∀a,x=.ref a→∃ob,s.heap.get? a=some ob∧ob.dict=none:=by
 intro B Z s x I r;refine br (held I r) ?_;intro a vs k z1;subst z1;intro g r1 zz;exact⟨⟨_,g,rfl⟩,fun b e=>by cases e;exact⟨_,g,rfl⟩⟩
theorem AZ{i:Nat}{xs:List V}(hi:O[i]?=some (some xs)):∀ (B:ay) (Z:List Addr) (s:Shared) (x:Value),Inv G B Z O s.heap→VR B Z (.ml i) x→s.TypeIs x "list"∧∀a,x=.ref a→∃ob,s.heap.get? a=some ob∧ob.dict=none:=by
 intro B Z s x I r;refine br (resolve I hi r) ?_;intro a vs k z1;subst z1;intro g r1 zz;exact⟨⟨_,g,rfl⟩,fun b e=>by cases e;exact⟨_,g,rfl⟩⟩
theorem fB{i:Nat}{xs:List V}(hi:O[i]?=some (some xs)):jx G "append" (.ml i) O (.builtin "list.append"):=.builtin F.plainAttrs_list F.slot_list_append F.type_list_append (AZ hi)
theorem fC{i:Nat}{xs:List V}{v:V}(hi:O[i]?=some (some xs))(bG:xs.length≤sizeLine)(hc:Cl v)(q:Q .none (O.set i (some (xs++[v])))):aU G n (.builtin "list.append") [.ml i,v] [] O Q:=by
 refine ie fun A hA B Z s x y I r r2=>?_;refine br (resolve I hi r) ?_;intro a vs k z1;subst z1;intro g r1 ha;refine q6 g (by rw[←r1.1];exact bG) fun h' k' e' hs=>?_
 exact⟨_,_,_,_,q,I.xx (t:=s.toks) ha hi (r1.append (.cons (r2.clean hc []) .nil)) e' hs,.none⟩
theorem vv{i:Nat}{xs:List V}(hi:O[i]?=some (some xs)):jx G "reverse" (.ml i) O (.builtin "list.reverse"):=.builtin F.plainAttrs_list F.slot_list_reverse F.type_list_reverse (AZ hi)
theorem vw{i:Nat}{xs:List V}(hi:O[i]?=some (some xs))(bG:xs.length≤sizeLine)(q:Q .none (O.set i (some xs.reverse))):aU G n (.builtin "list.reverse") [.ml i] [] O Q:=by
 refine fg fun A hA B Z s x I r=>?_;refine br (resolve I hi r) ?_;intro a vs k z1;subst z1;intro g r1 ha;refine call_meets F.slot_list_reverse ⟨_,g,rfl⟩ F.entry_list_reverse (F.args_list_reverse_1 _) (AutoSeq1.list_reverse_list_0 a vs.toArray k (by simp[←r1.1];exact bG)) ⟨g,?_⟩
 have e:=IsL.update (h:=s.heap) (l:=a) g (fun x=>x.reverse);rw[show vs.toArray.reverse=vs.reverse.toArray by simp]at e
 exact⟨_,_,_,_,q,I.xx (t:=s.toks) ha hi r1.reverse e (Heap.SameBut.update ..),.none⟩
theorem xW{i:Nat}{xs:List V}(hi:O[i]?=some (some xs)):jx G "insert" (.ml i) O (.builtin "list.insert"):=.builtin F.plainAttrs_list F.slot_list_insert F.type_list_insert (AZ hi)
theorem dr{xs:List V}:jx G "count" (.list xs) O (.builtin "list.count"):=.builtin F.plainAttrs_list F.slot_list_count F.type_list_count HQ
theorem oE{x:Str}:jx G "join" (.str x) O (.builtin "str.join"):=.builtin F.plainAttrs_str F.slot_str_join F.type_str_join fun B Z s y I r=>by refine VR.fQ r ?_;intro zz;exact⟨typeIs_str _ _ _,fun zz e=>by cases e⟩
theorem ig{a:Int}:jx G "bit_length" (.int a) O (.builtin "int.bit_length"):=.builtin F.plainAttrs_int F.slot_int_bit_length F.type_int_bit_length fun B Z s y I r=>by refine VR.bC r ?_;intro zz;exact⟨typeIs_int _ _ _,fun zz e=>by cases e⟩
theorem ij{a:Int}(q:Q (.int (Builtin.Int.intBits a)) O):aU G n (.builtin "int.bit_length") [.int a] [] O Q:=by
 refine fg fun A hA B Z s x I r=>?_;refine VR.bC r ?_;intro zz;exact call_int_bit_length (PV.here I .int q)
theorem dQ{ns:List Int}{k:Int}(q:Q (.int (ns.count k:Nat)) O):aU G n (.builtin "list.count") [.list (ns.map .int),.int k] [] O Q:=by
 refine ie fun A hA B Z s x y I r r2=>?_;refine br (held I r) ?_;intro a vs m z1;subst z1;intro g r1 _;refine aW (ints_of r1) ?_;intro xs z1;subst z1;intro e;refine VR.bC r2 ?_;intro _;rename_i t;refine call_meets F.slot_list_count ⟨_,g,rfl⟩ F.entry_list_count (F.args_list_count_2 _ _) (MeetsSeq.list_count a _ m (.int k t) (fun y=>match y with | .int j _=>j==k|_=>false) fun y hy=>?_) ⟨g,?_⟩
 ·simp at hy
  refine jX hy ?_;clear hy;intro j u _ z1;subst z1;exact MeetsSeq.EqGives.int j k u t
 ·have:(List.map (fun p:Int×Tok=>Value.int p.1 p.2) xs).toArray.toList.countP (fun y=>match y with | .int j _=>j==k|_=>false)=ns.count k:=by
   rw[←e];simp[List.countP_map,List.count,Function.comp_def]
  rw[this];exact PV.here I .int q
theorem xX{i:Nat}{xs:List V}{k:Int}{v:V}(hi:O[i]?=some (some xs))(h0:0≤k)(hk:k≤xs.length)(bG:xs.length≤sizeLine)(hc:Cl v)(q:Q .none (O.set i (some (xs.take k.toNat++v::xs.drop k.toNat)))):aU G n (.builtin "list.insert") [.ml i,.int k,v] [] O Q:=by
 intro A hA B Z s us ks I rv rk;refine aB.aN rv ?_;intro x us r rs;refine aB.aN rs ?_;intro y us r2 rs;refine aB.aN rs ?_;intro z us r3 rs;rw[aB.ff rs,aB.ff rk];refine br (resolve I hi r) ?_;intro a vs m z1;subst z1;intro g r1 ha;refine VR.bC r2 ?_;intro _;rename_i t;have Ek:k≤16777216:=by have h:=bG;rw[sizeLine_eq]at h;exact ag 1 1 (aa (ai aq (az ab)) (aa (ae ab bq) (ai aq (zk 16777216)))) (by kd_p) hk h
 have js:¬(!Builtin.List.listFitsIndex k)=true:=by
  have e:Builtin.List.listFitsIndex k=true:=by
   clear bG q hi ha g;simp[Builtin.List.listFitsIndex];exact ag 0 1 (aa (ai aJ aq) (aa (ai aq (zk 16777216)) (aT (ai (zk (-9223372036854775808)) aq) (aM aq (zk 9223372036854775808))))) (by kd_p) h0 Ek
  rw[e];simp
 have YA:xs.length=vs.length:=r1.1;have hz:vs.toArray.size≤sizeLine:=by
  have e:vs.toArray.size=xs.length:=by simp[r1.1]
  rw[e];exact bG
 refine call_meets F.slot_list_insert ⟨_,g,rfl⟩ F.entry_list_insert (F.args_list_insert_3 _ _ _) (AutoSeq1.list_insert_list_int_val_1 a vs.toArray m k t z js hz) ⟨g,?_⟩;have e:=IsL.update (h:=s.heap) (l:=a) g (fun xs=>have j:=if k<0 then(k+(xs.size:Int)).toNat else min k.toNat xs.size;(xs.extract 0 j).push z++xs.extract j)
 have e2:(have j:=if k<0 then(k+(vs.toArray.size:Int)).toNat else min k.toNat vs.toArray.size;(vs.toArray.extract 0 j).push z++vs.toArray.extract j)=(vs.take k.toNat++z::vs.drop k.toNat).toArray:=by
  rw[if_neg (by exact ag 0 1 (aa (ai aJ aq) (aa (ai aq (zk 16777216)) (dH (aM aq aJ)))) (by kd_p) h0 Ek)]
  have e3:min k.toNat vs.toArray.size=k.toNat:=by simp;exact ag 2 1 (aa (ai aJ aq) (aa (ai aq (az ab)) (aa (ai aq (zk 16777216)) (aa (ax ab af) (ax (jP (dz aq) af) (dz aq)))))) (by kd_p) h0 hk Ek YA
  rw[e3];apply Array.ext';simp;exact List.take_of_length_le (by simp)
 rw[e2]at e;have r':aB B [] (xs.take k.toNat++v::xs.drop k.toNat) (vs.take k.toNat++z::vs.drop k.toNat):=(r1.take _).append (.cons (r3.clean hc []) (r1.drop _));exact⟨_,_,_,_,q,I.xx (t:=s.toks) ha hi r' e (Heap.SameBut.update ..),.none⟩
theorem t6{B:ay}{Z:List Addr}:∀ {ns:List Str} {vs:List Value},aB B Z (ns.map .str) vs→StrsAre vs ns
 |[],vs,h=>by rw[aB.ff h];exact .nil
 |k::ns,vs,h=>by
  refine aB.aN h ?_;intro v us r rs;refine VR.fQ r ?_;intro zz;exact .cons _ _ (t6 rs)
theorem A0{x:Str}{ys:List Str}(yX:(ys.map (·.length)).sum+ys.length*x.length≤16777216)(q:Q (.str (Txt.join x ys)) O):aU G n (.builtin "str.join") [.str x,.list (ys.map .str)] [] O Q:=by
 refine ie fun A hA B Z s u y I r r2=>?_;refine VR.fQ r ?_;intro zz;refine br (held I r2) ?_;intro a vs m z1;subst z1;intro g r1 zz;exact join_list (items:=vs.toArray) ⟨_,g,rfl,m,rfl⟩ (t6 r1) yX fun t' k=>PV.here I .str q
theorem n6{x:Str}{i:Nat}{ys:List Str}(hi:O[i]?=some (some (ys.map .str)))(yX:(ys.map (·.length)).sum+ys.length*x.length≤16777216)(q:Q (.str (Txt.join x ys)) O):aU G n (.builtin "str.join") [.str x,.ml i] [] O Q:=by
 refine ie fun A hA B Z s u y I r r2=>?_;refine VR.fQ r ?_;intro zz;refine br (resolve I hi r2) ?_;intro a vs m z1;subst z1;intro g r1 zz;exact join_list (items:=vs.toArray) ⟨_,g,rfl,m,rfl⟩ (t6 r1) yX fun t' k=>PV.here I .str q
end
open PySem PySem.Spec PySem.Calls PyProof.Rows PySem.W PySem.SeqAt PySem.MeetsSeq PySem.MeetsSeq2 PySem.MeetsSeq3
open PySem.AutoSeq1 (wpAny_loadPart')
noncomputable def fj:List Int→List Int→Bool
 |[],[]=>false
 |[],_::_=>true
 |_::_,[]=>false
 |a::xs,b::ys=>if a=b then fj xs ys else decide (a<b)
theorem t7{A:Around}{s:Shared}{a b:Int}{t u:Tok}{prog:Program}{w:World}{Q:Value→Shared→Prop}{E:Value→Shared→Prop}(h:Q (.bool (decide (a<b))) s):wpAny (model prog w) A (richCompare .Lt (.int a t) (.int b u)) Q E s:=
 lt_int h
theorem pD(xs:List (Int×Tok)){i:Nat}(h:i<xs.length):(xs.map fun p=>Value.int p.1 p.2).toArray[((i:Nat):Int).toNat]?=some (.int xs[i].1 xs[i].2):=by simp[h]
theorem wj(xs:List (Int×Tok)){i:Nat}(h:xs.length≤i):(xs.map fun p=>Value.int p.1 p.2).toArray[((i:Nat):Int).toNat]?=none:=by simp;omega
theorem HR(l b:Addr)(xs ys:List (Int×Tok))(n n2:Nat)(k:Nat):
  ∀i:Nat,i≤xs.length→i≤ys.length→xs.length-i=k→Meets (Builtin.«list.__eq__.loop» ⟨[.ref l,.ref b,rawInt i,rawInt 0],[]⟩)
   (fun A R s=>s.heap.get? l=some (lobj (xs.map fun p=>.int p.1 p.2) n)∧s.heap.get? b=some (lobj (ys.map fun p=>.int p.1 p.2) n2) ∧
    R (.ok (.ret (.bool (fj ((xs.map (·.1)).drop i) ((ys.map (·.1)).drop i))))) s):=by
 induction k with
 |zero=>
  intro i h1 h2 hk prog w A R s h;obtain⟨hp,g,d,tk,os⟩:=s;refine qa h ?_;clear h;intro hl hb h
  wp_walk using wpAny_loadPart' hl,wpAny_loadPart' hb
  rw[wj xs (by exact S9 hk)]
  wp_walk using wpAny_loadPart' hl,wpAny_loadPart' hb
  have e1:(xs.map (·.1)).drop i=[]:=by simp;exact S9 hk
  rw[e1]at h
  by_cases q:i<ys.length
  ·have e2:(ys.map (·.1)).drop i=ys[i].1::(ys.map (·.1)).drop (i+1):=by rw[List.drop_eq_getElem_cons (by simpa using q)];simp
   rw[e2]at h;show R (.ok (.ret (.bool (decide ((xs.map fun p=>Value.int p.1 p.2).toArray.size<(ys.map fun p=>Value.int p.1 p.2).toArray.size)))) ) _;rw[show decide ((xs.map fun p=>Value.int p.1 p.2).toArray.size<(ys.map fun p=>Value.int p.1 p.2).toArray.size)=true by simp;exact ag 3 0 (aa (ae ab au) (aa (ax (bb au ab) b6) (aa (ak ab af) (ak au af)))) (by kd_p) h1 hk q]
   exact h
  ·have e2:(ys.map (·.1)).drop i=[]:=by simp;exact OX h2 q
   rw[e2]at h;show R (.ok (.ret (.bool (decide ((xs.map fun p=>Value.int p.1 p.2).toArray.size<(ys.map fun p=>Value.int p.1 p.2).toArray.size)))) ) _;rw[show decide ((xs.map fun p=>Value.int p.1 p.2).toArray.size<(ys.map fun p=>Value.int p.1 p.2).toArray.size)=false by simp;exact ag 3 0 (aa (ae ab af) (aa (ae ab au) (aa (dH (ak ab au)) (ae au af)))) (by kd_p) h1 h2 q]
   exact h
 |succ k ih=>
  intro i h1 h2 hk prog w A R s h;obtain⟨hp,g,d,tk,os⟩:=s;refine qa h ?_;clear h;intro hl hb h
  wp_walk using wpAny_loadPart' hl,wpAny_loadPart' hb
  have bA:i<xs.length:=by exact Ta h1 hk
  have e1:(xs.map (·.1)).drop i=xs[i].1::(xs.map (·.1)).drop (i+1):=by rw[List.drop_eq_getElem_cons (by simpa using bA)];simp
  have hc:((i:Int)+1)=((i+1:Nat):Int):=by push_cast;rfl
  rw[pD xs bA]
  by_cases q:i<ys.length
  ·have e2:(ys.map (·.1)).drop i=ys[i].1::(ys.map (·.1)).drop (i+1):=by rw[List.drop_eq_getElem_cons (by simpa using q)];simp
   rw[e1,e2]at h;rw[pD ys q];refine wpAny_bind (wpAny_eqBool_int ?_)
   by_cases z:xs[i].1=ys[i].1
   ·unfold fj at h
    rw[if_pos z]at h;rw[show(xs[i].1==ys[i].1)=true by simpa using z]
    wp_walk
    rw[hc];exact⟨plainId_quiet plain_eq_loop _,codeAny_builtin entry_eq_loop (by
     rw[Around.under_plainId plain_eq_loop _];exact ih (i+1) (by exact ag 3 0 (aa (ak au af) (aa (ak au ab) (ae (aj au aC) af))) (by kd_p) bA q) (by exact ag 3 0 (aa (ak au ab) (aa (ak au af) (ae (aj au aC) af))) (by kd_p) bA q) (by exact ag 4 0 (aa (ax (bb aO au) (aj af aC)) (aa (ak au aO) (aa (ak au ab) (ax (bb aO (aj au aC)) af)))) (by kd_p) hk bA q) prog w A R _ ⟨hl,hb,h⟩)⟩
   ·unfold fj at h
    rw[if_neg z]at h;rw[show(xs[i].1==ys[i].1)=false by simpa using z]
    wp_walk using wpAny_loadPart' hl,wpAny_loadPart' hb
    rw[pD xs bA,pD ys q];show wpAny _ _ (do ret (←richCompare .Lt (.int xs[i].1 xs[i].2) (.int ys[i].1 ys[i].2))) _ _ _
    exact wpAny_bind (t7 (wpAny_pure h))
  ·have e2:(ys.map (·.1)).drop i=[]:=by simp;exact OX h2 q
   rw[e1,e2]at h;rw[wj ys (by exact OX h2 q)]
   wp_walk using wpAny_loadPart' hl,wpAny_loadPart' hb
   show R (.ok (.ret (.bool (decide ((xs.map fun p=>Value.int p.1 p.2).toArray.size<(ys.map fun p=>Value.int p.1 p.2).toArray.size)))) ) _;rw[show decide ((xs.map fun p=>Value.int p.1 p.2).toArray.size<(ys.map fun p=>Value.int p.1 p.2).toArray.size)=false by simp;exact ag 3 0 (aa (ae ab au) (aa (ak ab af) (aa (dH (ak ab au)) (ae au af)))) (by kd_p) h2 bA q]
   exact h
theorem zm(l b:Addr)(xs ys:List (Int×Tok))(n n2:Nat):
  Meets (Builtin.«list.__lt__» ⟨[.ref l,.ref b],[]⟩)
   (fun A R s=>s.heap.get? l=some (lobj (xs.map fun p=>.int p.1 p.2) n)∧s.heap.get? b=some (lobj (ys.map fun p=>.int p.1 p.2) n2) ∧
    R (.ok (.ret (.bool (fj (xs.map (·.1)) (ys.map (·.1)))))) s):=by
 intro prog w A R s h;obtain⟨hp,g,d,tk,os⟩:=s;refine qa h ?_;clear h;intro hl hb h;have f3:=AutoSeq1.sub_list_list
 wp_walk using wpAny_loadPart' hl,wpAny_loadPart' hb
 exact⟨plainId_quiet plain_eq_loop _,codeAny_builtin entry_eq_loop (by
  rw[Around.under_plainId plain_eq_loop _];exact HR l b xs ys n n2 _ 0 (by exact Nat.zero_le _) (by exact Nat.zero_le _) rfl prog w A R _ ⟨hl,hb,by simpa using h⟩)⟩
theorem HS{n:Nat}{O:Mu}{Q:V→Mu→Prop}{xs ys:List Int}(q:Q (.bool (fj xs ys)) O):bW G n .Lt (.list (xs.map .int)) (.list (ys.map .int)) O Q:=by
 intro A hA B Z s x y I hx hy;refine br (held I hx) ?_;intro a vs m z1;subst z1;intro g1 r1 e1;refine br (held I hy) ?_;intro a' us m' z1;subst z1;intro g2 r2 e2;refine aW (ints_of r1) ?_;intro jU z1;subst z1;intro z2;subst z2;refine aW (ints_of r2) ?_;intro K5 z1;subst z1;intro z2;subst z2;exact richCompare_meets_room (op:=.Lt) ⟨_,g1,rfl⟩ ⟨_,g2,rfl⟩ F.slot_list_lt F.entry_list_lt (F.args_list_lt_2 _ _) (zm a a' jU K5 m m')
  ⟨g1,g2,show Value.bool _≠Value.notImplemented∧PV G B Z s Q (.bool (fj (jU.map (·.1)) (K5.map (·.1)))) s from⟨(fun x=>nomatch x),PV.bQ I .bool q⟩⟩ hA.CG
def nB(base:Nat)(Z:List Addr)(O:Mu)(a:Addr):Prop:=∃i,base≤i∧Z[i]?=some a∧∃xs,(O[i]?:Option (Option (List V)))=some (some xs)
open Classical in
noncomputable def gO(base:Nat)(Z:List Addr)(O:Mu)(h:Heap)(B:ay):ay:=fun a=>match B a with
 |some o=>some o
 |none=>if nB base Z O a then h.get? a else none
theorem oF(base:Nat)(Z:List Addr)(O:Mu)(h:Heap)(B:ay):ay.le B (gO base Z O h B):=fun a o e=>by unfold gO;rw[e]
theorem t8{base:Nat}{Z:List Addr}{O:Mu}{h:Heap}{B:ay}{a:Addr}(hB:B a=none)(hl:nB base Z O a):gO base Z O h B a=h.get? a:=by unfold gO;rw[hB];simp only[];rw[if_pos hl]
theorem j8{base:Nat}{Z:List Addr}{O:Mu}{h:Heap}{B:ay}{a:Addr}(hB:B a=none)(hl:¬ nB base Z O a):gO base Z O h B a=none:=by unfold gO;rw[hB];simp only[];rw[if_neg hl]
theorem Inv.gO{B:ay}{Z aH:List Addr}{O:Mu}{h:Heap}(I:Inv G B aH O h)(p:Z <+: aH)(p0:G.A₀ <+: Z):Inv G (bg.gO Z.length aH O h B) Z (O.take Z.length) h:=by
 have J:=I.shrink p p0;obtain⟨t,rfl⟩:=p;have le:=oF Z.length (Z++t) O h B;have off:∀a∈Z,¬ nB Z.length (Z++t) O a:=by
  rintro a ha ⟨i,hi,HT,zz⟩;obtain⟨j,hj,rfl⟩:=List.mem_iff_getElem.mp ha;obtain⟨bA,e⟩:=List.getElem?_eq_some_iff.mp HT;have e2:(Z++t)[j]'(by simp;exact ag 3 0 (aa (ak au af) (ak au (aj af ab))) (by kd_p) hj)=Z[j]:=List.getElem_append_left hj
  have:=(List.getElem_inj I.nodup).mp (e.trans e2.symm);exact ag 3 0 (aa (ae au af) (aa (ak ab au) (aa (ax af ab) Kh))) (by kd_p) hi hj this
 refine⟨J.base.trans le,fun a o e=>?_,J.len,fun i a xs h1 h2=>?_,J.dm,J.nodup,fun a ha=>⟨?_,(J.cg a ha).2⟩,G.hT.mono J.tab le fun zz zz zz x=>x,J.ei⟩
 ·cases q:B a with
  |some o'=>rw[le a o' q]at e;cases Option.some.inj e;exact I.holds a _ q
  |none=>
   by_cases l:nB Z.length (Z++t) O a
   ·rw[t8 q l]at e;exact e
   ·rw[j8 q l]at e;exact bk e
 ·refine eh (J.ml i a xs h1 h2) ?_;intro hb vs n g r
  exact⟨j8 hb (off a (List.mem_of_getElem? h1)),vs,n,g,r.mono le (List.prefix_refl _)⟩
 ·refine j8 (I.cg a ha).1 fun⟨i,zz,HT,_⟩=>(I.cg a ha).2 (List.mem_of_getElem? HT)
inductive Res(base:Nat)(O:Mu):V→V→Prop where
 |cl {v:V}:Cl v→Res base O v v
 |ml {i:Nat} {xs:List V}:base≤i→(O[i]?:Option (Option (List V)))=some (some xs)→Res base O (.ml i) (.list xs)
 |list {xs ys:List V}:xs.length=ys.length→(∀ (i:Nat) x y,xs[i]?=some x→ys[i]?=some y→Res base O x y)→Res base O (.list xs) (.list ys)
theorem Res.vr{B:ay}{Z aH:List Addr}{O:Mu}{h:Heap}(I:Inv G B aH O h){v v':V}(r:Res Z.length O v v'):∀ {x:Value},VR B aH v x→VR (bg.gO Z.length aH O h B) Z v' x:=by
 have le:=oF Z.length aH O h B
 induction r with
 |cl c=>intro x hx;exact(hx.mono le (List.prefix_refl _)).clean c Z
 |ml hi hx=>
  intro x h1;cases h1 with
  |ml e=>
   refine eh (I.ml _ _ _ e hx) ?_;intro hb vs n g r;exact .list ((t8 hb ⟨_,hi,e,_,hx⟩).trans g) r.1 ((r.any Z).mono le (List.prefix_refl _)).2
 | @list ps qs hl _ ih=>
  intro x h1;cases h1 with
  |list e l h9=>
   refine .list (le _ _ e) (hl.symm.trans l) fun i y u hy hu=>?_;have bA:=(List.getElem?_eq_some_iff.mp hy).1;have hx:ps[i]?=some ps[i]:=List.getElem?_eq_getElem (by exact ag 4 0 (aa (ax au af) (aa (ax au ab) (aa (ak aO af) (ak aO au)))) (by kd_p) hl l bA)
   exact ih i _ y hx hy (h9 i _ u hx hu)
theorem aG.wm{W:List Addr}{B B':ay}{Z aH:List Addr}{ar:Mu}{s s1 s':Shared}(p0:G.A₀ <+: Z)(k:∀b o,s.heap.get? b=some o→s1.heap.get? b=some o)(hr:Rest s s1)(P:aG G W B Z s1 B' aH ar s')(hW:∀a∈W,s.heap.get? a=none):
  aG G [] B Z s (bg.gO Z.length aH ar s'.heap B') Z (ar.take Z.length) s':=by
 have P1:=aG.outside p0 k hr P hW;refine⟨P1.le.trans (oF _ _ _ _ _),P1.pre,P.inv.gO P.pre p0,P1.keep,P1.bL,P1.rest,fun a ha=>?_,P1.c8⟩;cases q:B' a with
 |some o=>exact P1.dD a (by rw[q];simp)
 |none=>
  by_cases l:nB Z.length aH ar a
  ·refine gJ l ?_;clear l;intro i zz HT zz
   rcases P.c8 a (List.mem_of_getElem? HT) with z|z
   ·exact .inr (.inl z)
   ·refine .inr (.inr ?_)
    cases y:s.heap.get? a with
    |none=>rfl
    |some o=>rw[k a o y]at z;exact fe z
  ·exact absurd (j8 q l) ha
noncomputable def vx:List Str:=[Str.ofString "escape",Str.ofString "pos",Str.ofString "addr",Str.ofString "ch",Str.ofString "result",Str.ofString "start",Str.ofString "len",Str.ofString "open_pos",Str.ofString "opens",Str.ofString "_strip_quoted_realnames",Str.ofString "r",Str.ofString "q1",Str.ofString "half_n",Str.ofString "q2",Str.ofString "pad",Str.ofString "_div3n2n",Str.ofString "b2",Str.ofString "b1",Str.ofString "b",Str.ofString "a",Str.ofString "mask",Str.ofString "n",Str.ofString "_DIV_LIMIT",Str.ofString "divmod",Str.ofString "q",Str.ofString "a3",Str.ofString "a12",Str.ofString "_div2n1n",Str.ofString "a_digits",Str.ofString "inner",Str.ofString "digits",Str.ofString "_digits2int",Str.ofString "q_digits",Str.ofString "a_digit",Str.ofString "reversed",Str.ofString "q_digit",Str.ofString "_int2digits",Str.ofString "int_divmod",Str.ofString "_divmod_pos",Str.ofString "x",Str.ofString "lo",Str.ofString "key",Str.ofString "bisect_right",Str.ofString "hi",Str.ofString "mid",Str.ofString "self",Str.ofString "S",Str.ofString "T",Str.ofString "count",Str.ofString "nt",Str.ofString "Whitespace",Str.ofString "ws",Str.ofString "max",Str.ofString "trailing",Str.ofString "tabsize",Str.ofString "il",Str.ofString "i",Str.ofString "range",Str.ofString "ts",Str.ofString "other",Str.ofString "cells",Str.ofString "numbers",Str.ofString "script",Str.ofString "first",Str.ofString "second",Str.ofString "c",Str.ofString "y",Str.ofString "z",Str.ofString "shape",Str.ofString "points",Str.ofString "low",Str.ofString "letter",Str.ofString "column",Str.ofString "blanks",Str.ofString "fillings",Str.ofString "j",Str.ofString "lengths",Str.ofString "filling",Str.ofString "fit",Str.ofString "fits",Str.ofString "k",Str.ofString "told",Str.ofString "right",Str.ofString "left",Str.ofString "lefts",Str.ofString "rights",Str.ofString "columns",Str.ofString "_law_lead",Str.ofString "extra",Str.ofString "lacks",Str.ofString "text",Str.ofString "rise",Str.ofString "letters",Str.ofString "upper",Str.ofString "menu",Str.ofString "hide",Str.ofString "rows",Str.ofString "row",Str.ofString "place",Str.ofString "one",Str.ofString "parts",Str.ofString "sum",Str.ofString "weights",Str.ofString "part",Str.ofString "rest",Str.ofString "made",Str.ofString "sorted",Str.ofString "below",Str.ofString "sums",Str.ofString "often",Str.ofString "_law_alternant",Str.ofString "kinds",Str.ofString "twos",Str.ofString "ones",Str.ofString "abs",Str.ofString "kind",Str.ofString "_law_shape",Str.ofString "bisect_left",Str.ofString "keeps",Str.ofString "insort_right",Str.ofString "grown",Str.ofString "_law_pushed",Str.ofString "least",Str.ofString "_check_parenthesis",Str.ofString "_law_text",Str.ofString "end",Str.ofString "min",Str.ofString "ends",Str.ofString "_law_fillings",Str.ofString "third",Str.ofString "middle",Str.ofString "_law_cells",Str.ofString "fault",Str.ofString "R",Str.ofString "shift",Str.ofString "L",Str.ofString "lower",Str.ofString "enumerate",Str.ofString "str",Str.ofString "ZeroDivisionError",Str.ofString "_iter_escaped_chars",Str.ofString "tuple"]
noncomputable def aI(i:Nat):Str:=match vx[i]? with|some s=>s|none=>⟨#[i+1000]⟩
noncomputable abbrev gx:Nat:=0
noncomputable abbrev dZ:Nat:=1
noncomputable abbrev eH:Nat:=2
noncomputable abbrev fk:Nat:=3
noncomputable abbrev HU:Nat:=6
noncomputable abbrev YB:Nat:=10
noncomputable abbrev mF:Nat:=18
noncomputable abbrev gH:Nat:=19
noncomputable abbrev jV:Nat:=21
noncomputable abbrev bS:Nat:=28
noncomputable abbrev cq:Nat:=29
noncomputable abbrev eS:Nat:=30
noncomputable abbrev zo:Nat:=32
noncomputable abbrev d4:Nat:=33
noncomputable abbrev j9:Nat:=34
noncomputable abbrev md:Nat:=39
noncomputable abbrev pE:Nat:=40
noncomputable abbrev lx:Nat:=41
noncomputable abbrev pF:Nat:=43
noncomputable abbrev dF:Nat:=45
noncomputable abbrev HV:Nat:=49
noncomputable abbrev rj:Nat:=51
noncomputable abbrev A1:Nat:=54
noncomputable abbrev zp:Nat:=59
noncomputable abbrev wo:Nat:=62
noncomputable abbrev kT:Nat:=68
noncomputable abbrev wq:Nat:=69
noncomputable abbrev Qm:Nat:=70
noncomputable abbrev nE:Nat:=71
noncomputable abbrev El:Nat:=72
noncomputable abbrev Em:Nat:=73
noncomputable abbrev ly:Nat:=77
noncomputable abbrev K6:Nat:=90
noncomputable abbrev xY:Nat:=91
noncomputable abbrev oG:Nat:=92
noncomputable abbrev t9:Nat:=93
noncomputable abbrev K7:Nat:=94
noncomputable abbrev xZ:Nat:=95
noncomputable abbrev lA:Nat:=96
noncomputable abbrev Qn:Nat:=99
noncomputable abbrev me:Nat:=133
noncomputable abbrev mh:Nat:=135
noncomputable abbrev fD:Nat:=137
noncomputable abbrev dn:Nat:=140
noncomputable def UT:List (Nat×Value):=[(6,.builtin "len"),(9,.ref 35),(15,.ref 56),(22,.int 4000 230),(23,.builtin "divmod"),(27,.ref 49),(31,.ref 70),(34,.type "reversed"),(36,.ref 63),(37,.ref 84),(38,.ref 77),(42,.ref 102),(50,.ref 173),(52,.builtin "max"),(57,.type "range"),(87,.ref 196),(101,.builtin "sum"),(106,.builtin "sorted"),(110,.ref 191),(114,.builtin "abs"),(116,.ref 220),(117,.ref 111),(119,.ref 93),(121,.ref 213),(123,.ref 42),(124,.ref 208),(126,.builtin "min"),(128,.ref 201),(131,.ref 184),(137,.type "enumerate"),(138,.type "str"),(139,.type "ZeroDivisionError"),(140,.ref 28),(141,.type "tuple")]
noncomputable def K8:List (Nat×Value)→Nat→Option Value
 |[],_=>none
 |p::r,x=>bif Nat.beq p.1 x then some p.2 else K8 r x
noncomputable def bX(x:Nat):Option Value:=K8 UT x
theorem CT:∀ {l:List (Nat×Value)} {x:Nat} {v:Value},K8 l x=some v→(x,v)∈l
 |p::r,x,v,h=>by
  unfold K8 at h;cases c:Nat.beq p.1 x with
  |true=>
   rw[c]at h;rw[←Option.some.inj h,←Nat.eq_of_beq_eq_true c];exact List.mem_cons_self
  |false=>
   rw[c]at h;exact List.mem_cons_of_mem _ (CT h)
noncomputable def bI:List Nat:=[2,1,0,3]
noncomputable def cS:List Nat:=[2,5,7,4,1,3]
noncomputable def dR:List Nat:=[2,8,1,3]
noncomputable def oH:Ss:=(.cons (.iff (.cmp .LtE (.bin .Sub (.cA (.var 19) "bit_length" .nil) (.var 21)) (.glob 22)) (.cons (.ret (.call (.glob 23) (.cons (.var 19) (.cons (.var 18) .nil)))) .nil) .nil) (.cons (.asg (.name 14) (.bin .BitAnd (.var 21) (.int 1))) (.cons (.iff (.val (.var 14)) (.cons (.aug 19 .LShift (.int 1)) (.cons (.aug 18 .LShift (.int 1)) (.cons (.aug 21 .Add (.int 1)) .nil))) .nil) (.cons (.asg (.name 12) (.bin .RShift (.var 21) (.int 1))) (.cons (.asg (.name 20) (.bin .Sub (.bin .LShift (.int 1) (.var 12)) (.int 1))) (.cons (.kz [17,16] (.tup (.cons (.bin .RShift (.var 18) (.var 12)) (.cons (.bin .BitAnd (.var 18) (.var 20)) .nil)))) (.cons (.asg (.g9 (.name 11) (.name 10)) (.call (.glob 15) (.cons (.bin .RShift (.var 19) (.var 21)) (.cons (.bin .BitAnd (.bin .RShift (.var 19) (.var 12)) (.var 20)) (.cons (.var 18) (.cons (.var 17) (.cons (.var 16) (.cons (.var 12) .nil)))))))) (.cons (.asg (.g9 (.name 13) (.name 10)) (.call (.glob 15) (.cons (.var 10) (.cons (.bin .BitAnd (.var 19) (.var 20)) (.cons (.var 18) (.cons (.var 17) (.cons (.var 16) (.cons (.var 12) .nil)))))))) (.cons (.iff (.val (.var 14)) (.cons (.aug 10 .RShift (.int 1)) .nil) .nil) (.cons (.ret (.tup (.cons (.bin .BitOr (.bin .LShift (.var 11) (.var 12)) (.var 13)) (.cons (.var 10) .nil)))) .nil))))))))))
noncomputable def A2:List Nat:=[19,18,21,14,12,20,17,16,11,10,13]
noncomputable def d5:List Nat:=[19,21,28,29]
noncomputable def n7:List Nat:=[30,21,29]
noncomputable def d6:List Nat:=[19,18,21,28,10,32,33,35,24]
noncomputable def eT:Ss:=(.cons (.iff (.cmp .Eq (.var 18) (.int 0)) (.cons .bad .nil) (.cons (.iff (.cmp .Lt (.var 18) (.int 0)) (.cons (.asg (.g9 (.name 24) (.name 10)) (.call (.glob 37) (.cons (.neg (.var 19)) (.cons (.neg (.var 18)) .nil)))) (.cons (.ret (.tup (.cons (.var 24) (.cons (.neg (.var 10)) .nil)))) .nil)) (.cons (.iff (.cmp .Lt (.var 19) (.int 0)) (.cons (.asg (.g9 (.name 24) (.name 10)) (.call (.glob 37) (.cons (.inv (.var 19)) (.cons (.var 18) .nil)))) (.cons (.ret (.tup (.cons (.inv (.var 24)) (.cons (.bin .Add (.var 18) (.inv (.var 10))) .nil)))) .nil)) (.cons (.ret (.call (.glob 38) (.cons (.var 19) (.cons (.var 18) .nil)))) .nil)) .nil)) .nil)) .nil)
noncomputable def eU:List Nat:=[19,18,24,10]
noncomputable def iT:Ss:=(.cons (.iff (.cmp .Is (.var 41) .vt) (.cons (.asg (.name 40) (.call (.glob 42) (.cons (.var 19) (.cons (.var 39) (.cons (.var 40) (.cons (.var 43) .nil)))))) .nil) (.cons (.asg (.name 40) (.mx (.glob 42) (.cons (.var 19) (.cons (.call (.var 41) (.cons (.var 39) .nil)) (.cons (.var 40) (.cons (.var 43) .nil)))) "key" (.var 41))) .nil)) (.cons (.expr (.cA (.var 19) "insert" (.cons (.var 40) (.cons (.var 39) .nil)))) .nil))
noncomputable def sd:List Nat:=[19,39,40,43,41]
noncomputable def df:Ss:=(.cons (.iff (.cmp .Lt (.var 40) (.int 0)) (.cons .bad .nil) .nil) (.cons (.iff (.cmp .Is (.var 43) .vt) (.cons (.asg (.name 43) (.call (.glob 6) (.cons (.var 19) .nil))) .nil) .nil) (.cons (.iff (.cmp .Is (.var 41) .vt) (.cons (.rb (.cmp .Lt (.var 40) (.var 43)) (.cons (.asg (.name 44) (.bin .FloorDiv (.bin .Add (.var 40) (.var 43)) (.int 2))) (.cons (.iff (.cmp .Lt (.var 39) (.sub (.var 19) (.var 44))) (.cons (.asg (.name 43) (.var 44)) .nil) (.cons (.asg (.name 40) (.bin .Add (.var 44) (.int 1))) .nil)) .nil))) .nil) (.cons (.rb (.cmp .Lt (.var 40) (.var 43)) (.cons (.asg (.name 44) (.bin .FloorDiv (.bin .Add (.var 40) (.var 43)) (.int 2))) (.cons (.iff (.cmp .Lt (.var 39) (.call (.var 41) (.cons (.sub (.var 19) (.var 44)) .nil))) (.cons (.asg (.name 43) (.var 44)) .nil) (.cons (.asg (.name 40) (.bin .Add (.var 44) (.int 1))) .nil)) .nil))) .nil)) (.cons (.ret (.var 40)) .nil))))
noncomputable def iU:List Nat:=[19,39,40,43,41,44]
noncomputable def jB:Ss:=(.cons (.iff (.cmp .Lt (.var 40) (.int 0)) (.cons .bad .nil) .nil) (.cons (.iff (.cmp .Is (.var 43) .vt) (.cons (.asg (.name 43) (.call (.glob 6) (.cons (.var 19) .nil))) .nil) .nil) (.cons (.iff (.cmp .Is (.var 41) .vt) (.cons (.rb (.cmp .Lt (.var 40) (.var 43)) (.cons (.asg (.name 44) (.bin .FloorDiv (.bin .Add (.var 40) (.var 43)) (.int 2))) (.cons (.iff (.cmp .Lt (.sub (.var 19) (.var 44)) (.var 39)) (.cons (.asg (.name 40) (.bin .Add (.var 44) (.int 1))) .nil) (.cons (.asg (.name 43) (.var 44)) .nil)) .nil))) .nil) (.cons (.rb (.cmp .Lt (.var 40) (.var 43)) (.cons (.asg (.name 44) (.bin .FloorDiv (.bin .Add (.var 40) (.var 43)) (.int 2))) (.cons (.iff (.cmp .Lt (.call (.var 41) (.cons (.sub (.var 19) (.var 44)) .nil)) (.var 39)) (.cons (.asg (.name 40) (.bin .Add (.var 44) (.int 1))) .nil) (.cons (.asg (.name 43) (.var 44)) .nil)) .nil))) .nil)) (.cons (.ret (.var 40)) .nil))))
noncomputable def ua:List Nat:=[19,39,40,43,41,44]
noncomputable def dg:List Nat:=[45,51,46,47,48,18,21,49,3]
noncomputable def fR:Ss:=(.cons (.asg (.g9 (.name 48) (.name 53)) (.attr (.var 45) "norm")) (.cons (.ret (.call (.glob 52) (.cons (.bin .Sub (.call (.glob 6) (.cons (.var 48) .nil)) (.int 1)) (.cons (.var 53) .nil)))) .nil))
noncomputable def kB:List Nat:=[45,48,53]
noncomputable def lZ:Ss:=(.cons (.asg (.g9 (.name 48) (.name 53)) (.attr (.var 45) "norm")) (.cons (.asg (.name 55) (.int 0)) (.cons (.for 56 (.call (.glob 57) (.cons (.var 54) (.cons (.call (.glob 6) (.cons (.var 48) .nil)) .nil))) (.cons (.asg (.name 55) (.bin .Add (.var 55) (.bin .Mult (.bin .FloorDiv (.var 56) (.var 54)) (.sub (.var 48) (.var 56))))) .nil)) (.cons (.ret (.bin .Add (.var 53) (.bin .Mult (.var 54) (.bin .Add (.var 55) (.attr (.var 45) "nt"))))) .nil))))
noncomputable def se:List Nat:=[45,54,48,53,55,56]
noncomputable def CU:Ss:=(.cons (.iff (.cmp .GtE (.attr (.var 45) "n") (.attr (.var 59) "n")) (.cons (.ret (.bool false)) .nil) .nil) (.cons (.iff (.and (.cons (.val (.attr (.var 45) "is_simple")) (.cons (.val (.attr (.var 59) "is_simple")) .nil))) (.cons (.ret (.cmp .LtE (.attr (.var 45) "nt") (.attr (.var 59) "nt"))) .nil) .nil) (.cons (.asg (.name 21) (.bin .Add (.call (.glob 52) (.cons (.cA (.var 45) "longest_run_of_spaces" .nil) (.cons (.cA (.var 59) "longest_run_of_spaces" .nil) .nil))) (.int 1))) (.cons (.for 58 (.call (.glob 57) (.cons (.int 2) (.cons (.bin .Add (.var 21) (.int 1)) .nil))) (.cons (.iff (.cmp .GtE (.cA (.var 45) "indent_level" (.cons (.var 58) .nil)) (.cA (.var 59) "indent_level" (.cons (.var 58) .nil))) (.cons (.ret (.bool false)) .nil) .nil) .nil)) (.cons (.ret (.bool true)) .nil)))))
noncomputable def K9:List Nat:=[45,59,21,58]
noncomputable def lB:Ss:=(.cons (.asg (.name 60) (.list true (.cons (.neg (.int 3)) (.cons (.int 4) (.cons (.int 2) (.cons (.int 4) (.cons (.int 0) (.cons (.int 5137) .nil)))))))) (.cons (.asg (.name 61) (.slice (.var 62) .no (.int 60) .no)) (.cons (.for 56 (.call (.glob 57) (.cons (.call (.glob 6) (.cons (.var 61) .nil)) .nil)) (.cons (.asg (.sub (.var 60) (.bin .Mod (.var 56) (.int 6))) (.bin .Add (.sub (.var 60) (.bin .Mod (.var 56) (.int 6))) (.za (.cmp .GtE (.sub (.var 61) (.var 56)) (.int 0)) (.bin .Mod (.sub (.var 61) (.var 56)) (.bin .Pow (.int 10) (.int 6))) (.neg (.bin .Mod (.neg (.sub (.var 61) (.var 56))) (.bin .Pow (.int 10) (.int 6))))))) .nil)) (.cons (.ret (.var 60)) .nil))))
noncomputable def x3:List Nat:=[62,60,61,56]
noncomputable def ik:Ss:=(.cons (.asg (.CQ (.name 39) (.name 66) (.name 67)) (.var 69)) (.cons (.kz [19,18,65] (.tup (.cons (.bin .Add (.sub (.var 68) (.int 0)) (.int 2)) (.cons (.bin .Add (.sub (.var 68) (.int 1)) (.int 1)) (.cons (.sub (.var 68) (.int 2)) .nil))))) (.cons (.asg (.name 63) (.bin .Mult (.bin .Pow (.var 39) (.var 19)) (.bin .Sub (.bin .Mult (.bin .Pow (.var 66) (.var 18)) (.bin .Pow (.var 67) (.var 65))) (.bin .Mult (.bin .Pow (.var 66) (.var 65)) (.bin .Pow (.var 67) (.var 18)))))) (.cons (.asg (.name 64) (.bin .Mult (.bin .Pow (.var 39) (.var 18)) (.bin .Sub (.bin .Mult (.bin .Pow (.var 66) (.var 19)) (.bin .Pow (.var 67) (.var 65))) (.bin .Mult (.bin .Pow (.var 66) (.var 65)) (.bin .Pow (.var 67) (.var 19)))))) (.cons (.ret (.bin .Add (.bin .Sub (.var 63) (.var 64)) (.bin .Mult (.bin .Pow (.var 39) (.var 65)) (.bin .Sub (.bin .Mult (.bin .Pow (.var 66) (.var 19)) (.bin .Pow (.var 67) (.var 18))) (.bin .Mult (.bin .Pow (.var 66) (.var 18)) (.bin .Pow (.var 67) (.var 19))))))) .nil)))))
noncomputable def qt:List Nat:=[69,68,39,66,67,19,18,65,63,64]
noncomputable def rm:Ss:=(.cons (.ret (.call (.glob 50) (.cons (.bin .Add (.bin .Add (.cA (.str "") "join" (.cons (.ey false (.bin .Add (.bin .Mult (.str " ") (.bin .Add (.var 70) (.var 71))) (.str "\t")) 71 (.var 72) .nil [70] [71]) .nil)) (.bin .Mult (.str " ") (.var 73))) (.str "x\t ")) .nil))) .nil)
noncomputable def zq:List Nat:=[72,70,73]
noncomputable def sg:List Nat:=[76,70,73,88,86,74,75,89,84,85,79,80,83,82,81]
noncomputable def mG:Ss:=(.cons (.asg (.name 94) (.list false (.cons (.str "") (.cons (.str "\")\"") (.cons (.str "\\(") (.cons (.str "a") (.cons (.str "\"(\"") (.cons (.str "\\)") (.cons (.str "\\\\") (.cons (.str "\\\"") .nil)))))))))) (.cons (.asg (.name 90) (.bin .Mult (.str "(") (.var 91))) (.cons (.for 80 (.call (.glob 57) (.cons (.call (.glob 6) (.cons (.var 92) .nil)) .nil)) (.cons (.iff (.cmp .Eq (.sub (.var 92) (.var 80)) (.var 93)) (.cons (.asg (.name 90) (.bin .Add (.var 90) (.str "("))) .nil) (.cons (.iff (.cmp .Eq (.sub (.var 92) (.var 80)) (.bin .Add (.var 93) (.int 1))) (.cons (.asg (.name 90) (.bin .Add (.var 90) (.str ")"))) .nil) (.cons (.asg (.name 90) (.bin .Add (.var 90) (.sub (.var 94) (.bin .Mod (.bin .Add (.var 95) (.bin .Mult (.int 3) (.var 80))) (.int 8))))) .nil)) .nil)) .nil)) (.cons (.ret (.bin .Add (.var 90) (.bin .Mult (.str ")") (.bin .Sub (.bin .Add (.var 91) (.cA (.var 92) "count" (.cons (.var 93) .nil))) (.cA (.var 92) "count" (.cons (.bin .Add (.var 93) (.int 1)) .nil)))))) .nil))))
noncomputable def zr:List Nat:=[92,91,93,95,94,90,80]
noncomputable def kE:Ss:=(.cons (.asg (.name 96) (.ey false (.ey true (.sub (.var 72) (.var 80)) 72 (.var 77) (.cons (.cmp .Gt (.call (.glob 6) (.cons (.var 72) .nil)) (.var 80)) .nil) [80] [72]) 80 (.call (.glob 57) (.cons (.int 3) .nil)) .nil [77] [80])) (.cons (.for 71 (.bin .Add (.bin .Add (.bin .Mult (.list false (.cons (.int 3) .nil)) (.sub (.var 68) (.int 2))) (.bin .Mult (.list false (.cons (.int 2) .nil)) (.sub (.var 68) (.int 1)))) (.bin .Mult (.list false (.cons (.int 1) .nil)) (.sub (.var 68) (.int 0)))) (.cons (.for 97 (.var 96) (.cons (.asg (.name 98) (.call (.glob 42) (.cons (.var 97) (.cons (.var 71) .nil)))) (.cons (.iff (.cmp .Eq (.var 98) (.call (.glob 6) (.cons (.var 97) .nil))) (.cons (.expr (.cA (.var 97) "append" (.cons (.var 71) .nil))) (.cons .brk .nil)) .nil) (.cons (.asg (.g9 (.name 71) (.sub (.var 97) (.var 98))) (.tup (.cons (.sub (.var 97) (.var 98)) (.cons (.var 71) .nil)))) .nil)))) .nil)) (.cons (.ret (.var 96)) .nil)))
noncomputable def vy:List Nat:=[77,68,96,71,97,98]
noncomputable def pG:Ss:=(.cons (.ret (.sub (.var 99) (.int 0))) .nil)
noncomputable def x4:List Nat:=[99]
noncomputable def x5:List Nat:=[62,60,63,127,130,69,129,68,76,70,73,88,113,112,74,102,105,77,92,120,125,118,93,91,122,111,109,107,104,108,100,132]
noncomputable def il:Ss:=(.cons (.iff (.cmp .Eq (.bin .Add (.var 135) (.int 1)) (.var 133)) (.cons (.ret (.sub (.var 30) (.var 135))) .nil) .nil) (.cons (.asg (.name 44) (.bin .RShift (.bin .Add (.var 135) (.var 133)) (.int 1))) (.cons (.asg (.name 134) (.bin .Mult (.bin .Sub (.var 44) (.var 135)) (.var 21))) (.cons (.ret (.bin .Add (.bin .LShift (.call (.var 29) (.cons (.var 44) (.cons (.var 133) .nil))) (.var 134)) (.call (.var 29) (.cons (.var 135) (.cons (.var 44) .nil))))) .nil))))
noncomputable def gy:List Nat:=[135,133,44,134]
noncomputable def ir:Ss:=(.cons (.iff (.cmp .Eq (.bin .Add (.var 135) (.int 1)) (.var 133)) (.cons (.asg (.sub (.var 28) (.var 135)) (.var 39)) (.cons .Ht .nil)) .nil) (.cons (.asg (.name 44) (.bin .RShift (.bin .Add (.var 135) (.var 133)) (.int 1))) (.cons (.asg (.name 134) (.bin .Mult (.bin .Sub (.var 44) (.var 135)) (.var 21))) (.cons (.asg (.name 93) (.bin .RShift (.var 39) (.var 134))) (.cons (.asg (.name 136) (.bin .BitXor (.var 39) (.bin .LShift (.var 93) (.var 134)))) (.cons (.expr (.call (.var 29) (.cons (.var 136) (.cons (.var 135) (.cons (.var 44) .nil))))) (.cons (.expr (.call (.var 29) (.cons (.var 93) (.cons (.var 44) (.cons (.var 133) .nil))))) .nil)))))))
noncomputable def gz:List Nat:=[39,135,133,44,134,93,136]
noncomputable def ka:Ss:=(.cons (.asg (.name 21) (.cA (.var 18) "bit_length" .nil)) (.cons (.asg (.name 28) (.call (.glob 36) (.cons (.var 19) (.cons (.var 21) .nil)))) (.cons (.asg (.name 10) (.int 0)) (.cons (.asg (.name 32) (.list true .nil)) .nil))))
noncomputable def iF:Ss:=(.cons (.asg (.g9 (.name 35) (.name 10)) (.call (.glob 27) (.cons (.bin .Add (.bin .LShift (.var 10) (.var 21)) (.var 33)) (.cons (.var 18) (.cons (.var 21) .nil))))) (.cons (.expr (.cA (.var 32) "append" (.cons (.var 35) .nil))) .nil))
noncomputable def oI:Ss:=(.cons (.iff (.cmp .NotIn (.str "\"") (.var 2)) (.cons (.ret (.var 2)) .nil) .nil) (.cons (.asg (.name 5) (.int 0)) (.cons (.asg (.name 7) .vt) (.cons (.asg (.name 4) (.list true .nil)) .nil))))
noncomputable def uc:Ss:=(.cons (.iff (.cmp .Eq (.var 3) (.str "\"")) (.cons (.iff (.cmp .Is (.var 7) .vt) (.cons (.asg (.name 7) (.var 1)) .nil) (.cons (.iff (.cmp .NotEq (.var 5) (.var 7)) (.cons (.expr (.cA (.var 4) "append" (.cons (.slice (.var 2) (.var 5) (.var 7) .no) .nil))) .nil) .nil) (.cons (.asg (.name 5) (.bin .Add (.var 1) (.int 1))) (.cons (.asg (.name 7) .vt) .nil)))) .nil) .nil) .nil)
noncomputable def oJ:Ss:=(.cons (.iff (.cmp .Lt (.var 5) (.call (.glob 6) (.cons (.var 2) .nil))) (.cons (.expr (.cA (.var 4) "append" (.cons (.slice (.var 2) (.var 5) .no .no) .nil))) .nil) .nil) (.cons (.ret (.cA (.str "") "join" (.cons (.var 4) .nil))) .nil))
noncomputable def oK:Ss:=(.cons (.asg (.name 2) (.call (.glob 9) (.cons (.var 2) .nil))) (.cons (.asg (.name 8) (.int 0)) .nil))
noncomputable def ud:Ss:=(.cons (.iff (.cmp .Eq (.var 3) (.str "(")) (.cons (.aug 8 .Add (.int 1)) .nil) (.cons (.iff (.cmp .Eq (.var 3) (.str ")")) (.cons (.aug 8 .Sub (.int 1)) (.cons (.iff (.cmp .Lt (.var 8) (.int 0)) (.cons (.ret (.bool false)) .nil) .nil) .nil)) .nil) .nil)) .nil)
noncomputable def oM:Ss:=(.cons (.ret (.cmp .Eq (.var 8) (.int 0))) .nil)
noncomputable def jn:T:=(.cmp .NotEq (.ey false (.sub (.var 103) (.int 1)) 103 (.var 100) .nil [] [103]) (.bin .Mult (.list false (.cons (.var 104) .nil)) (.int 3)))
noncomputable def jo:T:=(.cmp .NotEq (.sub (.sub (.var 100) (.int 1)) (.int 0)) (.call (.glob 101) (.cons (.var 102) .nil)))
noncomputable def iu:Es:=(.cons (.sub (.sub (.var 100) (.int 0)) (.int 0)) (.cons (.call (.glob 110) (.cons (.list false (.cons (.var 63) (.cons (.var 130) (.cons (.var 63) .nil)))) (.cons (.list false (.cons (.int 0) (.cons (.int 0) (.cons (.int 0) .nil)))) .nil))) .nil))
noncomputable def kU:Ss:=(.cons (.iff (.cmp .Eq (.var 3) (.var 46)) (.cons (.asg (.name 21) (.bin .Add (.var 21) (.int 1))) (.cons (.asg (.name 18) (.bin .Add (.var 18) (.int 1))) .nil)) (.cons (.iff (.cmp .Eq (.var 3) (.var 47)) (.cons (.asg (.name 21) (.bin .Add (.var 21) (.int 1))) (.cons (.asg (.name 49) (.bin .Add (.var 49) (.int 1))) (.cons (.iff (.cmp .GtE (.var 18) (.call (.glob 6) (.cons (.var 48) .nil))) (.cons (.asg (.name 48) (.bin .Add (.var 48) (.bin .Mult (.list false (.cons (.int 0) .nil)) (.bin .Add (.bin .Sub (.var 18) (.call (.glob 6) (.cons (.var 48) .nil))) (.int 1))))) .nil) .nil) (.cons (.asg (.sub (.var 48) (.var 18)) (.bin .Add (.sub (.var 48) (.var 18)) (.int 1))) (.cons (.asg (.name 18) (.int 0)) .nil))))) (.cons .brk .nil)) .nil)) .nil)
noncomputable def mH:E:=(.tup (.cons (.call (.glob 141) (.cons (.var 48) .nil)) (.cons (.var 18) .nil)))
noncomputable def jC:E:=(.cmp .LtE (.call (.glob 6) (.cons (.var 48) .nil)) (.int 1))
section
section
variable{nm:Nat→Str}{gl:Nat→Option Value}
def Go(n:Nat)(env:Env)(own:List Nat)(rest:List Stmt)(Q:Fl→aw→Mu→Prop):Fl→aw→Mu→Prop:=fun r U O=>match r with
 |.next=>cn G n env own (execs rest env) U O Q
 |r=>Q r U O
theorem n8(env:Env):∀ (xs ys:List Stmt),execs (xs++ys) env=(do match ←execs xs env with | .next=>execs ys env|f=>pure f)
 |[],ys=>by
  rw[execs_nil]
  rfl
 |x::xs,ys=>by
  rw[List.cons_append,execs_cons,execs_cons,bind_assoc]
  congr 1
  funext f
  cases f with
  |next=>exact n8 env xs ys
  |_=>rfl
theorem i5{M:Model}{A:Around}{E:Value→Shared→Prop}{s:Shared}{env:Env}{xs ys:List Stmt}{Q:Flow→Shared→Prop}
  (h:wpAny M A (execs xs env) (fun f s'=>match f with | .next=>wpAny M A (execs ys env) Q E s'|f=>Q f s') E s):wpAny M A (execs (xs++ys) env) Q E s:=by
 rw[n8];refine wpAny_bind (wpAny_mono h (fun f s' h'=>?_) fun zz zz x=>x);cases f<;>first|exact h'|exact wpAny_pure h'
theorem wt{n:Nat}{rest ys:List Stmt}{own:List Nat}{env:Env}{Q:Fl→aw→Mu→Prop}{U:aw}{O:Mu}(h:cn G n env own (execs ys env) U O (Go (G:=G) n env own rest Q)):cn G n env own (execs (ys++rest) env) U O Q:=by
 intro A hA B Z s I F;refine i5 (wpAny_mono (h A hA B Z s I F) ?_ fun zz zz x=>x);rintro f s1 ⟨r,a9,aA,B1,aE,hR,P1,F1,r1⟩;cases r1 with
 |next=>exact wpAny_mono (hR A hA B1 aE s1 P1.inv F1) (fun zz zz h=>PS.after P1 h) fun zz zz x=>x
 |brk=>exact⟨.brk,a9,aA,B1,aE,hR,P1,F1,.brk⟩
 |cont=>exact⟨.cont,a9,aA,B1,aE,hR,P1,F1,.cont⟩
 |ret r=>exact⟨.ret _,a9,aA,B1,aE,hR,P1,F1,.ret r⟩
theorem qw{n:Nat}(hn:∀x,G.nm x=nm x)(hg:∀x v,gl x=some v→G.gl x=some v){rest:List Stmt}{sc:Scope}{own:List Nat}{env:Env}{Q:Fl→aw→Mu→Prop}(hk:sc.kind=.function)(hs:env.scope=sc)
  (st:Ss){ys:List Stmt}{U:aw}{O:Mu}(h:cW nm st sc own ys=true)(w:aX G gl n st U O (Go (G:=G) n env own rest Q)):cn G n env own (execs (dP nm st ys++rest) env) U O Q:=
 wt (eM hn hg st hk h hs w)
end
theorem A3{n:Nat}{a:Addr}{fd:FuncData}{oc:Value}{od:Option Addr}{osl:Array (Option Value)}{body:List Stmt}{vs:List V}{kw:List (Str×V)}{O:Mu}{Q:V→Mu→Prop}(own:List Nat)(ps:List (Nat×V))
  (En:G.K.lookup a=some ⟨oc,od,.func fd,osl⟩)(jD:codeIn G.K fd.code fd.qualname=true)(fq:fd.body=.stmts body)(zt:fd.closure=[])(hg:fd.globals=mainGlobals)(hb:fd.builtins=builtinsNs)
  (ue:fd.scope.isCoroutine=false)(l0:fd.scope.isGenerator=false)(hk:fd.scope.kind=.function)
  (lC:∀s xs ks B Z,G.K.In s.heap→aB B Z vs xs→aB B Z (kw.map (·.2)) ks→∃binds,BindsTo s fd ⟨xs,(kw.map (·.1)).zip ks⟩ binds∧fZ (G:=G) B Z binds ps)
  (si:∀p∈ps,p.1∈own∧(fd.scope.names.lookup (G.nm p.1)=some .local∨fd.scope.names.lookup (G.nm p.1)=some .cell))
  (h:∀env:Env,env.scope=fd.scope→env.code=fd.code→env.qual=fd.qualname++".<locals>."→cn G n env own (execs body env) (bc [] ps) O fun r zz ar=>∃v v',(r=.ret v∨(r=.next∧v=.none))∧Res O.length ar v v'∧Q v' (ar.take O.length)):
  aU G (n+1) (.ref a) vs kw O Q:=by
 intro A hA B Z s xs ks I rv rk;refine aW (lC s xs ks B Z I.jS rv rk) ?_;intro binds qx kF;refine wpAny_call (codeAny_call_function hA.room (I.jS a _ En) rfl ue l0 fq (codeRec_of I.jS jD) (qx _ _ _ _ ?_));rw[zt,hg,hb];refine dp ?_;have k1:=bN s.heap {cls:=.type "frame",data:=.dict #[]};have k2:=pushCells_keeps fd.scope.names (s.heap.push {cls:=.type "frame",data:=.dict #[]});have k:∀b o,s.heap.get? b=some o→(pushCells (s.heap.push {cls:=.type "frame",data:=.dict #[]}) fd.scope.names).get? b=some o:=fun b o e=>k2 b o (k1 b o e);have F:=bt.fresh (scope:=fd.scope) (cl:=[]) (fo:={cls:=.type "frame",data:=.dict #[]})
  (env:=newEnv fd.scope s.heap.objs.size mainGlobals (cellsFrom (s.heap.objs.size+1) fd.scope.names []) (fd.qualname++".<locals>.") (some a) fd.code none builtinsNs) I ⟨_,rfl⟩ ⟨(fun zz zz m=>nomatch m),.nil⟩ (fun zz zz=>trivial) rfl rfl rfl hk rfl rfl
 refine jm (s:={s with heap:=_}) kF (fun p hp=>si p hp) (I.keeps k) F ?_
 intro h1 tk F1 P1;refine⟨P1.inv.noLimit,codeAny_func ?_⟩;refine wpAny_mono (h _ rfl rfl rfl _ (hA.deeper _) B Z _ P1.inv F1) ?_ fun zz zz x=>x.elim;rintro fl s' ⟨r,ao,ar,B',aH,⟨v,v',hv,hc,q⟩,P',F',r'⟩;have P:=P1.trans P';have len:Z.length=O.length:=I.len;have out:=aG.wm (s:=s) I.ei.1 k .heap P (fun a' m=>by
  rcases eu m with e|⟨n',ew⟩
  ·rw[e];exact cx _
  ·have m':(n',a')∈cellsFrom (s.heap.objs.size+1) fd.scope.names []:=mem_of_lookup ew
   have ok:=cJ fd.scope.names (s.heap.push {cls:=.type "frame",data:=.dict #[]}) (s.heap.objs.size+1) [] [] (fun zz zz m=>nomatch m) (fun zz zz m=>nomatch m) .nil (by rw[Heap.size_push];exact Nat.le_refl _)
   rw[Heap.size_push]at ok;rcases ok.1 n' a' m' with z|z
   ·cases z
   ·exact fz (by omega))
 rw[len]at out;have fin:∀ {x:Value},VR B' aH v x→PV G B Z s Q x s':=fun{x} hx=>by
  have r2:=Res.vr (Z:=Z) P.inv (len▸hc) hx;rw[len]at r2;exact⟨v',_,_,Z,q,out,r2⟩
 rcases hv with rfl|⟨rfl,rfl⟩
 ·cases r' with|ret r=>exact fin r
 ·cases r' with|next=>exact fin .none
variable (G)
def UU(n:Nat)(env:Env)(t:Sem Value)(U:aw)(O:Mu)(R:List V→Mu→Prop):Prop:=
 ∀A,bY n A→∀B Z s,Inv G B Z O s.heap→bt G env B Z U s.heap→∀ (K:Value→Shared→Prop),
  (∀B1 aE aA s1 xs it h' fp P St,R xs aA→aG G [] B Z s B1 aE aA s1→s1.heap.get? it=none→(∀b o,s1.heap.get? b=some o→h'.get? b=some o)→(∀i h,St i h→∃o,h.get? it=some o)→
   (∀A',A'.handled=none→Walks G.prog G.w A' it fp [it] xs.length P St)→(∀ (i:Nat) y,i<xs.length→P i y→∃x,xs[i]?=some x∧VR B1 aE x y)→St 0 h'→(∀b∈fp,b=it∨B1 b≠none)→K (.ref it) {s1 with heap:=h'})→
  wpAny (model G.prog G.w) A t (fun u s'=>wpAny (model G.prog G.w) A (pyIter u) K bM s') bM s
variable {G}
theorem La{n:Nat}{env:Env}{own:List Nat}{U:aw}{O:Mu}{Q:Fl→aw→Mu→Prop}{target iter:Expr}{body:List Stmt}{pos:Pos}
  (h:UU G n env (eval iter env) U O fun xs aA=>forL (fun x U O k=>gF G n env own (assign target env) x U O fun ao ar=>cn G n env own (execs body env) ao ar k) xs U aA Q)
  (hf:∀x,foldedSetIterable iter env x=pure x)(ht:∀it v,letOwnedTupleGo target it v=pure ()):
  cn G n env own (exec (.For target iter body [] pos) env) U O Q:=
 fun A hA B Z s I F=>xD hA F (h A hA B Z s I F) hf ht
end
section
set_option maxHeartbeats 8000000
noncomputable abbrev mI:=PySem.Challenge.rw_tc0078_01
noncomputable def HW:Stmt→DefRec
 |.FunctionDef n a b _ _ _ s _ _ p=>⟨n,a,b,s,p⟩
 |_=>⟨"",default,[],default,default⟩
noncomputable def UW:Stmt→List Stmt
 |.ClassDef _ _ _ b .. =>b
 |_=>[]
noncomputable def top(i:Nat):Stmt:=mI.prog.main.body.getD i default
noncomputable def cA(i:Nat):Stmt:=(UW (top 18)).getD i default
noncomputable def jc(st:Stmt)(q m:Str)(t c:Nat)(d:Value:=.none)(k:Value:=.none):Obj:=
 ⟨.type "function",.none,.func {name:=(HW st).name,qualname:=q,params:=(HW st).params,body:=.stmts (HW st).body,scope:=(HW st).scope,globals:=3,closure:=[],defaults:=d,kwdefaults:=k,pyModule:=.str m t,code:=.ref c},#[]⟩
noncomputable def kW(r:Nat)(n q:Str)(t:Nat)(l a b c f g x:Int)(u:Nat):Obj:=
 ⟨.type "code",.none,.fields #[.str n t,.str q (t+1),.str "/claim/cut.py" (t+2),.int l 0,.int a 0,.int b 0,.int c 0,.int f 0,.ref r,.bool true,.int g 0,.ref (r+1),.none,.ref (r+2),.ref (r+3),.ref (r+4),.int x 0,.int l 0,.str "/claim/cut.py" u],#[]⟩
noncomputable def CV(r:Nat)(n q:Str)(t:Nat)(l a b c f g x:Int)(u:Nat):Obj:=
 ⟨.type "code",.none,.fields #[.str n t,.str q (t+1),.str "/claim/cut.py" (t+2),.int l 0,.int a 0,.int b 0,.int c 0,.int f 0,.ref r,.bool true,.int g 0,.ref (r+1),.none,.none,.none,.ref (r+2),.int x 0,.int l 0,.str "/claim/cut.py" u],#[]⟩
noncomputable def ent(P:Params)(x:Str)(t:Nat)(v:Value):DictEntry:=⟨PyData.keyHash P x,.str x t,v⟩
noncomputable def K0(P:Params):Frag:=
 [(2,⟨.none,.none,(.dict #[] 0),#[]⟩),
 (3,⟨(.type "dict"),.none,(.dict #[ent P "__name__" 165 (.str "law_tc0078_01" 455),ent P "__doc__" 166 .none,ent P "__package__" 167 .none,ent P "__loader__" 168 (.builtin "__main__.__loader__#opaque"),ent P "__spec__" 169 .none,ent P "__annotations__" 170 (.ref 6),ent P "__builtins__" 171 (.ref 4),ent P "__file__" 173 (.str "/claim/cut.py" 172),ent P "__cached__" 174 .none,ent P "_wall" 193 (.ref 21),ent P "_iter_escaped_chars" 205 (.ref 28),ent P "_strip_quoted_realnames" 217 (.ref 35),ent P "_check_parenthesis" 227 (.ref 42),ent P "_DIV_LIMIT" 231 (.int 4000 230),ent P "_div2n1n" 248 (.ref 49),ent P "_div3n2n" 262 (.ref 56),ent P "_int2digits" 273 (.ref 63),ent P "_digits2int" 284 (.ref 70),ent P "_divmod_pos" 299 (.ref 77),ent P "int_divmod" 309 (.ref 84),ent P "insort_right" 324 (.ref 93),ent P "bisect_right" 338 (.ref 102),ent P "bisect_left" 352 (.ref 111),ent P "Whitespace" 454 (.ref 173),ent P "_law_cells" 466 (.ref 184),ent P "_law_alternant" 482 (.ref 191),ent P "_law_lead" 488 (.ref 196),ent P "_law_fillings" 494 (.ref 201),ent P "_law_text" 507 (.ref 208),ent P "_law_pushed" 513 (.ref 213),ent P "_law_shape" 520 (.ref 220),ent P "law" 526 (.ref 225)] 32),#[]⟩),
 (27,kW 22 "_iter_escaped_chars" "_iter_escaped_chars" 196 5 1 0 0 35 181 203 204),
 (28,jc (top 2) "_iter_escaped_chars" "cpy313.email.utils" 194 27),
 (34,kW 29 "_strip_quoted_realnames" "_strip_quoted_realnames" 206 18 1 0 0 3 181 215 216),
 (35,jc (top 3) "_strip_quoted_realnames" "cpy313.email.utils" 194 34),
 (41,kW 36 "_check_parenthesis" "_check_parenthesis" 218 36 1 0 0 3 181 225 226),
 (42,jc (top 4) "_check_parenthesis" "cpy313.email.utils" 194 41),
 (48,kW 43 "_div2n1n" "_div2n1n" 232 49 3 0 0 3 181 246 247),
 (49,jc (top 7) "_div2n1n" "cpy313._pylong" 228 48),
 (55,kW 50 "_div3n2n" "_div3n2n" 249 65 6 0 0 3 181 260 261),
 (56,jc (top 8) "_div3n2n" "cpy313._pylong" 228 55),
 (62,kW 57 "_int2digits" "_int2digits" 263 75 2 0 0 3 181 271 272),
 (63,jc (top 9) "_int2digits" "cpy313._pylong" 228 62),
 (69,kW 64 "_digits2int" "_digits2int" 274 91 2 0 0 3 181 282 283),
 (70,jc (top 10) "_digits2int" "cpy313._pylong" 228 69),
 (76,kW 71 "_divmod_pos" "_divmod_pos" 285 100 2 0 0 3 181 297 298),
 (77,jc (top 11) "_divmod_pos" "cpy313._pylong" 228 76),
 (83,kW 78 "int_divmod" "int_divmod" 300 111 2 0 0 3 181 307 308),
 (84,jc (top 12) "int_divmod" "cpy313._pylong" 228 83),
 (85,⟨(.type "tuple"),.none,(.seq #[(.int 0 312),.none] 0),#[]⟩),
 (86,⟨(.type "dict"),.none,(.dict #[ent P "key" 313 .none] 1),#[]⟩),
 (92,kW 87 "insort_right" "insort_right" 314 123 4 0 1 3 181 322 323),
 (93,jc (top 14) "insort_right" "cpy313.bisect" 310 92 (.ref 85) (.ref 86)),
 (94,⟨(.type "tuple"),.none,(.seq #[(.int 0 325),.none] 0),#[]⟩),
 (95,⟨(.type "dict"),.none,(.dict #[ent P "key" 326 .none] 1),#[]⟩),
 (101,kW 96 "bisect_right" "bisect_right" 327 129 4 0 1 3 181 336 337),
 (102,jc (top 15) "bisect_right" "cpy313.bisect" 310 101 (.ref 94) (.ref 95)),
 (103,⟨(.type "tuple"),.none,(.seq #[(.int 0 339),.none] 0),#[]⟩),
 (104,⟨(.type "dict"),.none,(.dict #[ent P "key" 340 .none] 1),#[]⟩),
 (110,kW 105 "bisect_left" "bisect_left" 341 149 4 0 1 3 181 350 351),
 (111,jc (top 16) "bisect_left" "cpy313.bisect" 310 110 (.ref 103) (.ref 104)),
 (127,kW 122 "__init__" "Whitespace.__init__" 372 173 2 0 0 3 181 384 385),
 (128,jc (cA 1) "Whitespace.__init__" "cpy313.tabnanny" 353 127),
 (134,kW 129 "longest_run_of_spaces" "Whitespace.longest_run_of_spaces" 387 196 1 0 0 3 181 393 394),
 (135,jc (cA 2) "Whitespace.longest_run_of_spaces" "cpy313.tabnanny" 353 134),
 (141,kW 136 "indent_level" "Whitespace.indent_level" 396 200 2 0 0 3 181 405 406),
 (142,jc (cA 3) "Whitespace.indent_level" "cpy313.tabnanny" 353 141),
 (162,kW 157 "less" "Whitespace.less" 424 213 2 0 0 3 181 431 432),
 (163,jc (cA 6) "Whitespace.less" "cpy313.tabnanny" 353 162),
 (172,⟨(.type "dict"),.none,(.dict #[ent P "__module__" 362 (.str "cpy313.tabnanny" 353),ent P "__firstlineno__" 366 (.int 170 365),ent P "S" 370 (.str " " 368),ent P "T" 371 (.str "\t" 369),ent P "__init__" 386 (.ref 128),ent P "longest_run_of_spaces" 395 (.ref 135),ent P "indent_level" 407 (.ref 142),ent P "equal" 415 (.ref 149),ent P "not_equal_witness" 423 (.ref 156),ent P "less" 433 (.ref 163),ent P "not_less_witness" 441 (.ref 170),ent P "__static_attributes__" 447 (.ref 171),ent P "__dict__" 449 (.ref 174),ent P "__weakref__" 451 (.ref 175),ent P "__doc__" 452 .none] 4),#[]⟩),
 (173,⟨(.type "type"),.none,(.cls ⟨"Whitespace",[(.type "object")],[(.ref 173),(.type "object")],172,"Whitespace",.true,[],[],.false,.none,.false⟩),#[.none,.none,(.some (.str "Whitespace" 355)),(.some (.str "Whitespace" 363)),(.some (.builtin "object.__new__")),(.some (.bool .true))]⟩),
 (183,kW 178 "_law_cells" "_law_cells" 457 227 1 0 0 3 181 464 465),
 (184,jc (top 20) "_law_cells" "law_tc0078_01" 455 183),
 (190,kW 185 "_law_alternant" "_law_alternant" 467 233 2 0 0 3 181 480 481),
 (191,jc (top 21) "_law_alternant" "law_tc0078_01" 455 190),
 (195,CV 192 "_law_lead" "_law_lead" 483 239 3 0 0 3 181 486 487),
 (196,jc (top 22) "_law_lead" "law_tc0078_01" 455 195),
 (200,CV 197 "_law_fillings" "_law_fillings" 489 241 4 0 0 3 181 492 493),
 (201,jc (top 23) "_law_fillings" "law_tc0078_01" 455 200),
 (207,kW 202 "_law_text" "_law_text" 495 258 4 0 0 3 181 505 506),
 (208,jc (top 24) "_law_text" "law_tc0078_01" 455 207),
 (212,CV 209 "_law_pushed" "_law_pushed" 508 269 2 0 0 3 181 511 512),
 (213,jc (top 25) "_law_pushed" "law_tc0078_01" 455 212),
 (219,kW 214 "_law_shape" "_law_shape" 514 279 1 0 0 3 181 518 519),
 (220,jc (top 26) "_law_shape" "law_tc0078_01" 455 219),
 (224,CV 221 "law" "law" 521 281 1 0 0 3 181 524 525),
 (225,jc (top 27) "law" "law_tc0078_01" 455 224)]
noncomputable def UX:List Addr:=[2,3,27,28,34,35,41,42,48,49,55,56,62,63,69,70,76,77,83,84,85,86,92,93,94,95,101,102,103,104,110,111,127,128,134,135,141,142,162,163,172,173,183,184,190,191,195,196,200,201,207,208,212,213,219,220,224,225]
theorem k0(P:Params):UX=(K0 P).map (·.1):=by kd_p
noncomputable abbrev H:Hook:=kmHook K0 UX k0 [65,58,222]
noncomputable def qv:Program:={mI.prog with main:={mI.prog.main with body:=mI.prog.main.body.drop 27}}
noncomputable def UY:List Str:=["_wall","_iter_escaped_chars","_strip_quoted_realnames","_check_parenthesis","_DIV_LIMIT","_div2n1n","_div3n2n","_int2digits","_digits2int","_divmod_pos","int_divmod","insort_right","bisect_right","bisect_left","Whitespace","_law_cells","_law_alternant","_law_lead","_law_fillings","_law_text","_law_pushed","_law_shape"]
noncomputable def uf:DefRec:=HW (top 27)
theorem Qo:defOf qv mI.row.name=some (uf,[]):=by kd_p
theorem Lb:mI.row.prog.theDef mI.row.name=some (uf.params,uf.body,uf.scope):=by kd_p
theorem YC:kwWritten? uf.params.kwonlyargs uf.params.kw_defaults=some []:=by kd_p
theorem YD:(chainsOk qv&&opensWell mI.row.prog&&(frees mI.row.toRowW&&mI.row.within.isEmpty))=true:=by kd_p
theorem Qp:mI.row.prog.bare:=⟨rfl,rfl,rfl,rfl,rfl,by decide +kernel⟩
theorem prom:mI.row.toRowW.promised:=⟨[.list [.int 3,.int 1]],by decide +kernel,by decide +kernel⟩
theorem Qq:mI.wellSaid=true:=by kd_p
theorem Qr:LeftO mI.row.prog qv UY (fun s=>xlAt qv [] s&&recOk (RowW.records mI.row.toRowW) s) (Hook.obs H) (Hook.val H) 2612:=
 LeftO.of_split "special-get-raises" (fun w=>by kd_p)
theorem hd(walk:WalkO qv UY (XL qv []) (Hook.says H) mI.row.toRowW uf [] fun f vs=>PySem.call f vs):mI.Holds:=
 holds_law Qq fun UZ=>holds_open Qr (Hook.of H) (Hook.keeps H) (fun s e=>xl_of s (Bool.and_eq_true_iff.mp e).1) XL.keeps Qo Lb YC (fun s e=>recFacts_of (Bool.and_eq_true_iff.mp e).2) rfl UZ YD Qp prom walk
end
noncomputable def ba(K:Frag)(a:Addr):FuncData:=match K.lookup a with
 |some ⟨_,_,.func fd,_⟩=>fd
 |_=>default
noncomputable def du:FuncBody→List Stmt
 |.stmts b=>b
 |_=>[]
noncomputable abbrev KP(P:Params):Frag:=K0 P
noncomputable def zu:FuncBody→Bool
 |.stmts _=>true
 |_=>false
noncomputable def vz(K:Frag)(a:Addr):Bool:=match K.lookup a with
 |some ⟨_,_,.func fd,_⟩=>zu fd.body&&codeIn K fd.code fd.qualname&&fd.closure.isEmpty&&fd.globals==mainGlobals&&fd.builtins==builtinsNs && !fd.scope.isCoroutine && !fd.scope.isGenerator&&fd.scope.kind == .function
 |_=>false
def mJ(B:ay)(h:Heap)(P l c:Nat)(q:Str):Prop:=h.get? P=some (tabObj #[])∨∃c',fW B (.ref c') q∧h.get? P=some (tabObj #[rawInt l,rawInt c,.ref c'])
theorem mJ.mono{B B':ay}{h h':Heap}{P l c:Nat}{q:Str}(x:mJ B h P l c q)(hB:∀k,fW B k q→fW B' k q)(hk:∀o,h.get? P=some o→h'.get? P=some o):mJ B' h' P l c q:=
 x.imp (hk _) fun⟨c',a,b⟩=>⟨c',hB _ a,hk _ b⟩
theorem mJ.there{B:ay}{h:Heap}{P l c:Nat}{q:Str}(x:mJ B h P l c q):∃o,h.get? P=some o:=x.elim (fun e=>⟨_,e⟩) fun⟨zz,_,e⟩=>⟨_,e⟩
noncomputable def Qs:Str:=Str.ofString "_int2digits.<locals>.inner"
noncomputable def Qt:Str:=Str.ofString "_digits2int.<locals>.inner"
noncomputable def ug:Str:=Str.ofString "law.<locals>.<lambda>"
def oN:ay→Heap→Prop:=fun B h=>mJ B h 58 78 4 Qs∧mJ B h 65 93 4 Qt∧mJ B h 222 317 32 ug
theorem Eo:NV oN where
 mono:=fun x hB hk=>⟨x.1.mono (fun zz k=>k.mono hB) (hk 58 (by simp[tabs])),x.2.1.mono (fun zz k=>k.mono hB) (hk 65 (by simp[tabs])),x.2.2.mono (fun zz k=>k.mono hB) (hk 222 (by simp[tabs]))⟩
 there:=fun x a ha=>by
  rcases List.mem_cons.mp ha with rfl|ha
  ·exact x.2.1.there
  rcases List.mem_cons.mp ha with rfl|ha
  ·exact x.1.there
  rw[List.mem_singleton.mp ha];exact x.2.2.there
 strip:=fun{B B' h} x hs=>by
  have:∀q k,fW B k q→fW B' k q:=fun q k ⟨c',o,vs,t,e,g,d,r⟩=>⟨c',o,vs,t,e,hs _ _ g (fun v z=>by rw[d]at z;cases z),d,r⟩
  exact⟨x.1.mono (this _) fun zz e=>e,x.2.1.mono (this _) fun zz e=>e,x.2.2.mono (this _) fun zz e=>e⟩
structure bx(G:dk):Prop where
 TI:G.TI=oN
 Qu:∀h:Heap,(∀a o,G.Bs a=some o→h.get? a=some o)→∃mg,h.Ns mainGlobals mg∧∀P∈tabs,mainGlobals≠P∧h.BuiltinsAt mg P
 nm:∀x,G.nm x=aI x
 gl:∀x v,bX x=some v→G.gl x=some v
 K:∃P,G.K=KP P
theorem qy{B:ay}{Z:List Addr}(hn:∀x,G.nm x=aI x):∀ {ps:List (Nat×V)} {xs:List Value},aB B Z (ps.map (·.2)) xs→fZ (G:=G) B Z ((ps.map fun p=>aI p.1).zip xs) ps
 |[],xs,h=>by rw[h.ff];exact .nil
 |(x,v)::ps,xs,h=>by
  refine aB.aN h ?_;intro u us r rs;show fZ B Z ((aI x,u)::(ps.map fun p=>aI p.1).zip us) ((x,v)::ps);rw[←hn];exact .cons r (qy hn rs)
def qz(O:Mu)(Q:V→Mu→Prop):Fl→aw→Mu→Prop:=fun r zz ar=>match r with
 |.ret v=>Cl v∧Q v (ar.take O.length)
 |.next=>Q .none (ar.take O.length)
 |_=>False
def wu(O:Mu)(Q:V→Mu→Prop):Fl→aw→Mu→Prop:=fun r zz ar=>match r with
 |.ret v=>∃v',Res O.length ar v v'∧Q v' (ar.take O.length)
 |.next=>Q .none (ar.take O.length)
 |_=>False
theorem lD(hG:bx G){n:Nat}{a:Addr}{own:List Nat}{vs:List V}{kw:List (Str×V)}{O:Mu}{Q:V→Mu→Prop}(ps:List (Nat×V))
  (hb:∀P xs ks B Z,aB B Z vs xs→aB B Z (kw.map (·.2)) ks→∃jU,aB B Z (ps.map (·.2)) jU∧∀S,peek (KP P) S (bindArgs (ba (KP P) a) ⟨xs,(kw.map (·.1)).zip ks⟩)=some ((ps.map fun p=>aI p.1).zip jU))
  (h:∀P env,G.K=KP P→env.scope=(ba (KP P) a).scope→env.code=(ba (KP P) a).code→env.qual=(ba (KP P) a).qualname++".<locals>."→(ba (KP P) a).scope.kind=.function→
   cn G n env own (execs (du (ba (KP P) a).body) env) (bc [] ps) O (wu O Q))
  (hf:∀P,vz (KP P) a=true:=by exact fun P=>by kd_p)(hp:∀P,(ps.map (·.1)).all (jT aI (ba (KP P) a).scope own)=true:=by exact fun P=>by kd_p):aU G (n+1) (.ref a) vs kw O Q:=by
 obtain⟨P,hP⟩:=hG.K;have hf:=hf P;have hp:=hp P;have hb:=hb P;have h:=h P;unfold vz at hf;split at hf
 ·rename_i oc od fd osl e
  have lE:ba (KP P) a=fd:=by unfold ba;rw[e]
  rw[lE]at hp hb h;simp only[Bool.and_eq_true,Bool.not_eq_true']at hf;obtain⟨⟨⟨⟨⟨⟨⟨f1,f2⟩,f3⟩,f4⟩,f5⟩,f6⟩,f7⟩,f8⟩:=hf;have fq:fd.body=.stmts (du fd.body):=by
   cases q:fd.body<;>first|rfl|(rw[q]at f1;cases f1)
  have hk:fd.scope.kind=.function:=eq_of_beq f8;intro A hA B Z s xs ks I rv rk;refine A3 (G:=G) (n:=n) (oc:=oc) (od:=od) (osl:=osl) (fd:=fd) (body:=du fd.body) own ps (by rw[hP];exact e) (by rw[hP];exact f2) fq (List.isEmpty_iff.mp f3) (eq_of_beq f4) (eq_of_beq f5) f6 f7 hk ?_ (fun p hq=>?_) (fun env hs hc hq=>?_) A hA B Z s xs ks I rv rk
  ·intro s' jU YE B' aH X Qv YF
   refine aW (hb jU YE B' aH Qv YF) ?_;intro us r e';rw[hP]at X;exact⟨_,kp_binds X e',qy hG.nm r⟩
  ·have:=List.all_eq_true.mp hp p.1 (List.mem_map_of_mem hq)
   exact fA (G:=G) (env:=zc fd.scope) rfl hG.nm this
  ·refine cn.mono (h env hP hs hc hq hk) fun r ao ar q=>?_
   unfold wu at q;cases r with
   |next=>exact⟨.none,.none,.inr ⟨rfl,rfl⟩,.cl .none,q⟩
   |brk=>exact q.elim
   |cont=>exact q.elim
   |ret v=>refine aW q ?_;clear q;intro v' hr q;exact⟨v,v',.inl rfl,hr,q⟩
 ·exact iO hf
theorem x6(hG:bx G){n:Nat}{a:Addr}{st:Ss}{own:List Nat}{vs:List V}{kw:List (Str×V)}{O:Mu}{Q:V→Mu→Prop}(ps:List (Nat×V))
  (hb:∀P xs ks B Z,aB B Z vs xs→aB B Z (kw.map (·.2)) ks→∃jU,aB B Z (ps.map (·.2)) jU∧∀S,peek (KP P) S (bindArgs (ba (KP P) a) ⟨xs,(kw.map (·.1)).zip ks⟩)=some ((ps.map fun p=>aI p.1).zip jU))
  (h:aX G bX n st (bc [] ps) O (wu O Q))
  (hf:∀P,vz (KP P) a=true:=by exact fun P=>by kd_p)(hl:∀P,cW aI st (ba (KP P) a).scope own (du (ba (KP P) a).body)=true:=by exact fun P=>by kd_p)(hm:∀P,dP aI st (du (ba (KP P) a).body)=du (ba (KP P) a).body:=by exact fun P=>by kd_p)(hp:∀P,(ps.map (·.1)).all (jT aI (ba (KP P) a).scope own)=true:=by exact fun P=>by kd_p):aU G (n+1) (.ref a) vs kw O Q:=
 lD hG ps hb (fun P env hP hs hc hq hk=>hm P▸eM hG.nm hG.gl st hk (hl P) hs h) hf hp
theorem fN(hG:bx G){n:Nat}{a:Addr}{st:Ss}{own:List Nat}{vs:List V}{kw:List (Str×V)}{O:Mu}{Q:V→Mu→Prop}(ps:List (Nat×V))
  (hb:∀P xs ks B Z,aB B Z vs xs→aB B Z (kw.map (·.2)) ks→∃jU,aB B Z (ps.map (·.2)) jU∧∀S,peek (KP P) S (bindArgs (ba (KP P) a) ⟨xs,(kw.map (·.1)).zip ks⟩)=some ((ps.map fun p=>aI p.1).zip jU))
  (h:aX G bX n st (bc [] ps) O (qz O Q))
  (hf:∀P,vz (KP P) a=true:=by exact fun P=>by kd_p)(hl:∀P,cW aI st (ba (KP P) a).scope own (du (ba (KP P) a).body)=true:=by exact fun P=>by kd_p)(hm:∀P,dP aI st (du (ba (KP P) a).body)=du (ba (KP P) a).body:=by exact fun P=>by kd_p)(hp:∀P,(ps.map (·.1)).all (jT aI (ba (KP P) a).scope own)=true:=by exact fun P=>by kd_p):aU G (n+1) (.ref a) vs kw O Q:=
 lD hG ps hb (fun P env hP hs hc hq hk=>hm P▸cn.mono (eM hG.nm hG.gl st hk (hl P) hs h) fun r ao ar q=>by
  cases r with
  |next=>exact q
  |brk=>exact q.elim
  |cont=>exact q.elim
  |ret v=>exact⟨v,.cl q.1,q.2⟩) hf hp
open Classical in
noncomputable def eI(B:ay)(as:List Addr)(h:Heap):ay:=fun a=>match B a with
 |some o=>some o
 |none=>if a∈as then h.get? a else none
theorem jE(B:ay)(as:List Addr)(h:Heap):ay.le B (eI B as h):=fun a o e=>by unfold eI;rw[e]
theorem jF{B:ay}{as:List Addr}{h:Heap}{a:Addr}(hB:B a=none)(m:a∈as):eI B as h a=h.get? a:=by unfold eI;rw[hB];simp only[];rw[if_pos m]
theorem eF{B:ay}{as:List Addr}{h:Heap}{a:Addr}(hB:B a=none)(m:a∉as):eI B as h a=none:=by unfold eI;rw[hB];simp only[];rw[if_neg m]
theorem Inv.old{B:ay}{Z:List Addr}{O:Mu}{h:Heap}(I:Inv G B Z O h){a:Addr}(ha:h.objs.size≤a):B a=none:=by
 cases q:B a with
 |none=>rfl
 |some o=>exact absurd (Heap.lt_size (I.holds a o q)) (Nat.not_lt.mpr ha)
theorem aG.news{B:ay}{Z:List Addr}{O:Mu}{s:Shared}{H:Heap}{tk:Nat}{P:Addr}{as:List Addr}(I:Inv G B Z O s.heap)(Qw:P∈tabs)(hx:∀b o,b≠P→s.heap.get? b=some o→H.get? b=some o)
  (has:∀a∈as,s.heap.objs.size≤a)(hT:G.TI (eI B as H) H):aG G [] B Z s (eI B as H) Z O {s with heap:=H,toks:=tk}:=by
 have le:=jE B as H;have nP:∀ {b o},B b=some o→b≠P:=fun e q=>by rw[q,(I.cg P Qw).1]at e;exact bk e
 have aP:∀ {b},b∈Z→b≠P:=fun m q=>(I.cg P Qw).2 (q▸m);have fresh:∀ {b},b∈as→s.heap.get? b=none:=fun m=>fz (has _ m);have old:∀ {b o},s.heap.get? b=some o→b∉as:=fun e m=>by rw[fresh m]at e;exact bk e
 refine⟨le,List.prefix_refl _,⟨I.base.trans le,fun a o e=>?_,I.len,fun i a xs h1 h2=>?_,fun a m=>?_,I.nodup,fun a m=>⟨?_,(I.cg a m).2⟩,hT,I.ei⟩,fun b o hb e=>?_,(fun zz m=>nomatch m),.heap,fun a ha=>?_,fun zz h=>.inl h⟩
 ·cases q:B a with
  |some o'=>rw[le a o' q]at e;cases Option.some.inj e;exact hx a _ (nP q) (I.holds a _ q)
  |none=>
   by_cases m:a∈as
   ·rw[jF q m]at e;exact e
   ·rw[eF q m]at e;exact bk e
 ·refine eh (I.ml i a xs h1 h2) ?_;intro e vs n g r
  exact⟨eF e (old g),vs,n,hx a _ (aP (List.mem_of_getElem? h1)) g,r.mono le (List.prefix_refl _)⟩
 ·obtain⟨o,e⟩:=I.dm a m;exact⟨o,hx a o (aP m) e⟩
 ·obtain⟨o,e⟩:=I.there (List.mem_append_right Z m)
  exact eF (I.cg a m).1 (old e)
 ·exact hx b o (fun q=>hb (by simp[q,Qw])) e
 ·cases q:B a with
  |some o=>exact .inl (by simp)
  |none=>
   by_cases m:a∈as
   ·exact .inr (.inr (fresh m))
   ·exact absurd (eF q m) ha
structure jd(P l c:Nat)(q:Str):Prop where
 mem:P∈tabs
 at':∀ {B h},oN B h→mJ B h P l c q
 put:∀ {B B' h h'},oN B h→ay.le B B'→(∀a∈tabs,a≠P→∀o,h.get? a=some o→h'.get? a=some o)→mJ B' h' P l c q→oN B' h'
theorem Qx:jd 58 78 4 Qs:=⟨by simp[tabs],fun x=>x.1,fun x hB hk y=>
 ⟨y,x.2.1.mono (fun zz k=>k.mono hB) (hk 65 (by simp[tabs]) (by decide)),x.2.2.mono (fun zz k=>k.mono hB) (hk 222 (by simp[tabs]) (by decide))⟩⟩
theorem Qy:jd 65 93 4 Qt:=⟨by simp[tabs],fun x=>x.2.1,fun x hB hk y=>
 ⟨x.1.mono (fun zz k=>k.mono hB) (hk 58 (by simp[tabs]) (by decide)),y,x.2.2.mono (fun zz k=>k.mono hB) (hk 222 (by simp[tabs]) (by decide))⟩⟩
theorem Lc:jd 222 317 32 ug:=⟨by simp[tabs],fun x=>x.2.2,fun x hB hk y=>
 ⟨x.1.mono (fun zz k=>k.mono hB) (hk 58 (by simp[tabs]) (by decide)),x.2.1.mono (fun zz k=>k.mono hB) (hk 65 (by simp[tabs]) (by decide)),y⟩⟩
theorem pH(hG:bx G){B:ay}{Z:List Addr}{O:Mu}{s:Shared}{h':Heap}{fd:FuncData}{ct d pm:Value}{tk:Nat}{P l c:Nat}{q:Str}{c':Addr}(E:jd P l c q)(hq:fd.qualname=q)(I:Inv G B Z O s.heap)
  (hx:Heap.ExtBut P s.heap h')(oO:s.heap.objs.size≤c')(bA:c'<h'.objs.size)(rn:h'.CodeRec (.ref c') q)(hP:h'.get? P=some (tabObj #[rawInt l,rawInt c,.ref c'])):
  ∃B',aG G [] B Z s B' Z O {s with heap:=h'.push {cls:=.type "function",data:=.func {fd with code:=.ref c',closureTuple:=ct,doc:=d,pyModule:=pm}},toks:=tk}∧VR B' Z (.fn fd) (.ref h'.objs.size):=by
 let fo:Obj:={cls:=.type "function",data:=.func {fd with code:=.ref c',closureTuple:=ct,doc:=d,pyModule:=pm}}
 have hk:∀b o,b≠P→s.heap.get? b=some o→(h'.push fo).get? b=some o:=fun b o hb e=>Heap.get?_push_of_some _ (hx b o hb e);have has:∀a∈[c',h'.objs.size],s.heap.objs.size≤a:=by
  intro a m;simp at m;rcases m with rfl|rfl
  ·exact oO
  ·exact Nat.le_trans oO (Nat.le_of_lt bA)
 have B0:B c'=none:=I.old oO;have B1:B h'.objs.size=none:=I.old (Nat.le_trans oO (Nat.le_of_lt bA));have e1:eI B [c',h'.objs.size] (h'.push fo) h'.objs.size=some fo:=(jF B1 (by simp)).trans (Heap.get?_push_size _ rfl)
 have ec:fW (eI B [c',h'.objs.size] (h'.push fo)) (.ref c') q:=by
  refine qb rn ?_;clear rn;intro c2 o vs t e2 g hd hv;cases e2;exact⟨c',o,vs,t,rfl,(jF B0 (by simp)).trans (Heap.get?_push_of_some _ g),hd,hv⟩
 refine⟨eI B [c',h'.objs.size] (h'.push fo),aG.news (P:=P) (as:=[c',h'.objs.size]) I E.mem hk has ?_,.fn (fd:=fd) (c:=.ref c') (ct:=ct) (d:=d) (pm:=pm) e1 (hq▸ec)⟩;rw[hG.TI];have hI:=I.tab;rw[hG.TI]at hI;exact E.put hI (jE _ _ _) (fun a m hn o e=>hk a o hn e) (.inr ⟨c',ec,Heap.get?_push_of_some _ hP⟩)
theorem ro(hG:bx G){B:ay}{Z:List Addr}{O:Mu}{s:Shared}{h':Heap}{fd:FuncData}{cv ct d pm:Value}{tk:Nat}{q:Str}(hq:fd.qualname=q)(I:Inv G B Z O s.heap)
  (hx:∀b o,s.heap.get? b=some o→h'.get? b=some o)(oO:s.heap.objs.size≤h'.objs.size)(rn:fW B cv q):
  ∃B',aG G [] B Z s B' Z O {s with heap:=h'.push {cls:=.type "function",data:=.func {fd with code:=cv,closureTuple:=ct,doc:=d,pyModule:=pm}},toks:=tk}∧VR B' Z (.fn fd) (.ref h'.objs.size):=by
 let fo:Obj:={cls:=.type "function",data:=.func {fd with code:=cv,closureTuple:=ct,doc:=d,pyModule:=pm}}
 have hk:∀b o,b≠58→s.heap.get? b=some o→(h'.push fo).get? b=some o:=fun b o zz e=>Heap.get?_push_of_some _ (hx b o e);have has:∀a∈[h'.objs.size],s.heap.objs.size≤a:=by
  intro a m;simp at m;exact ag 3 0 (aa (ae au ab) (aa (ax af ab) (ae au af))) (by kd_p) oO m
 have B1:B h'.objs.size=none:=I.old oO;have e1:eI B [h'.objs.size] (h'.push fo) h'.objs.size=some fo:=(jF B1 (by simp)).trans (Heap.get?_push_size _ rfl)
 refine⟨eI B [h'.objs.size] (h'.push fo),aG.news (P:=58) (as:=[h'.objs.size]) I (by simp[tabs]) hk has ?_,.fn (fd:=fd) (c:=cv) (ct:=ct) (d:=d) (pm:=pm) e1 (hq▸rn.mono (jE _ _ _))⟩
 exact G.hT.mono I.tab (jE _ _ _) fun a m o e=>Heap.get?_push_of_some _ (hx a o e)
theorem rq(pos:Pos)(cv:Value):codeAmong pos (#[rawInt pos.line,rawInt pos.col,cv]:Array Value).toList=some cv:=by simp[codeAmong,rawInt]
theorem wx(a b:Nat)(c:Addr):TriplesOk (#[rawInt a,rawInt b,.ref c]:Array Value).toList:=by simp[TriplesOk,rawInt]
theorem Qz(hG:bx G){A:Around}{B:ay}{Z:List Addr}{O:Mu}{s:Shared}{env:Env}{name:Str}{params:Arguments}{body:List Stmt}{scope:Scope}{pos:Pos}{fl:Nat}{P:Nat}{q:Str}{c:Addr}{cN:List (Str×Addr)}{Q:V→Mu→Prop}
  (E:jd P pos.line pos.col q)(hg:env.globals=mainGlobals)(gk:env.code=.ref c)(jD:codeHdIn G.K c P=true)(cj:closureFor scope env=pure cN)(I:Inv G B Z O s.heap)
  (h:Q (.fn (fnX name q params body scope cN .none .none .none .none none .none .none)) O):
  wpAny (model G.prog G.w) A (makeFunction name q params (.stmts body) scope env [] [] [] pos fl) (PV G B Z s Q) bM s:=by
 refine aW (hG.Qu s.heap fun a o e=>I.holds a o (I.base a o e)) ?_;intro mg i9 DX;obtain⟨e8,hb⟩:=DX P E.mem;have C:=codeHd_of_K (I.jS) jD;have hI:=I.tab;rw[hG.TI]at hI;rcases E.at' hI with e|⟨c',ec,e⟩
 ·refine makeFunction_K cj hg i9 gk C e (by trivial) rfl e8 hb fun c' A4 doc h' tk hx oO bA rn hP=>?_
  refine aW (pH hG (fd:=fnX name q params body scope cN .none .none .none .none none .none .none) (ct:=A4) (d:=doc) (pm:=(mg "__name__").getD .none) (tk:=tk) E rfl I hx oO bA rn (by simpa using hP)) ?_;intro B' P' r
  exact⟨_,_,_,_,h,P',r⟩
 ·refine makeFunction_hit cj hg i9 gk C e (wx ..) (rq ..) hb fun A4 doc h' tk hx oO=>?_
  refine aW (ro hG (fd:=fnX name q params body scope cN .none .none .none .none none .none .none) (ct:=A4) (d:=doc) (pm:=(mg "__name__").getD .none) (tk:=tk) rfl I hx oO ec) ?_;intro B' P' r;exact⟨_,_,_,_,h,P',r⟩
theorem Ld(hG:bx G){A:Around}{B:ay}{Z:List Addr}{O:Mu}{s:Shared}{env:Env}{name:Str}{params:Arguments}{body:Expr}{scope:Scope}{pos:Pos}{fl:Nat}{P:Nat}{q:Str}{c:Addr}{cN:List (Str×Addr)}{Q:V→Mu→Prop}
  (E:jd P pos.line pos.col q)(hg:env.globals=mainGlobals)(gk:env.code=.ref c)(jD:codeHdIn G.K c P=true)(cj:closureFor scope env=pure cN)(I:Inv G B Z O s.heap)
  (h:Q (.fn (kla_fn name q params body scope cN .none .none .none)) O):
  wpAny (model G.prog G.w) A (makeFunction name q params (.expr body) scope env [] [] [] pos fl) (PV G B Z s Q) bM s:=by
 refine aW (hG.Qu s.heap fun a o e=>I.holds a o (I.base a o e)) ?_;intro mg i9 DX;obtain⟨e8,hb⟩:=DX P E.mem;have C:=codeHd_of_K (I.jS) jD;have hI:=I.tab;rw[hG.TI]at hI;rcases E.at' hI with e|⟨c',ec,e⟩
 ·refine kla_makeFunction cj hg i9 gk C e (by trivial) rfl e8 hb fun c' A4 h' tk hx oO bA rn hP=>?_
  refine aW (pH hG (fd:=kla_fn name q params body scope cN .none .none .none) (ct:=A4) (d:=.none) (pm:=(mg "__name__").getD .none) (tk:=tk) E rfl I hx oO bA rn (by simpa using hP)) ?_;intro B' P' r
  exact⟨_,_,_,_,h,P',r⟩
 ·refine kla_makeFunctionHit cj hg i9 gk C e (wx ..) (rq ..) hb fun A4 h' tk hx oO=>?_
  refine aW (ro hG (fd:=kla_fn name q params body scope cN .none .none .none) (ct:=A4) (d:=.none) (pm:=(mg "__name__").getD .none) (tk:=tk) rfl I hx oO ec) ?_;intro B' P' r;exact⟨_,_,_,_,h,P',r⟩
theorem QA(hG:bx G){n:Nat}{env:Env}{own:List Nat}{U:aw}{O:Mu}{Q:Fl→aw→Mu→Prop}{name:Str}{params:Arguments}{body:List Stmt}{scope:Scope}{pos:Pos}{P:Nat}{q:Str}{c:Addr}{x:Nat}
  (E:jd P pos.line pos.col q)(hx:G.nm x=name)(hk:nR G env own x)(YG:params.defaults=[])(U0:params.kw_defaults=[])(ha:annTrees params none env=[])(gk:env.code=.ref c)(jD:codeHdIn G.K c P=true)(hq:qualnameIn env name name=q)
  (lj:∀p∈scope.names,p.2=.free→env.kindOf p.1=some .cell)
  (h:Q .next (set U x (.fn (fnX name q params body scope (cK env.cells scope.names []) .none .none .none .none none .none .none))) O):
  cn G n env own (exec (.FunctionDef name params body [] none [] scope none name pos) env) U O Q:=by
 intro A hA B Z s I F;refine nestDef_K YG U0 ha ?_;rw[hq];refine wpAny_mono (Qz hG (Q:=fun v ar=>v=.fn (fnX name q params body scope (cK env.cells scope.names []) .none .none .none .none none .none .none)∧ar=O) E F.gl gk jD (jq fun p hp hf=>?_) I ⟨rfl,rfl⟩) ?_ fun zz zz x=>x
 ·obtain⟨c,hc⟩:=F.all _ (lj p hp hf)
  rw[hc];rfl
 ·rintro u s1 ⟨v,aA,U1,aE,⟨rfl,rfl⟩,P1,r1⟩
  rw[←hx]at r1 h ⊢;exact gu hk.1 hk.2 P1.inv (F.same P1) r1 fun h' tk F' P'=>⟨.next,_,aA,U1,aE,h,(P1.wide F).trans P',F',.next⟩
section
variable (G)
def iV(a:Addr)(fd:FuncData):Prop:=∃c ct d pm,G.Bs a=some {cls:=.type "function",data:=.func {fd with code:=c,closureTuple:=ct,doc:=d,pyModule:=pm}}∧fW G.Bs c fd.qualname
def nG(c:Addr)(v:V):Prop:=∃o u,G.Bs c=some o∧o.data=.cell (some u)∧c∉G.A₀∧c∉tabs∧∀B Z,ay.le G.Bs B→G.A₀ <+: Z→VR B Z v u
variable {G}
theorem fW.N9{B:ay}{c:Value}{q:Str}(x:fW B c q){h:Heap}(k:∀a o,B a=some o→h.get? a=some o):h.CodeRec c q:=
 let⟨c',o,vs,t,e,g,r⟩:=x;⟨c',o,vs,t,e,k _ _ g,r⟩
theorem bt.HX{env:Env}{B:ay}{Z:List Addr}{U:aw}{h:Heap}(F:bt G env B Z U h){y:Nat}{v:V}{c:Addr}{u:Value}(hk:env.kindOf (G.nm y)=some .free)(hc:env.cells.lookup (G.nm y)=some c)(hx:h.IsCell c (some u))(r:VR B Z v u):bt G env B Z (set U y v) h:=by
 refine aW F.ns ?_;intro m hn hm;refine⟨F.kind,F.gl,F.bi,⟨m,hn,fun z w hz zw=>?_⟩,fun z w hz=>?_,F.cU,F.dG,F.inj,F.all⟩
 ·rw[get_set]at hz
  by_cases q:y=z
  ·subst q;rw[hk]at zw;cases Option.some.inj zw
  ·rw[if_neg q]at hz;exact hm z w hz zw
 ·rw[get_set]at hz
  by_cases q:y=z
  ·subst q;rw[if_pos rfl]at hz;cases Option.some.inj hz;exact .inr ⟨.inr hk,c,u,hc,hx,r⟩
  ·rw[if_neg q]at hz;exact F.cl z w hz
theorem bt.wy{env:Env}{B:ay}{Z:List Addr}{h:Heap}:∀ {fs:List (Nat×V)} {U:aw},bt G env B Z U h→(∀p∈fs,env.kindOf (G.nm p.1)=some .free∧∃c u,env.cells.lookup (G.nm p.1)=some c∧h.IsCell c (some u)∧VR B Z p.2 u)→bt G env B Z (bc U fs) h
 |[],_,F,_=>F
 |(y,v)::fs,U,F,hf=>by
  refine Kk (hf (y,v) (.head _)) ?_;intro hk c u hc hx r;show bt G env B Z (bc (set U y v) fs) h;exact bt.wy (F.HX hk hc hx r) fun q m=>hf q (.tail _ m)
theorem eN:∀ (names:List (Str×NameKind)) (k:Nat) (acc:List (Str×Addr)),(∀p∈names,p.2≠.cell)→cellsFrom k names acc=acc
 |[],_,_,_=>rfl
 |(n',kd)::r,k,acc,h=>by
  unfold cellsFrom;have:(kd==NameKind.cell)=false:=by simpa using h (n',kd) (.head _)
  simp only[this,Bool.false_eq_true,if_false];exact eN r k acc fun p hp=>h p (.tail _ hp)
theorem A5{n:Nat}{a:Addr}{fd:FuncData}{body:List Stmt}{vs:List V}{kw:List (Str×V)}{O:Mu}{Q:V→Mu→Prop}(own:List Nat)(fs ps:List (Nat×V))
  (En:iV G a fd)(fq:fd.body=.stmts body)(hg:fd.globals=mainGlobals)(hb:fd.builtins=builtinsNs)
  (ue:fd.scope.isCoroutine=false)(l0:fd.scope.isGenerator=false)(hk:fd.scope.kind=.function)(Le:∀p∈fd.scope.names,p.2≠.cell)
  (cj:∀p∈fd.closure,fd.scope.names.lookup p.1=some .free∧∃v,nG G p.2 v)(YH:fd.closure.Pairwise fun x y=>x.2≠y.2)
  (QB:∀p∈fs,fd.scope.names.lookup (G.nm p.1)=some .free∧∃c,fd.closure.lookup (G.nm p.1)=some c∧nG G c p.2)
  (CW:∀x∈own,fd.closure.lookup (G.nm x)=none)
  (lC:∀s xs ks B Z c ct d pm,aB B Z vs xs→aB B Z (kw.map (·.2)) ks→∃binds,BindsTo s {fd with code:=c,closureTuple:=ct,doc:=d,pyModule:=pm} ⟨xs,(kw.map (·.1)).zip ks⟩ binds∧fZ (G:=G) B Z binds ps)
  (si:∀p∈ps,p.1∈own∧(fd.scope.names.lookup (G.nm p.1)=some .local∨fd.scope.names.lookup (G.nm p.1)=some .cell))
  (h:∀env:Env,env.scope=fd.scope→cn G n env own (execs body env) (bc (bc [] fs) ps) O fun r zz ar=>∃v,(r=.ret v∨(r=.next∧v=.none))∧Cl v∧Q v (ar.take O.length)):
  aU G (n+1) (.ref a) vs kw O Q:=by
 intro A hA B Z s xs ks I rv rk;refine CD En ?_;clear En;intro c ct d pm QC jD;have hl:∀a o,G.Bs a=some o→s.heap.get? a=some o:=fun a o e=>I.holds a o (I.base a o e);refine aW (lC s xs ks B Z c ct d pm rv rk) ?_;intro binds qx kF;refine wpAny_call (codeAny_call_function hA.room (hl _ _ QC) rfl ue l0 fq (jD.N9 hl) (qx _ _ _ _ ?_));show wpAny _ _ (newFunctionEnv fd.scope fd.globals fd.closure binds (fd.qualname++".<locals>.") (some a) c none fd.builtins) _ _ _;rw[hg,hb];refine dp ?_;have k1:=bN s.heap {cls:=.type "frame",data:=.dict #[]};have k2:=pushCells_keeps fd.scope.names (s.heap.push {cls:=.type "frame",data:=.dict #[]});have k:∀b o,s.heap.get? b=some o→(pushCells (s.heap.push {cls:=.type "frame",data:=.dict #[]}) fd.scope.names).get? b=some o:=fun b o e=>k2 b o (k1 b o e);have QD:∀ {c v},nG G c v→c∉Z:=fun⟨o,u,e,zz,h0,_⟩ m=>by
  rcases I.ei.2 _ m with z|z
  ·exact h0 z
  ·rw[e]at z;exact fe z
 have CO:xE B Z fd.scope.names s.heap fd.closure:=⟨fun n c m=>by
  refine OZ (cj _ m) ?_;intro gL v hv;have YI:=hv;refine mq hv ?_;clear hv;intro o u e ed h0 ht zz;exact⟨.inl gL,QD YI,ht,_,o,hl _ _ e,ed⟩,YH⟩
 have F0:=bt.fresh (scope:=fd.scope) (cl:=fd.closure) (fo:={cls:=.type "frame",data:=.dict #[]})
  (env:=newEnv fd.scope s.heap.objs.size mainGlobals (cellsFrom (s.heap.objs.size+1) fd.scope.names fd.closure) (fd.qualname++".<locals>.") (some a) c none builtinsNs) I ⟨_,rfl⟩ CO (fun zz zz=>trivial) rfl rfl rfl hk rfl rfl
 have F:=F0.wy (fs:=fs) fun p hp=>by
  refine yW (QB p hp) ?_;intro h1 c' h2 o u e ed zz zz hv;refine⟨h1,c',u,?_,⟨o,k _ _ (hl _ _ e),ed⟩,hv B Z I.base I.ei.1⟩;show(cellsFrom (s.heap.objs.size+1) fd.scope.names fd.closure).lookup _=_;rw[eN _ _ _ Le];exact h2
 refine jm (s:={s with heap:=_}) kF (fun p hp=>si p hp) (I.keeps k) F ?_
 intro bf tk F1 P1;refine⟨P1.inv.noLimit,codeAny_func ?_⟩;refine wpAny_mono (h _ rfl _ (hA.deeper _) B Z _ P1.inv F1) ?_ fun zz zz x=>x.elim;rintro fl s' ⟨r,ao,ar,B',aH,⟨v,hv,hc,q⟩,P',F',r'⟩;have P:=P1.trans P';have len:Z.length=O.length:=I.len;have out:=aG.outside (s:=s) I.ei.1 k .heap P (fun a' m=>by
  rcases List.mem_cons.mp m with e|e
  ·rw[e];exact cx _
  ·refine aW (List.mem_filterMap.mp e) ?_;intro x hx e
   have e':(cellsFrom (s.heap.objs.size+1) fd.scope.names fd.closure).lookup (G.nm x)=some a':=e;rw[eN _ _ _ Le,CW x hx]at e';exact bk e')
 rw[len]at out;rcases hv with rfl|⟨rfl,rfl⟩
 ·cases r' with|ret r=>exact⟨v,_,B',Z,q,out,r.clean hc Z⟩
 ·cases r' with|next=>exact⟨.none,_,B',Z,q,out,.none⟩
end
noncomputable def dk.up(G:dk)(Bs:ay)(A:List Addr)(h:ay.le G.Bs Bs):dk:=
 {G with Bs:=Bs,A₀:=A,hK:=fun a o e=>h a o (G.hK a o e),nolimit:=fun H hH=>G.nolimit H fun a o e=>hH a o (h a o e),load:=fun hv hg hb hH q=>G.load hv hg hb (fun a o e=>hH a o (h a o e)) q}
theorem bx.up(hG:bx G){Bs:ay}{A:List Addr}(h:ay.le G.Bs Bs):bx (G.up Bs A h):=
 ⟨hG.TI,fun H hH=>hG.Qu H fun a o e=>hH a o (h a o e),hG.nm,hG.gl,hG.K⟩
open Classical in
noncomputable def strip(B:ay)(cs:List Addr):ay:=fun a=>if a∈cs then none else B a
theorem strip_eq{B:ay}{cs:List Addr}{a:Addr}{o:Obj}(hc:∀c∈cs,∃o u,B c=some o∧o.data=.cell u)(e:B a=some o)(hd:∀v,o.data≠.cell v):strip B cs a=some o:=by
 unfold strip;rw[if_neg]
 ·exact e
 ·intro m
  refine jX (hc a m) ?_;intro o' u e' d;rw[e]at e';cases Option.some.inj e';exact hd _ d
theorem VR.strip{B:ay}{Z:List Addr}{cs:List Addr}(hc:∀c∈cs,∃o u,B c=some o∧o.data=.cell u){v:V}{x:Value}(h:VR B Z v x):VR (bg.strip B cs) Z v x:=by
 induction h with
 |none=>exact .none
 |bool=>exact .bool
 |int=>exact .int
 |str=>exact .str
 |list e l _ ih=>exact .list (strip_eq hc e (fun zz q=>by cases q)) l ih
 |tuple e l _ ih=>exact .tuple (strip_eq hc e (fun zz q=>by cases q)) l ih
 |ml e=>exact .ml e
 |gE e=>exact .gE (strip_eq hc e (fun zz q=>by cases q))
 |raw=>exact .raw
 |fn e c=>
  refine qb c ?_;clear c;intro c' o vs t e2 g d r;exact .fn (strip_eq hc e (fun zz q=>by cases q)) ⟨c',o,vs,t,e2,strip_eq hc g (fun zz q=>by rw[d]at q;cases q),d,r⟩
 |obj e e' f l _ ih=>exact .obj (strip_eq hc e (fun zz q=>by cases q)) (strip_eq hc e' (fun zz q=>by cases q)) f l ih
theorem aB.strip{B:ay}{Z:List Addr}{cs:List Addr}(hc:∀c∈cs,∃o u,B c=some o∧o.data=.cell u){v:List V}{x:List Value}(h:aB B Z v x):aB (bg.strip B cs) Z v x:=
 ⟨h.1,fun i a b p q=>(h.2 i a b p q).strip hc⟩
theorem aG.down{B Bp B1:ay}{Z aE:List Addr}{aA:Mu}{s s1:Shared}{Bs:ay}{A:List Addr}{hle:ay.le G.Bs Bs}{cs:List Addr}{O:Mu}(I0:Inv G B Z O s.heap)(hB:ay.le B Bp)(vA:∀c∈cs,B c=none)(YJ:∀a,a∉cs→Bp a=B a)
  (hc:∀c∈cs,∃o u,Bp c=some o∧o.data=.cell u)(P:aG (G.up Bs A hle) [] Bp Z s B1 aE aA s1):aG G [] B Z s (bg.strip B1 cs) aE aA s1:=by
 have U2:∀c∈cs,∃o u,B1 c=some o∧o.data=.cell u:=fun c m=>let⟨o,u,e,d⟩:=hc c m;⟨o,u,P.le _ _ e,d⟩
 have I:=P.inv;have le:ay.le B (bg.strip B1 cs):=fun a o e=>by
  unfold bg.strip;rw[if_neg (fun m=>by rw[vA a m]at e;exact bk e)]
  exact P.le _ _ (hB _ _ e)
 have off:∀ {a},B1 a=none→bg.strip B1 cs a=none:=fun e=>by unfold bg.strip;split<;>first|rfl|exact e
 refine⟨le,P.pre,⟨I0.base.trans le,fun a o e=>?_,I.len,fun i a xs h1 h2=>?_,I.dm,I.nodup,fun a m=>⟨off (I.cg a m).1,(I.cg a m).2⟩,?_,?_⟩,P.keep,P.bL,⟨P.rest.os,P.rest.bare,P.rest.gens⟩,fun a ha=>?_,P.c8⟩
 ·unfold bg.strip at e
  split at e
  ·exact bk e
  ·exact I.holds a o e
 ·refine eh (I.ml i a xs h1 h2) ?_;intro e vs n g r
  exact⟨off e,vs,n,g,r.strip U2⟩
 ·exact G.hT.strip I.tab fun a o e hd=>strip_eq U2 e hd
 ·refine⟨I0.ei.1.trans P.pre,fun a m=>?_⟩
  rcases P.c8 a m with z|z
  ·exact I0.ei.2 a z
  ·refine .inr (I0.base.off ?_)
   cases q:B a with
   |none=>rfl
   |some o=>rw[I0.holds a o q]at z;exact fe z
 ·unfold bg.strip at ha
  split at ha
  ·exact absurd rfl ha
  ·rename_i hm
   rcases P.dD a ha with z|z
   ·exact .inl (by rw[←YJ a hm];exact z)
   ·exact .inr z
theorem Ep(hG:bx G){n:Nat}{A:Around}(hA:bY n A){env:Env}{U:aw}{B:ay}{Z:List Addr}{O:Mu}{s:Shared}{xi:Nat}{fd:FuncData}{fx:Value}{vs:List V}{kw:List (Str×V)}{xs ks:List Value}{Q:V→Mu→Prop}
  (I:Inv G B Z O s.heap)(F:bt G env B Z U s.heap)(CX:get U xi=some (.fn fd))(YK:env.kindOf (G.nm xi)=some .cell)
  (cj:∀p∈fd.closure,env.kindOf p.1=some .cell∧env.cells.lookup p.1=some p.2∧∃y v,p.1=G.nm y∧get U y=some v)
  (rf:VR B Z (.fn fd) fx)(rv:aB B Z vs xs)(rk:aB B Z (kw.map (·.2)) ks)
  (h:∀G' f0,bx G'→iV G' f0 fd→(∀p∈fd.closure,∀y v,p.1=G.nm y→get U y=some v→nG G' p.2 (if y=xi then .raw (.ref f0) else v))→∀f,iV G' f fd→aU G' n (.ref f) vs kw O Q):
  wpAny (model G.prog G.w) A (call fx xs ((kw.map (·.1)).zip ks)) (PV G B Z s Q) bM s:=by
 have eV:∀p∈fd.closure,∃o u,s.heap.get? p.2=some o∧o.data=.cell u:=fun p hp=>by
  refine qa (cj p hp) ?_;intro zz hl zz;refine cw (F.dG p.1 p.2 (aY hl)) ?_;intro zz zz zz zz u o e d;exact⟨o,u,e,d⟩
 have vA:∀c∈fd.closure.map (·.2),B c=none∧c∉Z∧c∉tabs∧∃o u,s.heap.get? c=some o∧o.data=.cell u:=fun c m=>by
  refine aW (List.mem_map.mp m) ?_;intro p hp z1;subst z1;refine qa (cj p hp) ?_;intro hk hl zz;refine cw (F.dG p.1 p.2 (aY hl)) ?_;intro a1 a2 a3 zz u o e d;exact⟨a1.resolve_left (by rw[hk];nofun),a2,a3,o,u,e,d⟩
 let Bp:=eI B (fd.closure.map (·.2)) s.heap
 have le:ay.le B Bp:=jE _ _ _;have QE:∀c∈fd.closure.map (·.2),Bp c=s.heap.get? c:=fun c m=>jF (vA c m).1 m
 have I':Inv (G.up Bp Z (I.base.trans le)) Bp Z O s.heap:=by
  refine⟨.refl _,fun a o e=>?_,I.len,fun i a ys h1 h2=>?_,I.dm,I.nodup,fun a m=>⟨eF (I.cg a m).1 fun m'=>(vA a m').2.2.1 m,(I.cg a m).2⟩,G.hT.mono I.tab le fun zz zz zz x=>x,List.prefix_refl _,fun a m=>.inl m⟩
  ·cases q:B a with
   |some o'=>rw[le a o' q]at e;cases Option.some.inj e;exact I.holds a _ q
   |none=>
    by_cases m:a∈fd.closure.map (·.2)
    ·rw[QE a m]at e;exact e
    ·rw[show Bp a=none from eF q m]at e;exact bk e
  ·refine eh (I.ml i a ys h1 h2) ?_;intro e us m g r
   exact⟨eF e fun m'=>(vA a m').2.1 (List.mem_of_getElem? h1),us,m,g,r.mono le (List.prefix_refl _)⟩
 have fnAt:∀ {u:Value},VR B Z (.fn fd) u→∃f,u=.ref f∧iV (G.up Bp Z (I.base.trans le)) f fd:=fun r=>by
  cases r with
  |fn e c=>exact⟨_,rfl,_,_,_,_,le _ _ e,c.mono le⟩
 obtain⟨ci,ui,YL,A6,ri⟩:∃c u,env.cells.lookup (G.nm xi)=some c∧s.heap.IsCell c (some u)∧VR B Z (.fn fd) u:=by
  rcases F.cl xi _ CX with z|⟨_,c,u,h1,h2,h3⟩
  ·rw[YK]at z;cases Option.some.inj z
  ·exact⟨c,u,h1,h2,h3⟩
 refine aW (fnAt ri) ?_;intro f0 z1;subst z1;intro c0;refine aW (fnAt rf) ?_;intro f z1;subst z1;intro c1;have key:=h (G.up Bp Z (I.base.trans le)) f0 (hG.up _) c0 (fun p hp y v hy hv=>?_) f c1 A hA Bp Z s xs ks I' (rv.mono le (List.prefix_refl _)) (rk.mono le (List.prefix_refl _))
 ·refine wpAny_mono key ?_ fun zz zz x=>x
  rintro x s1 ⟨v,aA,B1,aE,q,P,r⟩;have hc:∀c∈fd.closure.map (·.2),∃o u,Bp c=some o∧o.data=.cell u:=fun c m=>by
   refine GB (vA c m) ?_;intro zz zz zz o u e d;exact⟨o,u,(QE c m).trans e,d⟩
  exact⟨v,aA,_,aE,q,aG.down I le (fun c m=>(vA c m).1) (fun a m=>by
   show eI B _ _ a=_;cases q:B a with
   |some o=>exact le a o q
   |none=>exact eF q m) hc P,r.strip fun c m=>let⟨o,u,e,d⟩:=hc c m;⟨o,u,P.le _ _ e,d⟩⟩
 ·refine qa (cj p hp) ?_;intro hk hl zz
  have m:p.2∈fd.closure.map (·.2):=List.mem_map_of_mem hp
  rw[hy]at hk hl;refine vW (vA p.2 m) ?_;intro zz h0 ht zz;rcases F.cl y v hv with z|⟨_,c,u,h1,⟨o,e,d⟩,h3⟩
  ·rw[hk]at z;cases Option.some.inj z
  ·rw[hl]at h1;cases Option.some.inj h1
   refine⟨o,u,(QE _ m).trans e,d,h0,ht,fun B2 aV hB dJ=>?_⟩
   by_cases q:y=xi
   ·subst q
    rw[CX]at hv;cases Option.some.inj hv;rw[YL]at hl;cases Option.some.inj hl;refine aW A6 ?_;clear A6;intro o' e' d';rw[e]at e';cases Option.some.inj e';rw[d]at d';cases d';rw[if_pos rfl];exact .raw
   ·rw[if_neg q]
    exact h3.mono (le.trans hB) dJ
theorem fU.U3{q:Addr}{h:Heap}{o:Obj}{fd:FuncData}(e:h.get? q=some o)(hd:o.data=.func fd):fU G (.ref q) h:=by
 obtain⟨oc,od,dt,sl⟩:=o;cases hd;exact keeps_F h ⟨oc,od,_,sl,e⟩
theorem bD.U4{n:Nat}{f:Addr}{fd:FuncData}{vs:List V}{kw:List (Str×V)}{O:Mu}{Q:V→Mu→Prop}(hf:iV G f fd)(h:aU G n (.ref f) vs kw O Q):bD G n (.raw (.ref f)) vs kw O Q:=by
 intro A hA B Z s fx xs ks I rf rv rk;refine VR.jY rf ?_;refine CD hf ?_;clear hf;intro c ct d pm e zz;exact⟨.U3 (I.holds _ _ (I.base _ _ e)) rfl,h A hA B Z s xs ks I rv rk⟩
section
variable{n:Nat}{env:Env}{U:aw}{O:Mu}{Q:V→Mu→Prop}
theorem zx{f:Expr}{args:List Expr}{pos:Pos}(he:eval (.Call f args [] pos) env=(do callWith pos (←eval f env) [] (backTo pos (starEach args env)) (backToKw pos (keywordEach [] env))))
  (hp:eG args env)
  (h:bz G n env (eval f env) U O fun fv aA=>eZ G n env (spliced (backTo pos (starEach args env))) U aA fun vs aZ=>
   ∀A,bY n A→∀B Z s fx xs,Inv G B Z aZ s.heap→bt G env B Z U s.heap→VR B Z fv fx→aB B Z vs xs→fU G fx s.heap∧wpAny (model G.prog G.w) A (call fx xs []) (PV G B Z s Q) bM s):
  bz G n env (eval (.Call f args [] pos) env) U O Q:=by
 intro A hA B Z s I F;rw[he];refine wpAny_bind (wpAny_mono (h A hA B Z s I F) ?_ fun zz zz x=>x);rintro fx s1 ⟨fv,aA,B1,aE,h1,P1,r1⟩;have F1:=F.same P1;refine callWith_of (P:=fU G fx) (by rw[plain_any hp,ni _ _ _ rfl];rfl) (fun zz x=>x) (iE (kws:=[]) hp rfl ?_)
 refine wpAny_mono (h1 A hA B1 aE s1 P1.inv F1) ?_ fun zz zz x=>x;rintro xs s2 ⟨vs,aZ,B2,aV,h2,P2,r2⟩;have F2:=F1.same P2;obtain⟨a,b⟩:=h2 A hA B2 aV s2 fx xs P2.inv F2 (r1.mono P2.le P2.pre) r2;refine kwAll_nil ⟨a,?_⟩;rw[List.nil_append];exact wpAny_mono b (fun z s6 h6=>PV.after P1 (PV.after P2 h6)) fun zz zz x=>x
end
theorem fU.U5{B:ay}{Z:List Addr}{O:Mu}{s:Shared}{fd:FuncData}{fx:Value}(I:Inv G B Z O s.heap)(r:VR B Z (.fn fd) fx):fU G fx s.heap:=by
 cases r with
 |fn e c=>exact .U3 (I.holds _ _ e) rfl
noncomputable def iG:Stmt→List Arg×List Stmt×Scope
 |.FunctionDef _ a b _ _ _ s _ _ _=>(a.args,b,s)
 |_=>([],[],default)
noncomputable def HY:List Nat→List Arg→List Arg
 |[],_=>[]
 |x::r,as=>⟨aI x,none,(as.headD default).pos⟩::HY r as.tail
noncomputable abbrev pI(ps:List Nat)(y:Stmt):Arguments:=⟨[],HY ps (iG y).1,none,[],[],none,[]⟩
noncomputable abbrev A7(x:Nat)(ps:List Nat)(y:Stmt):Stmt:=.FunctionDef (aI x) (pI ps y) (iG y).2.1 [] none [] (iG y).2.2 none (aI x) y.pos
section
noncomputable def HZ(sc:Scope)(mj own:List Nat):Bool:=
 sc.kind == .function && !sc.isCoroutine && !sc.isGenerator&&sc.names.all (fun p=>p.2 != .cell)&&decide ((sc.names.map (·.1)).Nodup) &&
  sc.names.all (fun p=>p.2 != .free||(mj.map aI).contains p.1)&&mj.all (fun y=>sc.names.lookup (aI y)==some .free)&&own.all fun x=>sc.names.lookup (aI x)==some .local
structure Er(sc:Scope)(mj own:List Nat):Prop where
 kind:sc.kind=.function
 co:sc.isCoroutine=false
 gen:sc.isGenerator=false
 nc:∀p∈sc.names,p.2≠.cell
 nodup:(sc.names.map (·.1)).Nodup
 all:∀p∈sc.names,p.2=.free→∃y∈mj,aI y=p.1
 fr:∀y∈mj,sc.names.lookup (aI y)=some .free
 own:∀x∈own,sc.names.lookup (aI x)=some .local
theorem H0{sc:Scope}{mj own:List Nat}(h:HZ sc mj own=true):Er sc mj own:=by
 unfold HZ at h;simp only[Bool.and_eq_true,Bool.not_eq_true',decide_eq_true_eq]at h;obtain⟨⟨⟨⟨⟨⟨⟨h1,h2⟩,h3⟩,h4⟩,h5⟩,h6⟩,h7⟩,h8⟩:=h;refine⟨eq_of_beq h1,h2,h3,fun p m=>?_,h5,fun p m hf=>?_,fun y m=>?_,fun x m=>?_⟩
 ·simpa using List.all_eq_true.mp h4 p m
 ·have:=List.all_eq_true.mp h6 p m
  rw[hf]at this;have h:(mj.map aI).contains p.1=true:=by simpa using this
  refine aW (List.mem_map.mp (by simpa using h)) ?_;intro y hy e
  exact⟨y,hy,e⟩
 ·exact eq_of_beq (List.all_eq_true.mp h7 y m)
 ·exact eq_of_beq (List.all_eq_true.mp h8 x m)
variable (G)
structure CY(cN:List (Str×Addr))(fs:List (Nat×V)):Prop where
 each:∀p∈fs,∃c,cN.lookup (G.nm p.1)=some c∧nG G c p.2
 all:∀p∈cN,∃q∈fs,p.1=G.nm q.1
 cell:∀p∈cN,∃v,nG G p.2 v
 pw:cN.Pairwise fun x y=>x.2≠y.2
variable {G}
noncomputable abbrev qA(lF q:Str)(ps:Arguments)(bd:List Stmt)(sc:Scope)(cN:List (Str×Addr)):FuncData:=fnX lF q ps bd sc cN .none .none .none .none none .none .none
theorem wz(hG:bx G){n:Nat}{lF q:Str}{A8:Arguments}{bd:List Stmt}{sc:Scope}{cN:List (Str×Addr)}{st:Ss}{own:List Nat}{fs ps:List (Nat×V)}{vs:List V}{f:Addr}{O:Mu}{Q:V→Mu→Prop}
  (hS:Er sc (fs.map (·.1)) own)(hC:CY G cN fs)(oP:cW aI st sc own bd=true)(A9:dP aI st bd=bd)(hf:iV G f (qA lF q A8 bd sc cN))(CW:∀p∈ps,p.1∈own)
  (lC:∀s xs c ct d pm B Z,aB B Z vs xs→∃binds,BindsTo s {qA lF q A8 bd sc cN with code:=c,closureTuple:=ct,doc:=d,pyModule:=pm} ⟨xs,[]⟩ binds∧fZ (G:=G) B Z binds ps)
  (h:aX G bX n st (bc (bc [] fs) ps) O (qz O Q)):aU G (n+1) (.ref f) vs [] O Q:=by
 refine A5 (body:=bd) own fs ps hf rfl rfl rfl hS.co hS.gen hS.kind hS.nc (fun p hp=>?_) hC.pw (fun p hp=>?_) (fun x hx=>?_) (fun s xs ks B Z c ct d pm rv rk=>?_) (fun p hp=>⟨CW p hp,.inl ?_⟩) (fun env hs=>?_)
 ·refine aW (hC.all p hp) ?_;intro q' hq e
  have:=hS.fr q'.1 (List.mem_map_of_mem hq);rw[←hG.nm,←e]at this;exact⟨this,hC.cell p hp⟩
 ·refine aW (hC.each p hp) ?_;intro c h1 h2
  have:=hS.fr p.1 (List.mem_map_of_mem hp);rw[←hG.nm]at this;exact⟨this,c,h1,h2⟩
 ·cases q:cN.lookup (G.nm x) with
  |none=>rfl
  |some c=>
   refine aW (hC.all _ (aY q)) ?_;intro q' hq e;have h1:=hS.own x hx;have h2:=hS.fr q'.1 (List.mem_map_of_mem hq);have e':aI x=aI q'.1:=by rw[←hG.nm,←hG.nm];exact e
   rw[e',h2]at h1;cases Option.some.inj h1
 ·refine aB.bE rk ?_
  exact lC s xs c ct d pm B Z rv
 ·have:=hS.own p.1 (CW p hp)
  rw[←hG.nm]at this;exact this
 ·refine A9▸cn.mono (eM hG.nm hG.gl st hS.kind oP hs h) fun r ao ar q=>?_
  unfold qz at q;cases r with
  |next=>exact⟨.none,.inr ⟨rfl,rfl⟩,.none,q⟩
  |brk=>exact q.elim
  |cont=>exact q.elim
  |ret v=>exact⟨v,.inl rfl,q.1,q.2⟩
theorem zy(hG:bx G){n:Nat}{A:Around}(hA:bY n A){env:Env}{U:aw}{B:ay}{Z:List Addr}{O:Mu}{s:Shared}{xi:Nat}{lF q:Str}{A8:Arguments}{bd:List Stmt}{sc:Scope}{own:List Nat}{fs:List (Nat×V)}{fx:Value}{vs:List V}{xs:List Value}{Q:V→Mu→Prop}
  (hS:Er sc (fs.map (·.1)) own)(I:Inv G B Z O s.heap)(F:bt G env B Z U s.heap)(CX:get U xi=some (.fn (qA lF q A8 bd sc (cK env.cells sc.names []))))(A6:xi∈fs.map (·.1))
  (hk:∀p∈fs,env.kindOf (aI p.1)=some .cell)(hv:∀p∈fs,get U p.1=some p.2)
  (rf:VR B Z (.fn (qA lF q A8 bd sc (cK env.cells sc.names []))) fx)(rv:aB B Z vs xs)
  (h:∀G' f0 cN,bx G'→CY G' cN (fs.map fun p=>(p.1,if p.1=xi then .raw (.ref f0) else p.2))→iV G' f0 (qA lF q A8 bd sc cN)→∀f,iV G' f (qA lF q A8 bd sc cN)→aU G' n (.ref f) vs [] O Q):
  wpAny (model G.prog G.w) A (call fx xs []) (PV G B Z s Q) bM s:=by
 have gL:∀p∈fs,env.kindOf (G.nm p.1)=some .cell:=fun p m=>by rw[hG.nm];exact hk p m
 have lj:∀p∈sc.names,p.2=.free→(env.cells.lookup p.1).isSome=true:=fun p hp hf=>by
  refine aW (hS.all p hp hf) ?_;intro y hy e;refine aW (List.mem_map.mp hy) ?_;intro r hr z1;subst z1;obtain⟨c,hc⟩:=F.all _ (gL r hr);rw[←e,←hG.nm,hc];rfl
 have GZ:=nf env.cells sc.names [] lj;have mem:∀p∈cK env.cells sc.names [],env.cells.lookup p.1=some p.2∧∃r∈fs,p.1=G.nm r.1:=fun p hp=>by
  rcases GZ p.1 p.2 hp with z|⟨h1,h2⟩
  ·cases z
  ·refine aW (hS.all _ h1 rfl) ?_;intro y hy e
   refine aW (List.mem_map.mp hy) ?_;intro r hr z1;subst z1;exact⟨h2,r,hr,by rw[hG.nm];exact e.symm⟩
 have qf:((cK env.cells sc.names []).map (·.1)).Nodup:=by
  rw[gc];simp only[List.map_nil,List.append_nil];exact List.pairwise_reverse.mpr (List.Pairwise.imp (fun h=>Ne.symm h) (List.Nodup.sublist (List.Sublist.map _ List.filter_sublist) hS.nodup))
 have KG:(cK env.cells sc.names []).Pairwise fun x y=>x.2≠y.2:=by
  have hp:=List.pairwise_map.mp qf;refine List.Pairwise.imp_of_mem ?_ hp;intro a b ma mb xG e;have ea:=(mem a ma).1;have eb:=(mem b mb).1;rw[e]at ea;exact xG (F.inj _ _ _ ea eb)
 have look:∀p∈fs,∃c,(cK env.cells sc.names []).lookup (G.nm p.1)=some c∧(G.nm p.1,c)∈cK env.cells sc.names []:=fun p hp=>by
  have:(G.nm p.1)∈(cK env.cells sc.names []).map (·.1):=by
   rw[gc];simp only[List.map_nil,List.append_nil,List.mem_reverse];refine List.mem_map.mpr ⟨(G.nm p.1,.free),List.mem_filter.mpr ⟨mem_of_lookupK ?_,rfl⟩,rfl⟩;rw[hG.nm];exact hS.fr p.1 (List.mem_map_of_mem hp)
  refine aW (List.mem_map.mp this) ?_;intro r hr e;refine⟨r.2,lookup_of_mem_nodup qf ?_,?_⟩<;>(rw[←e];exact hr)
 refine aW (List.mem_map.mp A6) ?_;intro ri YM YN;refine Ep (kw:=[]) (ks:=[]) (xi:=xi) hG hA I F CX (YN▸gL ri YM) (fun p hp=>?_) rf rv .nil fun G' f0 vB c0 eV f cf=>h G' f0 _ vB ⟨fun p hp=>?_,fun p hp=>?_,fun p hp=>?_,KG⟩ c0 f cf
 ·refine Gy (mem p hp) ?_;intro h1 r hr e
  exact⟨e▸gL r hr,h1,r.1,r.2,e,hv r hr⟩
 ·refine aW (List.mem_map.mp hp) ?_;intro r hr z1;subst z1
  refine aW (look r hr) ?_;intro c h1 h2;refine⟨c,?_,eV _ h2 r.1 r.2 rfl (hv r hr)⟩;show _=_;rw[vB.nm,←hG.nm];exact h1
 ·refine Gy (mem p hp) ?_;intro zz r hr e
  refine⟨_,List.mem_map_of_mem hr,?_⟩;show p.1=G'.nm r.1;rw[vB.nm,←hG.nm];exact e
 ·refine Gy (mem p hp) ?_;intro zz r hr e
  exact⟨_,eV _ hp r.1 r.2 e (hv r hr)⟩
end
theorem H2{n:Nat}{env:Env}{U:aw}{O:Mu}{R:List V→Mu→Prop}{f e:Expr}{pos:Pos}(he:eval (.Call f [e] [] pos) env=(do callWith pos (←eval f env) [] (backTo pos (starEach [e] env)) (backToKw pos (keywordEach [] env))))
  (hp:eG [e] env)
  (h:bz G n env (eval f env) U O fun fv aA=>fv=.raw (.type "reversed")∧eZ G n env (spliced (backTo pos (starEach [e] env))) U aA fun vs aZ=>∃xs,vs=[.list xs]∧R xs.reverse aZ):
  UU G n env (eval (.Call f [e] [] pos) env) U O R:=by
 intro A hA B Z s I F K hK;rw[he];refine wpAny_bind (wpAny_mono (h A hA B Z s I F) ?_ fun _ _ x=>x);rintro fx s1 ⟨fv,aA,B1,aE,⟨rfl,h1⟩,P1,r1⟩;have F1:=F.same P1;refine VR.jY r1 ?_;refine callWith_of (P:=fun _=>True) (by rw[plain_any hp,ni _ _ _ rfl];rfl) (fun _ _=>⟨.machine,.inr (.inl rfl),Looks.of_pure rfl⟩) (iE (kws:=[]) hp rfl ?_)
 refine wpAny_mono (h1 A hA B1 aE s1 P1.inv F1) ?_ fun _ _ x=>x;rintro xs s2 ⟨vs,aZ,B2,aV,⟨ys,rfl,hR⟩,P2,r2⟩;refine kwAll_nil ⟨trivial,?_⟩;refine aB.aN r2 ?_;intro x _ rx r;refine aB.bE r ?_;have I2:=P2.inv;cases rx with
 |list el l h9=>
  rename_i a us k;have hl:s2.heap.IsList a us.toArray:=⟨_,I2.holds _ _ el,rfl,k,rfl⟩;have bA:a<s2.heap.objs.size:=Heap.lt_size (I2.holds _ _ el);show wpAny _ _ (call (.type "reversed") [.ref a] _) _ _ _;refine call_reversed_list hl ?_;have hit:(s2.heap.push (revObj a ((us.toArray.size:Int)-1))).IsRevIter s2.heap.objs.size a ((us.toArray.size:Int)-1-((0:Nat):Int)):=⟨_,Heap.get?_push_size _ rfl,rfl,by simp[revObj]⟩
  refine wpAny_pyIter_revIter hit ?_;have YO:us.toArray.size=ys.reverse.length:=by simp[l]
  refine hK B2 aV aZ s2 ys.reverse s2.heap.objs.size _ [s2.heap.objs.size,a] (fun i v=>us.toArray[us.toArray.size-1-i]?=some v)
   (fun i h=>i≤us.toArray.size∧h.IsRevIter s2.heap.objs.size a ((us.toArray.size:Int)-1-(i:Int))∧h.IsList a us.toArray) hR (P1.trans P2) (cx _) (bN _ _) (fun _ _ st=>let⟨o,e,_⟩:=st.2.1;⟨o,e⟩) (fun A' jR=>?_) (fun i y hi p=>?_) ⟨Nat.zero_le _,hit,hl.push _⟩ (fun b hb=>?_)
  ·rw[←YO]
   exact Walks.listRev (prog:=G.prog) (w:=G.w) jR s2.heap.objs.size a (Nat.ne_of_lt bA) us.toArray
  ·rw[List.length_reverse]at hi
   rw[List.getElem?_reverse hi];have p':us[us.length-1-i]?=some y:=by simpa using p
   rw[l];have Oa:us.length-1-i<ys.length:=by exact ag 3 0 (aa (ax ab au) (aa (ak af ab) (ak (bb (bb au aC) af) ab))) (by kd_p) l hi
   exact⟨ys[us.length-1-i],List.getElem?_eq_getElem Oa,h9 _ _ y (List.getElem?_eq_getElem Oa) p'⟩
  ·rcases List.mem_cons.mp hb with rfl|hb
   ·exact .inl rfl
   ·rw[List.mem_singleton.mp hb];exact .inr (by rw[el];simp)
section
variable{M:Model}{A:Around}{R:GenEnd}{Y:Protocol}{n:Nat}{s0:Shared}{c:Code}{fs:List Frame}{s:Shared}{env:Env}
 {K:Flow→Sem Fin}{H:Value→Sem Fin}{gd:Bool→Bool}{lv:List Value→List Value}
theorem qB{st:Stmt}(h:wpAny M (A.over c fs) (exec st env) (fun f s'=>Seg M A R Y n s0 c (K f) fs s') bM s):Seg M A R Y n s0 c ((exec st env).wrap K H gd lv) fs s:=
 seg_wrap (wpAny_mono h (fun zz zz x=>x) fun zz zz x=>x.elim)
theorem x7{test:Expr}{body orelse:List Stmt}{pos:Pos}
  (h:wpAny M (A.over c fs) (isTrue test env (eval test env)) (fun b s'=>match b with
   |true=>Seg M A R Y n s0 c ((execs body env).wrap K H gd lv) fs s'
   |false=>Seg M A R Y n s0 c ((execs orelse env).wrap K H gd lv) fs s') bM s):
  Seg M A R Y n s0 c ((exec (.If test body orelse pos) env).wrap K H gd lv) fs s:=by
 have e:exec (.If test body orelse pos) env=(do standAt pos;if ←isTrue test env (eval test env) then execs body env else execs orelse env):=rfl
 rw[e];refine seg_at ?_;show Seg M A R Y n s0 c ((isTrue test env (eval test env) >>= fun b=>if b=true then execs body env else execs orelse env).wrap K H gd lv) fs s
 rw[Sem.bind_eq_wrap',Sem.wrap_wrap];refine seg_wrap (wpAny_mono h (fun b s' hb=>?_) fun zz zz x=>x.elim);cases b with
 |true=>exact hb
 |false=>exact hb
noncomputable abbrev je(env:Env)(K:Flow→Sem Fin)(H:Value→Sem Fin)(gd:Bool→Bool)(lv:List Value→List Value)(c:Code)(p:Pos):Frame:=
 .ret (fun r=>((match r with | .ok f=>(.pure f:Sem Flow) | .error e=>.raise e).onRaise fun(x:Value)=>do
    if(←field x 1)==Value.none then unsupported "frame.own-activation:exception-without-traceback"
    setFlight x env.frame).wrap K H gd lv) none (gd false) (lv []) c p []
theorem H3{target iter:Expr}{body orelse:List Stmt}{pos:Pos}
  (h:wpAny M (A.over c fs) (eval iter env) (fun x s1=>wpAny M (A.over c fs) (pyIter x) (fun it s2=>∀p,Seg M A R Y n s0 (.forLoop target it body orelse env) (M.den (.forLoop target it body orelse env)) (je env K H gd lv c p::fs) s2) bM s1) bM s)
  (hf:∀x,foldedSetIterable iter env x=pure x):
  Seg M A R Y n s0 c ((exec (.For target iter body orelse pos) env).wrap K H gd lv) fs s:=by
 have e:exec (.For target iter body orelse pos) env=(do
  standAt pos
  let x ←foldedSetIterable iter env (←eval iter env)
  standAt iter.pos
  runOwn (.forLoop target (←holding [x] (pyIter x)) body orelse env) env):=rfl
 rw[e];refine seg_at ?_;show Seg M A R Y n s0 c ((eval iter env >>= fun v=>foldedSetIterable iter env v >>= fun x=>standAt iter.pos >>= fun zz=>(holding [x] (pyIter x)) >>= fun it=>runOwn (.forLoop target it body orelse env) env).wrap K H gd lv) fs s;rw[Sem.bind_eq_wrap',Sem.wrap_wrap];refine seg_wrap (wpAny_mono h (fun x s1 h1=>?_) fun zz zz x=>x.elim);simp only[hf];show Seg M A R Y n s0 c ((standAt iter.pos >>= fun zz=>(holding [x] (pyIter x)) >>= fun it=>runOwn (.forLoop target it body orelse env) env).wrap K H _ _) fs s1;refine seg_at ?_;show Seg M A R Y n s0 c (((holding [x] (pyIter x)) >>= fun it=>runOwn (.forLoop target it body orelse env) env).wrap K H _ _) fs s1;rw[Sem.bind_eq_wrap',Sem.wrap_wrap];refine seg_wrap (wpAny_holding (wpAny_mono h1 (fun it s2 h2=>?_) fun zz zz x=>x.elim));exact seg_call h2
end
section
variable{prog:Program}{w:World}{A:Around}{R:GenEnd}{Y:Protocol}{n:Nat}{s0:Shared}{fs:List Frame}{s:Shared}{env:Env}
noncomputable abbrev Ba(target:Expr)(it:Value)(body orelse:List Stmt)(env:Env):Flow→Sem Fin:=fun f=>match f with
 |.next | .cont=>.pure (.again (.forLoop target it body orelse env))
 |.brk=>.pure (.done .next)
 |.ret v=>.pure (.done (.ret v))
noncomputable abbrev Bb(env:Env):Value→Sem Fin:=fun e=>(do noteFrame e env;theTreesLotGoes e:Sem Unit).wrap (fun zz=>.raise e) .raise id id
theorem pJ{target:Expr}{it:Value}{body orelse:List Stmt}
  (h:wpAny (model prog w) (A.over (.forLoop target it body orelse env) fs) (pyNext it) (fun r s1=>match r with
   |none=>Seg (model prog w) A R Y n s0 (.block orelse env) ((model prog w).den (.block orelse env)) fs s1
   |some v=>wpAny (model prog w) (A.over (.forLoop target it body orelse env) fs) (letOwnedTupleGo target it v) (fun zz s2=>
     wpAny (model prog w) (A.over (.forLoop target it body orelse env) fs) (assign target env v) (fun zz s3=>
      Seg (model prog w) A R Y n s0 (.forLoop target it body orelse env) ((execs body env).wrap (Ba target it body orelse env) (Bb env) id id) fs s3) bM s2) bM s1) bM s):
  Seg (model prog w) A R Y n s0 (.forLoop target it body orelse env) ((model prog w).den (.forLoop target it body orelse env)) fs s:=by
 show Seg _ A R Y n s0 _ ((forTurn target it body orelse env).onRaise (fun x=>do noteFrame x env;theTreesLotGoes x)) fs s
 unfold forTurn;rw[Sem.onRaise_eq_wrap];refine seg_at ?_;show Seg _ A R Y n s0 _ (((pyNext it).onRaise (fun zz=>standAt {target.pos with line:=0}) >>= _).wrap _ _ _ _) fs s
 rw[Sem.bind_eq_wrap',Sem.wrap_wrap];refine seg_wrap (wpAny_onRaise (wpAny_mono h (fun r s1 h1=>?_) fun zz zz x=>x.elim));cases r with
 |none=>exact seg_again rfl h1
 |some v=>
  show Seg _ A R Y n s0 _ ((letOwnedTupleGo target it v >>= _).wrap _ _ _ _) fs s1;rw[Sem.bind_eq_wrap',Sem.wrap_wrap];refine seg_wrap (wpAny_mono h1 (fun zz s2 h2=>?_) fun zz zz x=>x.elim);show Seg _ A R Y n s0 _ ((assign target env v >>= _).wrap _ _ _ _) fs s2;rw[Sem.bind_eq_wrap',Sem.wrap_wrap];refine seg_wrap (wpAny_mono h2 (fun zz s3 h3=>?_) fun zz zz x=>x.elim);show Seg _ A R Y n s0 _ ((execs body env >>= _).wrap _ _ _ _) fs s3;rw[Sem.bind_eq_wrap',Sem.wrap_wrap];rw[Sem.wrap_congr (execs body env) _ _ (K':=Ba target it body orelse env) (H':=Bb env) (fun f=>by cases f<;>rfl)
    (fun e=>by first|exact Sem.bind_eq_wrap _ _|(show(do noteFrame e env;theTreesLotGoes e:Sem Unit).bind (fun zz=>.raise e)=_;rw[Sem.bind_eq_wrap]))]
  exact h3
theorem vC{K:Flow→Sem Fin}{H:Value→Sem Fin}{gd:Bool→Bool}{lv:List Value→List Value}{c:Code}{p:Pos}
  (h:Seg (model prog w) A R Y n s0 c (K .next) fs s):Seg (model prog w) A R Y n s0 (.block [] env) ((model prog w).den (.block [] env)) (je env K H gd lv c p::fs) s:=by
 show Seg _ A R Y n s0 _ (leafOf (.ok .next)) _ s
 exact seg_leaf (.ok .next) h
end
section
noncomputable def dk.gen(G:dk)(T:Addr→Option Obj):dk:=
 {G with A₀:=[],TI:=fun zz h=>∀a∈tabs,∃o,T a=some o∧h.get? a=some o,hT:=⟨fun x zz hk a m=>let⟨o,e,g⟩:=x a m;⟨o,e,hk a m o g⟩,fun x a m=>let⟨o,_,g⟩:=x a m;⟨o,g⟩,fun x zz=>x⟩}
variable (G)
structure oQ(h:Heap):Prop where
 bs:∀a o,G.Bs a=some o→h.get? a=some o
 tb:∀a∈tabs,∃o,h.get? a=some o
structure fS(T:Addr→Option Obj)(W:List Addr)(B:ay)(s0 s:Shared):Prop where
 inv:Inv (G.gen T) B [] [] s.heap
 keep:∀b o,b∉W→s0.heap.get? b=some o→s.heap.get? b=some o
 rest:Rest s0 s
 off:∀a∈W,B a=none∧a∉tabs∧∃o,s.heap.get? a=some o
 fresh:∀a,B a≠none→G.Bs a≠none∨s0.heap.get? a=none
variable {G}
theorem oR(dS:∀a∈tabs,G.Bs a=none){h:Heap}(b:oQ G h):Inv (G.gen h.get?) G.Bs [] [] h:=
 ⟨.refl _,b.bs,rfl,(fun i a xs h1=>by cases h1),(fun zz m=>nomatch m),.nil,fun a m=>⟨dS a m,(fun m=>nomatch m)⟩,fun a m=>let⟨o,e⟩:=b.tb a m;⟨o,e,e⟩,List.prefix_refl _,(fun zz m=>nomatch m)⟩
theorem fS.post{T:Addr→Option Obj}{W W':List Addr}{B B':ay}{s0 s s':Shared}(I:fS G T W B s0 s)(P:aG (G.gen T) W' B [] s B' [] [] s')(hW:∀a∈W',a∈W):fS G T W B' s0 s':=by
 have kp:∀b o,b∉W'→s.heap.get? b=some o→s'.heap.get? b=some o:=fun b o hb e=>by
  by_cases ht:b∈tabs
  ·refine aW (I.inv.tab b ht) ?_;intro o1 t1 g1
   refine aW (P.inv.tab b ht) ?_;intro o2 t2 g2;rw[t1]at t2;cases Option.some.inj t2;rw[e]at g1;cases Option.some.inj g1;exact g2
  ·exact P.keep b o (by simp[hb,ht]) e
 refine⟨P.inv,fun b o hb e=>kp b o (fun m=>hb (hW b m)) (I.keep b o hb e),I.rest.trans P.rest,fun a m=>?_,fun a ha=>?_⟩
 ·refine yU (I.off a m) ?_;intro h1 h2 o e
  refine⟨P.eY e h1 (fun m=>nomatch m),h2,?_⟩
  by_cases hm:a∈W'
  ·exact P.bL a hm
  ·exact⟨o,kp a o hm e⟩
 ·rcases P.dD a ha with z|z|z
  ·exact I.fresh a z
  ·cases z
  ·refine .inr ?_
   cases q:s0.heap.get? a with
   |none=>rfl
   |some o=>
    by_cases hm:a∈W
    ·refine yU (I.off a hm) ?_;intro zz zz o' e;rw[z]at e;exact bk e
    ·rw[I.keep a o hm q]at z;exact fe z
theorem fS.raw{T:Addr→Option Obj}{W:List Addr}{B:ay}{s0 s:Shared}{h':Heap}{tk:Nat}(I:fS G T W B s0 s)(k:∀b o,b∉W→s.heap.get? b=some o→h'.get? b=some o)(here:∀a∈W,∃o,h'.get? a=some o):fS G T W B s0 {s with heap:=h',toks:=tk}:=by
 have J:=I.inv;refine⟨⟨J.base,fun a o e=>k a o (fun m=>by rw[(I.off a m).1]at e;exact bk e) (J.holds a o e),rfl,(fun i a xs h1=>by cases h1),(fun zz m=>nomatch m),.nil,J.cg,fun a m=>?_,J.ei⟩,fun b o hb e=>k b o hb (I.keep b o hb e),I.rest.trans .heap,fun a m=>⟨(I.off a m).1,(I.off a m).2.1,here a m⟩,I.fresh⟩
 refine aW (J.tab a m) ?_;intro o e g;exact⟨o,e,k a o (fun q=>(I.off a q).2.1 m) g⟩
theorem fS.start(dS:∀a∈tabs,G.Bs a=none){W:List Addr}{s:Shared}(b:oQ G s.heap)(hW:∀a∈W,G.Bs a=none∧a∉tabs∧∃o,s.heap.get? a=some o):fS G s.heap.get? W G.Bs s s:=
 ⟨oR dS b,fun zz zz zz e=>e,.refl s,hW,fun zz h=>.inl h⟩
inductive rt:V→Prop where
 |none:rt .none
 |bool {b:Bool}:rt (.bool b)
 |int {i:Int}:rt (.int i)
 |str {x:Str}:rt (.str x)
theorem rt.vr{B B':ay}{Z aH:List Addr}{v:V}{u:Value}(h:rt v)(r:VR B Z v u):VR B' aH v u:=by
 cases h<;>cases r<;>constructor
def oS(U:aw):Prop:=∀y v,get U y=some v→rt v
theorem oS.set{U:aw}{x:Nat}{v:V}(h:oS U)(hv:rt v):oS (set U x v):=fun y u e=>by
 rw[get_set]at e
 by_cases q:x=y
 ·rw[if_pos q]at e;cases Option.some.inj e;exact hv
 ·rw[if_neg q]at e;exact h y u e
theorem bt.reset{T T':Addr→Option Obj}{env:Env}{B B':ay}{Z aH:List Addr}{U:aw}{h h':Heap}(F:bt (G.gen T) env B Z U h)(hs:oS U)(hc:env.cells=[])(hL:∀o,h.get? env.locals=some o→h'.get? env.locals=some o)(hB:B' env.locals=none)(dJ:env.locals∉aH):bt (G.gen T') env B' aH U h':=by
 refine aW F.ns ?_;intro m z1;obtain⟨o,es,ep,e,r⟩:=z1;intro hm;refine⟨F.kind,F.gl,F.bi,⟨m,⟨o,es,ep,hL o e,r⟩,fun x v hx hk=>?_⟩,fun x v hx=>?_,⟨hB,dJ,F.cU.2.2⟩,fun n c xw=>?_,F.inj,F.all⟩
 ·refine aW (hm x v hx hk) ?_;intro u h1 h2
  exact⟨u,h1,(hs x v hx).vr h2⟩
 ·rcases F.cl x v hx with z|⟨_,c,u,nT,_⟩
  ·exact .inl z
  ·rw[hc]at nT;cases nT
 ·rw[hc]at xw;cases xw
theorem Draws.U6{prog:Program}{w:World}{A:Around}(hh:A.handled=none)(it:Addr)(x:Str)(t:Tok):
  Draws prog w A it [it] x.cps.size (fun i v=>∃c u,x.cps[i]?=some c∧v=.str ⟨#[c]⟩ u) (fun i h=>h.IsStrIter it (strIterType x) x t i):=by
 unfold strIterType
 by_cases h:x.cps.all (· < 128)=true
 ·rw[if_pos h];exact Draws.strAscii hh it x t
 ·rw[if_neg h];exact Draws.strWide hh it x t
structure gm where
 s1:Stmt
 s2:Stmt
 tg:Expr
 it:Expr
 t1:Expr
 e1:Expr
 sF:Stmt
 t2:Expr
 sT:Stmt
 e2:Expr
 t3:Expr
 e3:Expr
 ps:List Pos
noncomputable abbrev gm.inner(g:gm)(p:Nat→Pos):List Stmt:=[.If g.t1 [.Expr (.Yield (some g.e1) (p 0)) (p 1),g.sF] [.If g.t2 [g.sT] [.Expr (.Yield (some g.e2) (p 2)) (p 3)] (p 4)] (p 5)]
noncomputable abbrev gm.tail(g:gm)(p:Nat→Pos):List Stmt:=[.If g.t3 [.Expr (.Yield (some g.e3) (p 7)) (p 8)] [] (p 9)]
noncomputable abbrev gm.body(g:gm)(p:Nat→Pos):List Stmt:=g.s1::g.s2::.For g.tg g.it (g.inner p) [] (p 6)::g.tail p
noncomputable def posOf(l:List Pos)(i:Nat):Pos:=l.getD i ⟨0,0,0,0⟩
noncomputable abbrev p0:Pos:=⟨0,0,0,0⟩
noncomputable def YQ:Expr:=.Tuple [] 0 p0
noncomputable def uh:Stmt:=.Pass p0
noncomputable def U7(s:Stmt):Expr×Expr×List Stmt×Pos:=(sk 0 s,sk 1 s,sb 0 s,s.pos)
noncomputable def QF(s:Stmt):Expr×List Stmt×List Stmt×Pos:=(sk 0 s,sb 0 s,sb 1 s,s.pos)
noncomputable def QG(s:Stmt):Expr×Pos:=(sk 0 s,s.pos)
noncomputable def Et:Expr→Expr×Pos
 |.Yield (some a) p=>(a,p)
 |_=>(YQ,p0)
noncomputable def QH(l:List Stmt):gm:=
 let f:=U7 (l.getD 2 uh)
 let a:=QF (f.2.2.1.getD 0 uh)
 let b:=QF (a.2.2.1.getD 0 uh)
 let c:=QF (l.getD 3 uh)
 let x:=QG (a.2.1.getD 0 uh)
 let y:=QG (b.2.2.1.getD 0 uh)
 let z:=QG (c.2.1.getD 0 uh)
 ⟨l.getD 0 uh,l.getD 1 uh,f.1,f.2.1,a.1,(Et x.1).1,a.2.1.getD 1 uh,b.1,b.2.1.getD 0 uh,(Et y.1).1,c.1,(Et z.1).1,[(Et x.1).2,x.2,(Et y.1).2,y.2,b.2.2.2,a.2.2.2,f.2.2.2,(Et z.1).2,z.2,c.2.2.2]⟩
end
open Builtin Builtin.Str
section
variable{prog:Program}{w:World}{A:Around}{E:Value→Shared→Prop}{s:Shared}
theorem x8{it:Addr}{x:Str}{t:Tok}{i:Nat}{Q:Value→Shared→Prop}(hh:A.handled=none)(hit:s.heap.IsStrIter it "str_ascii_iterator" x t i)(hx:x.cps[i]?=none)
  (hE:∀h' e,Heap.ExtBut it s.heap h'→(∃o,h'.get? it=some o)→(∃o,h'.get? e=some o∧o.cls=.type "StopIteration")→E (.ref e) {s with heap:=h'}):
  wpAny (model prog w) A (Builtin.SmallTypes.nextOf (.ref it)) Q E s:=by
 have hT:=hit.typeIs;refine gJ hit ?_;clear hit;intro o ho hc hd;have step:wpAny (model prog w) A.in1 (Builtin.«str_ascii_iterator.__next__» ⟨[.ref it],[]⟩) (fun zz zz=>False) E s:=by
  show wpAny _ _ (field (.ref it) 0 >>= _) _ _ s;refine wpAny_bind (wpAny_field ho hd (x:=.str x t) rfl ?_);show wpAny _ _ (field (.ref it) 1 >>= _) _ _ s;refine wpAny_bind (wpAny_field ho hd (x:=.int i 0) rfl ?_);simp only[Int.toNat_natCast,hx];refine wpAny_bind (wpAny_rule (wpAny_bind (wpAny_setField ho hd (by simp) (wpAny_bind (wpAny_letGo ?_)))))
  have here:∀ (f:Array Value→Array Value),∃z,(s.heap.update it (Obj.mapFields f)).get? it=some z:=fun f=>
   ⟨_,Heap.get?_update_self _ ho (Obj.isFreed_of_fields (Obj.data_mapFields hd _))⟩
  show wpAny _ _ (newExc (.type "StopIteration") [] >>= _) _ _ _;refine wpAny_bind ?_;simp only[newExc,newTuple];refine wpAny_bind (wpAny_newObj_type ?_ (by size_fits))
  refine wpAny_bind (m:=firstArgMember _ _) (wpAny_of_eq (a:=Value.none) (by first|rfl|(simp only[firstArgMember];rfl)) (wpAny_newObj_type ?_ (by size_fits)))
  simp only[raiseNew];refine wpAny_bind (wpAny_handled ?_);rw[show A.in1.handled=none from hh];refine wpAny_bind (wpAny_pure (wpAny_throw ?_));obtain⟨z,hz⟩:=here _;exact hE _ _ (((Heap.SameBut.update ..).extBut.push _).push _) ⟨z,Heap.get?_push_of_some _ (Heap.get?_push_of_some _ hz)⟩ ⟨_,Heap.get?_push_size _ rfl,rfl⟩
 unfold Builtin.SmallTypes.nextOf;refine wpAny_bind (wpAny_callSpecial?_slot (name:=Str.ofString "__next__") hT F.slot_str_ascii_iterator_next
  (wpAny_call_entry F.slot_str_ascii_iterator_next hT F.entry_str_ascii_iterator_next ?_ (F.args_str_ascii_iterator_next_1 _)))
 exact wpAny_mono step (fun zz zz x=>x.elim) fun zz zz x=>x
theorem vD{e it:Addr}{x:Str}{t:Tok}{i:Nat}{k:Int}{old:Value}{Q:Option Value→Shared→Prop}(hh:A.handled=none)(he:IsEnum s.heap e it k old)(hit:s.heap.IsStrIter it "str_ascii_iterator" x t i)(hx:x.cps[i]?=none)
  (hQ:∀h',Heap.ExtBut it s.heap h'→(∃o,h'.get? it=some o)→Q none {s with heap:=h'}):wpAny (model prog w) A (pyNext (.ref e)) Q E s:=by
 have hT:s.TypeIs (.ref e) "enumerate":=⟨_,he,rfl⟩;unfold pyNext;refine wpAny_bind (wpAny_attempt (wpAny_callSpecial?_slot (name:=Str.ofString "__next__") hT F.slot_enumerate_next
  (wpAny_call_entry F.slot_enumerate_next hT F.entry_enumerate_next ?_ (F.args_enumerate_next_1 _))))
 show wpAny _ _ (field (.ref e) 2 >>= _) _ _ _;refine wpAny_bind (wpAny_field he rfl (x:=.ref it) rfl ?_);refine wpAny_bind (x8 hh hit hx fun h' y H4 h2 hy=>?_);refine aW hy ?_;clear hy;intro o ho hc;exact wpAny_bind (wpAny_isInstance (T:="StopIteration") (b:=true) ⟨o,ho,hc⟩ isSubtype_stop (wpAny_pure (hQ _ H4 h2)))
end
theorem lG(P:Params)(nm:Str):plainGet (KP P) 173 nm=true:=by
 have:plainGet (KP P) 173 (Str.ofString "n")=true:=by kd_p
 exact this
theorem pK(P:Params):hasDictIn (KP P) 173=true:=by kd_p
noncomputable def zA(K:Frag)(nm:Str):Bool:=match findIn K (.ref 173) nm with
 |some a=>noGet K a
 |none=>false
theorem Bc(P:Params):fNames.all (zA (KP P))=true:=by kd_p
noncomputable def CZ(K:Frag)(p:Str×Addr):Bool:=(match findIn K (.ref 173) p.1 with|some (some (.ref f))=>f==p.2|_=>false)&&isFn K (.ref p.2)
noncomputable def lH:List (Str×Addr):=[(Str.ofString "longest_run_of_spaces",135),(Str.ofString "indent_level",142),(Str.ofString "less",163)]
theorem Eu(P:Params):lH.all (CZ (KP P))=true:=by kd_p
theorem pL{h:Heap}{x dx:Addr}{es:List DictEntry}{n:Nat}(hx:h.get? x=some (instObj 173 dx))(hd:h.get? dx=some (dictOf es n)):InstAt h x (instObj 173 dx) 173 (some (dictOf es n)):=⟨hx,rfl,rfl,hd⟩
theorem uj(hG:bx G){A:Around}{E:Value→Shared→Prop}{s:Shared}{x dx:Addr}{es:List DictEntry}{n:Nat}{nm:Str}{u:Value}{expr:Bool}{Q:Value→Shared→Prop}(X:G.K.In s.heap)(hx:s.heap.get? x=some (instObj 173 dx))(hd:s.heap.get? dx=some (dictOf es n))(hm:nm∈fNames)(hl:getL nm es=some (some u))(hu:handedIn u=true)
  (h:Q u {s with toks:=s.toks+1}):wpAny (model G.prog G.w) A (getAttr (.ref x) nm expr) Q E s:=by
 obtain⟨P,hP⟩:=hG.K;rw[hP]at X;have hf:=List.all_eq_true.mp (Bc P) nm hm;unfold zA at hf;split at hf
 ·rename_i a ha
  exact get_value X (pL hx hd) (plainGet_of (lG P nm)).1 (findObj_own (pK P) ha hf (by rw[lookIn_dict];exact hl)) hu h
 ·exact iO hf
theorem fE(hG:bx G){n:Nat}{fs:List V}{O:Mu}{Q:V→Mu→Prop}{nm:Str}{v:V}(i:Nat)(hi:fNames[i]?=some nm)(hv:fs[i]?=some v)(q:Q v O):sP G n nm (.obj fs) O Q:=by
 intro A hA B Z s x I r;cases r with
 |obj e e' f l h9=>
  rename_i xa dx es k vs;refine gJ (f.own i nm hi) ?_;intro u h1 h2 h3;exact uj hG I.jS (I.holds _ _ e) (I.holds _ _ e') (List.mem_of_getElem? hi) h2 h3 (PV.here I (h9 i v u hv h1) q)
theorem kX(hG:bx G){fs:List V}{O:Mu}{p:Str×Addr}(hp:p∈lH):jx G p.1 (.obj fs) O (.ref p.2):=by
 obtain⟨P,hP⟩:=hG.K;have hm:=List.all_eq_true.mp (Eu P) p hp;unfold CZ at hm;simp only[Bool.and_eq_true]at hm;obtain⟨h1,h2⟩:=hm;split at h1
 ·rename_i f hf
  have e2:f=p.2:=eq_of_beq h1;subst e2;refine⟨fun h hb=>?_,fun A B Z s x pl Q E I r q=>?_⟩
  ·refine keeps_K (K:=KP P) ?_ h (fun a o e=>hb a o (G.hK a o (by rw[hP];exact e)))
   simp only[lH,List.mem_cons,List.not_mem_nil,or_false]at hp;rcases hp with rfl|rfl|rfl<;>kd_p
  ·cases r with
   |obj e e' f l h9=>
    rename_i xa dx es k vs;have X:(KP P).In s.heap:=hP▸I.jS;have YR:p.1∈sO:=by
     simp only[lH,List.mem_cons,List.not_mem_nil,or_false]at hp;rcases hp with rfl|rfl|rfl<;>simp[sO]
    exact method_fn X (pL (I.holds _ _ e) (I.holds _ _ e')) (plainGet_of (lG P p.1)).1 (plainGet_of (lG P p.1)).2 hf (beq_iff_eq.mp h2) (by show(lookIn p.1 (dictOf es k)).map _=_;rw[lookIn_dict,f.no p.1 YR];rfl) q
 ·exact iO h1
def l4(es:List DictEntry):Prop:=∀e∈es,∃n t,e.key=.str n t
theorem oT(n:Str)(t:Tok)(m:Str):(Value.str n t).isStr m=(n==m):=by first|rfl|simp[Value.isStr]
theorem l4.put{es:List DictEntry}(h:l4 es)(name:Str)(hs:Int)(t:Tok)(v:Value):l4 (putL name hs (.str name t) v es):=by
 induction es with
 |nil=>intro e m;rw[putL,List.mem_singleton]at m;rw[m];exact⟨_,_,rfl⟩
 |cons e r ih=>
  intro x m;unfold putL at m;split at m
  ·rcases List.mem_cons.mp m with rfl|m
   ·refine O0 (h e (.head _)) ?_;intro n t' e';exact⟨n,t',e'⟩
   ·exact h x (.tail _ m)
  ·rcases List.mem_cons.mp m with rfl|m
   ·exact h x (.head _)
   ·exact ih (fun y hy=>h y (.tail _ hy)) x m
theorem noRef{es:List DictEntry}(h:l4 es):es.any (·.refKey)=false:=by
 rw[List.any_eq_false];intro e m;refine O0 (h e m) ?_;intro n t e';simp[DictEntry.refKey,e']
theorem lI(nm:Str)(e:DictEntry)(r:List DictEntry)(h:l4 (e::r)):getL nm (e::r)=if e.key.isStr nm=true then some (some e.val) else getL nm r:=by
 unfold getL;rw[List.find?_cons,noRef h,noRef (fun y hy=>h y (.tail _ hy))];cases hk:e.key.isStr nm<;>simp
theorem Ew{es:List DictEntry}(h:l4 es)(name nm:Str)(hs:Int)(t:Tok)(v:Value):getL nm (putL name hs (.str name t) v es)=if nm=name then some (some v) else getL nm es:=by
 induction es with
 |nil=>
  rw[putL,lI nm _ _ (by intro e m;rw[List.mem_singleton.mp m];exact⟨_,_,rfl⟩)]
  simp only[oT]
  by_cases q:nm=name
  ·rw[if_pos q,q];simp
  ·rw[if_neg q,if_neg (by simpa using fun e=>q e.symm)]
 |cons e r ih=>
  have hp:=h.put name hs t v;refine O0 (h e (.head _)) ?_;intro n t' ek;have hr:l4 r:=fun y hy=>h y (.tail _ hy);rw[lI nm e r h];unfold putL at hp ⊢
  by_cases q:e.key.isStr name=true
  ·rw[if_pos q]at hp ⊢
   rw[lI nm _ _ hp];simp only[];have en:n=name:=by rw[ek,oT]at q;exact eq_of_beq q
   rw[ek,oT,en]
   by_cases z:nm=name
   ·rw[if_pos z,z];simp
   ·rw[if_neg z,if_neg (by simpa using fun e=>z e.symm),if_neg (by simpa using fun e=>z e.symm)]
  ·rw[if_neg q]at hp ⊢
   rw[lI nm _ _ hp,ih hr]
   by_cases z:nm=name
   ·subst z
    rw[if_neg q,if_pos rfl,if_pos rfl]
   ·rw[if_neg z,if_neg z]
theorem qC(name:Str)(hs:Int)(k v:Value):∀es:List DictEntry,(putL name hs k v es).length≤es.length+1
 |[]=>by simp[putL]
 |e::r=>by
  unfold putL;split
  ·simp
  ·have:=qC name hs k v r;simp;omega
noncomputable def zB(K:Frag)(nm:Str):Bool:=match takerIn K 173 nm with|some none=>true|_=>false
theorem Bd(P:Params):fNames.all (zB (KP P))=true:=by kd_p
theorem H5(P:Params):findIn (KP P) (.ref 173) "__setattr__"=some (some (.builtin "object.__setattr__")):=by kd_p
theorem Ex(P:Params):plainOver (KP P) 173=true:=by kd_p
theorem Be{w:World}{prog:Program}{P:Params}{A:Around}{s:Shared}{x dx:Addr}{es:List DictEntry}{n:Nat}{nm:Str}{tk:Tok}{u:Value}{R:Result→Shared→Prop}(X:(KP P).In s.heap)(hx:s.heap.get? x=some (instObj 173 dx))(hd:s.heap.get? dx=some (dictOf es n))(hm:nm∈fNames)(hk:l4 es)(hz:es.length≤100)
  (h:∀h' tk sj n',Heap.SameBut dx s.heap h'→h'.get? dx=some (dictOf sj n')→l4 sj→sj.length≤es.length+1→(∀k,getL k sj=if k=nm then some (some u) else getL k es)→R (.ok (.ret .none)) {s with heap:=h',toks:=tk}):
  codeAny (model prog w) A (.call (.builtin "object.__setattr__") ⟨[.ref x,.str nm tk,u],[]⟩) R s:=by
 have ht:=List.all_eq_true.mp (Bd P) nm hm;have YS:takerIn (KP P) 173 nm=some none:=by
  unfold zB at ht;split at ht
  ·assumption
  ·exact iO ht
 refine osa_open X (pL hx hd) (Ex P) YS fun b=>?_;refine aW (any_some (pK P)) ?_;intro cd hc fK;refine wpAny_bind (wpAny_pure (wpAny_bind (wpAny_bind (wpAny_loadPart hx (wpAny_bind ((looks_clsIn X hc).here ?_))))));rw[fK];refine wpAny_pure (a:=some dx) (wpAny_bind (wpAny_pure (wpAny_bind ?_)));unfold nsSet;refine wpAny_bind (wpAny_bind (wpAny_askSetting (wpAny_pure (wpAny_bind (wpAny_mkText (wpAny_bind (wpAny_loadPart hd ?_)))))));have c:(!es.toArray.any (·.key.isStr nm)&&es.toArray.any (·.refKey))=false:=by
  have:es.toArray.any (·.refKey)=false:=by rw[←Array.any_toList];exact noRef hk
  rw[this,Bool.and_false]
 dsimp only;rw[aRefKeyMayBeTheName_at,c];refine wpAny_updatePart hd ?_;have D':(s.heap.update dx (Obj.putName nm (PyData.keyHash w.params nm) (.str nm s.toks) u)).get? dx=some (dictOf (putL nm (PyData.keyHash w.params nm) (.str nm s.toks) u es) (putN nm es n)):=by
  rw[←putName_dict];exact Heap.get?_update_self _ hd (by rw[putName_dict];rfl)
 refine wpAny_bind (wpAny_lookBehind D' (pastItsLine_dict (by rw[List.size_toArray,sizeLine_eq];have:=qC nm (PyData.keyHash w.params nm) (.str nm s.toks) u es;exact ag 2 0 (aa (ae ab cy) (aa (ae af (aj ab aC)) (ae af (aj bq aC)))) (by kd_p) hz this)) ?_)
 exact wpAny_pure (h _ _ _ _ (Heap.SameBut.update ..) D' (hk.put _ _ _ _) (qC _ _ _ _ _) fun k=>Ew hk _ k _ _ _)
theorem Bf(hG:bx G){A:Around}{E:Value→Shared→Prop}{s:Shared}{x dx:Addr}{es:List DictEntry}{n:Nat}{nm:Str}{u:Value}{Q:Unit→Shared→Prop}(X:G.K.In s.heap)(hx:s.heap.get? x=some (instObj 173 dx))(hd:s.heap.get? dx=some (dictOf es n))(hm:nm∈fNames)(hk:l4 es)(hz:es.length≤100)
  (h:∀h' tk sj n',Heap.SameBut dx s.heap h'→h'.get? dx=some (dictOf sj n')→l4 sj→sj.length≤es.length+1→(∀k,getL k sj=if k=nm then some (some u) else getL k es)→Q () {s with heap:=h',toks:=tk}):
  wpAny (model G.prog G.w) A (setAttr (.ref x) nm u) Q E s:=by
 obtain⟨P,hP⟩:=hG.K;rw[hP]at X;exact set_plain X (pL hx hd) (H5 P) (Be (s:={s with toks:=s.toks+1}) X hx hd hm hk hz h)
section
structure kG(B:ay)(Z:List Addr)(h:Heap)(dx:Addr)(L:List (Str×V)):Prop where
 ex:∃es n,h.get? dx=some (dictOf es n)∧l4 es∧es.length≤L.length∧(∀p∈L,∃u,getL p.1 es=some (some u)∧VR B Z p.2 u∧handedIn u=true)∧∀nm,nm∉L.map (·.1)→getL nm es=some none
theorem kG.kept{B B':ay}{Z aH:List Addr}{h h':Heap}{dx:Addr}{L:List (Str×V)}(x:kG B Z h dx L)(hk:∀o,h.get? dx=some o→h'.get? dx=some o)(hB:ay.le B B')(dJ:Z <+: aH):kG B' aH h' dx L:=by
 refine mq x.ex ?_;intro es n e hs hl h1 h2;exact⟨es,n,hk _ e,hs,hl,fun p m=>let⟨u,a,b,c⟩:=h1 p m;⟨u,a,b.mono hB dJ,c⟩,h2⟩
theorem aG.more{W:List Addr}{B B':ay}{Z aH:List Addr}{ar:Mu}{s s':Shared}{a:Addr}{o:Obj}(P:aG G W B Z s B' aH ar s')(e:s.heap.get? a=some o)(hW:a∉W)(dJ:a∉Z)(ht:a∉tabs):aG G (a::W) B Z s B' aH ar s':=
 ⟨P.le,P.pre,P.inv,P.keep.mono (fun b m=>by simp at m ⊢;rcases m with m|m|m<;>simp[m]),fun b m=>by
  rcases List.mem_cons.mp m with rfl|m
  ·exact⟨o,P.kept e hW dJ ht⟩
  ·exact P.bL b m,P.rest,P.dD,P.c8⟩
variable (G)
structure uk(env:Env)(own:List Nat)(B:ay)(Z:List Addr)(x dx:Addr):Prop where
 at_:B x=some (instObj 173 dx)
 b:B dx=none
 a:dx∉Z
 t:dx∉tabs
 f:dx∉fa G env own
 l:env.locals≠dx
 c:∀n c,(n,c)∈env.cells→c≠dx
def x9(n:Nat)(env:Env)(own:List Nat)(x dx:Addr)(t:Sem Flow)(U:aw)(O:Mu)(L:List (Str×V))(Q:Fl→aw→Mu→List (Str×V)→Prop):Prop:=
 ∀A,bY n A→∀B Z s,Inv G B Z O s.heap→bt G env B Z U s.heap→uk G env own B Z x dx→kG B Z s.heap dx L→
  wpAny (model G.prog G.w) A t (fun fl s'=>∃r ao ar L' B' aH,Q r ao ar L'∧aG G (dx::fa G env own) B Z s B' aH ar s'∧bt G env B' aH ao s'.heap∧kG B' aH s'.heap dx L'∧DQ B' aH r fl) bM s
variable {G}
theorem uk.step{env:Env}{own:List Nat}{B B':ay}{Z aH:List Addr}{x dx:Addr}{W:List Addr}{ar:Mu}{s s':Shared}{L:List (Str×V)}(d:uk G env own B Z x dx)(P:aG G W B Z s B' aH ar s')(i:kG B Z s.heap dx L):uk G env own B' aH x dx:=by
 refine jX i.ex ?_;intro es n e zz;exact⟨P.le _ _ d.at_,P.eY e d.b d.a,P.fI e d.a,d.t,d.f,d.l,d.c⟩
section
variable{n:Nat}{env:Env}{own:List Nat}{x dx:Addr}{U:aw}{O:Mu}{L:List (Str×V)}{Q:Fl→aw→Mu→List (Str×V)→Prop}
theorem C8{t:Sem Flow}(h:cn G n env own t U O fun r ao ar=>Q r ao ar L):x9 G n env own x dx t U O L Q:=by
 intro A hA B Z s I F d i;refine wpAny_mono (h A hA B Z s I F) ?_ fun zz zz x=>x;rintro fl s' ⟨r,ao,ar,B',aH,q,P,F',rf⟩;refine jX i.ex ?_;intro es k e zz;exact⟨r,ao,ar,L,B',aH,q,P.more e d.f d.a d.t,F',i.kept (fun o eo=>P.kept eo d.f d.a d.t) P.le P.pre,rf⟩
theorem QI(q:Q .next U O L):x9 G n env own x dx (execs [] env) U O L Q:=C8 (xC q)
theorem jf{st:Stmt}{rest:List Stmt}(h:x9 G n env own x dx (exec st env) U O L fun r a9 aA L1=>match r with | .next=>x9 G n env own x dx (execs rest env) a9 aA L1 Q|r=>Q r a9 aA L1):x9 G n env own x dx (execs (st::rest) env) U O L Q:=by
 intro A hA B Z s I F d i;refine wpAny_execs_cons (wpAny_mono (h A hA B Z s I F d i) ?_ fun zz zz x=>x);rintro fl s1 ⟨r,a9,aA,L1,B1,aE,bf,P1,F1,i1,r1⟩;cases r1 with
 |next=>
  refine wpAny_mono (bf A hA B1 aE s1 P1.inv F1 (d.step P1 i) i1) ?_ fun zz zz x=>x;rintro fl s2 ⟨r,b9,aZ,L2,B2,aV,bu,P2,pM⟩;exact⟨r,b9,aZ,L2,B2,aV,bu,P1.trans P2,pM⟩
 |brk=>exact⟨.brk,a9,aA,L1,B1,aE,bf,P1,F1,i1,.brk⟩
 |cont=>exact⟨.cont,a9,aA,L1,B1,aE,bf,P1,F1,i1,.cont⟩
 |ret r=>exact⟨.ret _,a9,aA,L1,B1,aE,bf,P1,F1,i1,.ret r⟩
inductive Hd:V→Prop where
 |bool {b:Bool}:Hd (.bool b)
 |int {i:Int}:Hd (.int i)
 |str {x:Str}:Hd (.str x)
 |tuple {xs:List V}:Hd (.tuple xs)
theorem Hd.YT{v:V}(h:Hd v){B:ay}{Z:List Addr}{u:Value}(r:VR B Z v u):handedIn u=true:=by
 cases h<;>cases r<;>rfl
theorem um(hG:bx G){y:Nat}{nm:Str}{e:Expr}{p1 p2 p3:Pos}(hy:get U y=some (.raw (.ref x)))(hm:nm∈fNames)(hn:nm∉L.map (·.1))(hL:L.length≤50)
  (h:bz G n env (eval e env) U O fun v aA=>Hd v∧Q .next U aA ((nm,v)::L))(hs:swapsWith e (some (.Attribute (.Name (G.nm y) p1) nm p2)) p3.line env=pure false):
  x9 G n env own x dx (exec (.Assign [.Attribute (.Name (G.nm y) p1) nm p2] e p3) env) U O L Q:=by
 intro A hA B Z s I F d i;refine plainObj_wpAny_Assign_Attribute (wpAny_mono (h A hA B Z s I F) ?_ fun zz zz x=>x) hs;rintro u s1 ⟨v,aA,B1,aE,⟨hd,q⟩,P1,r1⟩;have F1:=F.same P1;have d1:=d.step P1 i;have i1:kG B1 aE s1.heap dx L:=i.kept (fun o eo=>P1.kept eo (fun m=>nomatch m) d.a d.t) P1.le P1.pre;refine wpAny_mono (xy (Q:=fun v ar=>v=.raw (.ref x)∧ar=aA) hy ⟨rfl,rfl⟩ A hA B1 aE s1 P1.inv F1) ?_ fun zz zz x=>x;rintro z s2 ⟨zz,aZ,B2,aV,⟨rfl,rfl⟩,P2,pM⟩;refine VR.jY pM ?_;have F2:=F1.same P2;have d2:=d1.step P2 i1;have i2:kG B2 aV s2.heap dx L:=i1.kept (fun o eo=>P2.kept eo (fun m=>nomatch m) d1.a d.t) P2.le P2.pre;have DO:=P1.trans P2;have r2:=r1.mono P2.le P2.pre;refine mq i2.ex ?_;intro es k e2 hk hl h1 h2;refine Bf hG P2.inv.jS (P2.inv.holds _ _ d2.at_) e2 hm hk (by exact ag 2 0 (aa (ae ab (nk 50)) (aa (ae af ab) (ae af cy))) (by kd_p) hL hl) fun h' tk sj n' sb e3 gL H6 hg=>?_
 have kp:∀b o,b≠dx→s2.heap.get? b=some o→h'.get? b=some o:=fun b o hb eo=>(sb.2 b hb).trans eo;refine jX i.ex ?_;intro es0 k0 e0 zz;have P3:aG G (dx::fa G env own) B2 aV s2 B2 aV aZ {s2 with heap:=h',toks:=tk}:=⟨.refl _,List.prefix_refl _,P2.inv.same sb d2.b d2.a d2.t,fun b o hb eo=>kp b o (fun q=>hb (by simp[q])) eo,fun b m=>by
  rcases List.mem_cons.mp m with rfl|m
  ·exact⟨_,e3⟩
  ·obtain⟨o,eo⟩:=F2.bL b m;exact⟨o,kp b o (fun q=>d.f (q▸m)) eo⟩,.heap,fun zz h=>.inl h,fun zz h=>.inl h⟩
 refine⟨.next,U,aZ,_,B2,aV,q,((DO.wide F).more e0 d.f d.a d.t).trans P3,F2.fL d.l d.c kp,⟨sj,n',e3,gL,?_,fun p m=>?_,fun k iQ=>?_⟩,.next⟩
 ·simp only[List.length_cons];exact ag 3 0 (aa (ae ab af) (aa (ae au (aj ab aC)) (ae au (aj af aC)))) (by kd_p) hl H6
 ·rcases List.mem_cons.mp m with rfl|m
  ·exact⟨u,by rw[hg,if_pos rfl],r2,hd.YT r2⟩
  ·refine gJ (h1 p m) ?_;intro w a b c
   exact⟨w,by rw[hg,if_neg (fun q:p.1=nm=>hn (by rw[←q];exact List.mem_map_of_mem m))];exact a,b,c⟩
 ·rw[List.map_cons,List.mem_cons,not_or]at iQ
  rw[hg,if_neg iQ.1];exact h2 k iQ.2
theorem QJ(hG:bx G){y:Nat}{nm:Str}{t:Str}{QK:Expr}{body:List Stmt}{p1 p2 p3:Pos}(hy:get U y=some (.raw (.ref x)))(hm:nm∈fNames)(hL:(nm,V.str t)∈L)
  (tS:attributeBase (.Name (G.nm y) p1) nm env (eval (.Name (G.nm y) p1) env)=eval (.Name (G.nm y) p1) env)(ht:∀it v,letOwnedTupleGo QK it v=pure ())
  (h:forL (fun x U O k=>gF G n env own (assign QK env) x U O fun ao ar=>cn G n env own (execs body env) ao ar k) (t.cps.toList.map fun c=>.str ⟨#[c]⟩) U O fun r ao ar=>Q r ao ar L):
  x9 G n env own x dx (exec (.For QK (.Attribute (.Name (G.nm y) p1) nm p2) body [] p3) env) U O L Q:=by
 intro A hA B Z s I F d i;refine wpAny_mono (xD (own:=own) (Q:=fun r ao ar=>Q r ao ar L) hA F (fun K hK=>?_) (fun zz=>rfl) ht) ?_ fun zz zz x=>x
 ·rw[arm_eval_Attribute,tS]
  refine wpAny_bind (wpAny_mono (xy (Q:=fun v ar=>v=.raw (.ref x)∧ar=O) hy ⟨rfl,rfl⟩ A hA B Z s I F) ?_ fun zz zz x=>x);rintro z s2 ⟨zz,aZ,B2,aV,⟨rfl,rfl⟩,P2,pM⟩;refine VR.jY pM ?_;have d2:=d.step P2 i;have i2:kG B2 aV s2.heap dx L:=i.kept (fun o eo=>P2.kept eo (fun m=>nomatch m) d.a d.t) P2.le P2.pre;refine mq i2.ex ?_;intro es k e2 hk hl h1 h2;refine gJ (h1 _ hL) ?_;intro u hg ru hu;refine wpAny_bind (wpAny_standAt (wpAny_bind (wpAny_holding (uj hG P2.inv.jS (P2.inv.holds _ _ d2.at_) e2 hm hg hu ?_))));refine wpAny_bind (wpAny_letTemporaryGo (wpAny_pure ?_));have I3:Inv G B2 aV aZ {s2 with toks:=s2.toks+1}.heap:=P2.inv
  refine Iter.str (G:=G) (O:=aZ) A B2 aV {s2 with toks:=s2.toks+1} u _ _ I3 ru fun it h' fp P St a b c' e f g j=>?_
  exact hK B2 aV aZ {s2 with toks:=s2.toks+1} _ it h' fp P St h (P2.trans P2.inv.tq) a b c' e f g j
 ·rintro fl s' ⟨r,ao,ar,B',aH,q,P,F',rf⟩
  refine jX i.ex ?_;intro es k e zz;exact⟨r,ao,ar,L,B',aH,q,P.more e d.f d.a d.t,F',i.kept (fun o eo=>P.kept eo d.f d.a d.t) P.le P.pre,rf⟩
end
end
section
local macro_rules | `(tactic| kd_in) => do
  let i (s : String) : Lean.Ident := Lean.mkIdent (Lean.Name.mkSimple s)
  let a ← ("wc HK ny Ed UR Ea AR AS bU".splitOn " ").toArray.mapM fun s => `(Lean.Parser.Tactic.tacticSeq| ((with_reducible refine' $(i s) ?vh ?_); (case vh => first | rfl | assumption)))
  let b ← ("Hy tW wd Hz KZ zd HA HB HC D8 HD D9 tX Eb HE kP gj tZ zg U8 HG XS AW zh SX QL cQ kQ gw HI Ee wg".splitOn " ").toArray.mapM fun s => `(Lean.Parser.Tactic.tacticSeq| with_reducible refine $(i s) ?_)
  let c ← ("Yq HJ".splitOn " ").toArray.mapM fun s => `(Lean.Parser.Tactic.tacticSeq| ((with_reducible refine' $(i s) ?vh ?_); (case vh => rfl)))
  let d ← ("SY Ef HL gN t4 Ei S0 HM eB ic AX AL Qc Ho V_lt Uh Qd Ui Uj Uk Ul Hp Qe YU D3 Qg Qh iB KV Hr Qi D4 D5 AU bK".splitOn " ").toArray.mapM fun s => `(Lean.Parser.Tactic.tacticSeq| with_reducible refine $(i s) ?_)
  let e := a ++ b ++ c ++ d
  `(tactic| first $[| $e]* | ((with_reducible refine' bU ?vh ?_); (case vh => (repeat (with_reducible refine gn ?_)); first | assumption | exact gs | rfl)) | ((with_reducible refine' Uv ?vh ?vi ?vj ?_); (case vh => rfl); (case vi => rfl); (case vj => rfl)))
def Sz(k:Nat)(a:Int):Prop:=a.natAbs<2 ^ k
theorem Sz.mono{j k:Nat}{a:Int}(h:Sz j a)(hk:j≤k):Sz k a:=Nat.lt_of_lt_of_le h (Nat.pow_le_pow_right (by decide) hk)
theorem Sz.mul{j k:Nat}{a b:Int}(h:Sz j a)(h':Sz k b):Sz (j+k) (a*b):=by
 unfold Sz at *;rw[Int.natAbs_mul,Nat.pow_add];exact Nat.mul_lt_mul_of_lt_of_le h (Nat.le_of_lt h') (Nat.two_pow_pos k)
theorem Sz.add{k:Nat}{a b:Int}(h:Sz k a)(h':Sz k b):Sz (k+1) (a+b):=by
 unfold Sz at *;have:=Int.natAbs_add_le a b;rw[Nat.pow_succ];exact ag 1 2 (aa (ak (gD aK) ab) (aa (ak (gD aq) ab) (aa (ae (gD (bh aK aq)) (aj (gD aK) (gD aq))) (ak (gD (bh aK aq)) (rZ ab 2))))) (by kd_p) h h' this
theorem Sz.neg{k:Nat}{a:Int}(h:Sz k a):Sz k (-a):=by
 unfold Sz at *;rw[Int.natAbs_neg];exact h
theorem Sz.sub{k:Nat}{a b:Int}(h:Sz k a)(h':Sz k b):Sz (k+1) (a-b):=by
 rw[Int.sub_eq_add_neg];exact h.add h'.neg
theorem Sz.pow{k:Nat}{a:Int}(h:Sz k a):∀n:Nat,Sz (k*n+1) (a ^ n)
 |0=>by unfold Sz;simp
 |n+1=>by
  rw[Int.pow_succ];exact((h.pow n).mul h).mono (by rw[Nat.mul_succ];exact ag 2 0 (ae (aj (aj af aC) ab) (aj (aj af ab) aC)) (by kd_p))
theorem Sz.ya{k m:Nat}{a:Int}(h:Sz k a)(n:Nat)(hn:n≤m):Sz (k*m+1) (a ^ n):=(h.pow n).mono (by have:=Nat.mul_le_mul_left k hn;exact FZ this)
theorem Sz.bits{k:Nat}{a:Int}(h:Sz k a):Builtin.Int.intBits a≤k:=by
 unfold Builtin.Int.intBits;split
 ·exact Nat.zero_le _
 ·rename_i z
  have z':a.natAbs≠0:=by simpa using z
  have:=(Nat.log2_lt z').mpr h;exact F9 this
theorem yb:100000000≤bitsLine:=by decide
theorem Sz.H7{j k:Nat}{a b:Int}(h:Sz j a)(h':Sz k b)(hs:j+k≤100000000):IntMulOk a b:=by
 unfold IntMulOk Builtin.Int.intTooBig;have h1:=h.bits;have h2:=h'.bits;have h3:=yb;have:¬ ((Builtin.Int.intBits a:Int)+(Builtin.Int.intBits b:Int)>(bitsLine:Int)):=by exact ag 5 0 (aa (ae (aj af ab) (nk 100000000)) (aa (ae dc af) (aa (ae aO ab) (aa (ae (nk 100000000) au) (dH (aM (az au) (bh (az dc) (az aO)))))))) (by kd_p) hs h1 h2 h3
 simp[this]
theorem kH{k:Nat}{a:Int}{m:Nat}(h1 : -(m:Int)<a)(h2:a<m)(hm:m≤2 ^ k):Sz k a:=by
 unfold Sz;exact ag 2 1 (aa (aM (cH (az ab)) aq) (aa (aM aq (az ab)) (aa (ae ab af) (ak (gD aq) af)))) (by kd_p) h1 h2 hm
theorem get_nil(x:Nat):get [] x=none:=rfl
theorem nH(y:Nat)(v:V)(r:aw)(x:Nat):get ((y,v)::r) x=if y=x then some v else get r x:=by
 show(bif Nat.beq y x then some v else get r x)=_
 by_cases h:y=x
 ·subst h;simp
 ·simp[h,m8 h]
theorem lJ(a:Int):Cl (.int a)↔True:=⟨fun zz=>trivial,fun zz=>.int⟩
noncomputable def cZ(x y z a b c:Int):Int:=
 x ^ (a+2).toNat*(y ^ (b+1).toNat*z ^ c.toNat-y ^ c.toNat*z ^ (b+1).toNat)-x ^ (b+1).toNat*(y ^ (a+2).toNat*z ^ c.toNat-y ^ c.toNat*z ^ (a+2).toNat)
  + x ^ c.toNat*(y ^ (a+2).toNat*z ^ (b+1).toNat-y ^ (b+1).toNat*z ^ (a+2).toNat)
theorem gZ.sz{j k:Nat}{a b:Int}(h:Sz j a)(h':Sz k b)(hs:j+k≤100000000):gZ a b:=⟨h.H7 h' hs⟩
theorem pz.sz{k:Nat}{a b:Int}(h:Sz k a)(h0:0≤b)(m:Nat)(hb:b≤m)(hs:k*m≤100000000):pz a b:=by
 refine⟨h0,?_⟩;have h1:=h.bits;have:(Builtin.Int.intBits a:Int)*b≤(k:Int)*(m:Int):=Int.mul_le_mul (by exact ag 2 0 (aa (ae af ab) (ai (az af) (az ab))) (by kd_p) h1) hb h0 (by exact Int.natCast_nonneg _)
 have h2:((k*m:Nat):Int)=(k:Int)*m:=Int.natCast_mul ..;have h3:(2:Int) ^ 27=134217728:=by decide
 omega
theorem cp.of{m:Nat}(h:m≤1000000):cp m:=⟨Nat.lt_of_le_of_lt h (by decide)⟩
theorem gM.of{m:Nat}(h:m≤1000000):gM m:=⟨Nat.le_trans h (by decide)⟩
theorem gM.lit{m:Nat}(h:Nat.ble m 1000000=true):gM m:=.of (Nat.le_of_ble_eq_true h)
theorem cp.lit{m:Nat}(h:Nat.ble m 1000000=true):cp m:=.of (Nat.le_of_ble_eq_true h)
theorem vE{n:Nat}{O:Mu}{x y z a b c:Int}{Q:V→Mu→Prop}(hx:Sz 10 x)(hy:Sz 10 y)(hz:Sz 10 z)(ha:0≤a∧a≤20)(hb:0≤b∧b≤20)(hc:0≤c∧c≤20)(q:Cl (.int (cZ x y z a b c))∧Q (.int (cZ x y z a b c)) (O.take O.length)):
  aX G bX n ik (bc [] [(wq,.list [.int x,.int y,.int z]),(kT,.list [.int a,.int b,.int c])]) O (qz O Q):=by
 have ea:(a+2).toNat≤22:=by exact ag 0 1 (aa (aT (ai aJ aq) (ai aq dA)) (ae (dz (bh aq jQ)) (nk 22))) (by kd_p) ha
 have eb:(b+1).toNat≤22:=by exact ag 0 1 (aa (aT (ai aJ aq) (ai aq dA)) (ae (dz (bh aq bV)) (nk 22))) (by kd_p) hb
 have ec:c.toNat≤22:=by exact ag 0 1 (aa (aT (ai aJ aq) (ai aq dA)) (ae (dz aq) (nk 22))) (by kd_p) hc
 have pw:∀ {p:Int} {e:Nat},Sz 10 p→e≤22→Sz 221 (p ^ e):=fun h he=>h.ya _ he;have l3:cp [V.int a,V.int b,V.int c].length:=.lit rfl;unfold ik;repeat first
  |kd_in
  |refine V_at (v:=.int a) rfl (by show(-3:Int)≤_;decide) l3 ?_
  |refine V_at (v:=.int b) rfl (by show(-3:Int)≤_;decide) l3 ?_
  |refine V_at (v:=.int c) rfl (by show(-3:Int)≤_;decide) l3 ?_
  |refine⟨gM.lit rfl,?_⟩
  |refine qk (pz.sz (by assumption) (by(first|exact ag 0 1 (aa (aT (ai aJ aq) (ai aq dA)) (ai aJ (bh aq jQ))) (by kd_p) ha|exact ag 0 1 (aa (aT (ai aJ aq) (ai aq dA)) (ai aJ (bh aq bV))) (by kd_p) hb|exact ag 0 1 (aa (aT (ai aJ aq) (ai aq dA)) (ai aJ aq)) (by kd_p) hc)) 22 (by(first|exact ag 0 1 (aa (aT (ai aJ aq) (ai aq dA)) (ai (bh aq jQ) (az (nk 22)))) (by kd_p) ha|exact ag 0 1 (aa (aT (ai aJ aq) (ai aq dA)) (ai (bh aq bV) (az (nk 22)))) (by kd_p) hb|exact ag 0 1 (aa (aT (ai aJ aq) (ai aq dA)) (ai aq (az (nk 22)))) (by kd_p) hc)) (by decide)) ?_
  |refine gg (gZ.sz (pw (by assumption) (by assumption)) (pw (by assumption) (by assumption)) (by decide)) ?_
  |refine gg (gZ.sz (pw (by assumption) (by assumption)) (Sz.sub (Sz.mul (pw (by assumption) (by assumption)) (pw (by assumption) (by assumption))) (Sz.mul (pw (by assumption) (by assumption)) (pw (by assumption) (by assumption)))) (by decide)) ?_
theorem dT(hG:bx G){n:Nat}{x y z a b c:Int}{O:Mu}{Q:V→Mu→Prop}(hx:Sz 10 x)(hy:Sz 10 y)(hz:Sz 10 z)(ha:0≤a∧a≤20)(hb:0≤b∧b≤20)(hc:0≤c∧c≤20)(q:Q (.int (cZ x y z a b c)) O):
  aU G (n+1) (.ref 191) [.list [.int x,.int y,.int z],.list [.int a,.int b,.int c]] [] O Q:=by
 refine fN hG (st:=ik) (own:=qt) [(wq,.list [.int x,.int y,.int z]),(kT,.list [.int a,.int b,.int c])] (fun P ys ks B Z r rk=>?_) (vE hx hy hz ha hb hc (by rw[List.take_length];exact⟨.int,q⟩))
 refine aB.aN r ?_;intro y zz r1 r;refine aB.aN r ?_;intro z zz r2 r;refine aB.bE r ?_;refine aB.bE rk ?_;exact⟨[y,z],.cons r1 (.cons r2 .nil),fun S=>by kd_p⟩
noncomputable def cO(p:Nat→Bool):Nat→Nat→Nat→Nat
 |0,lo,_=>lo
 |f+1,lo,hi=>if lo<hi then(if p ((lo+hi)/2) then cO p f lo ((lo+hi)/2) else cO p f ((lo+hi)/2+1) hi) else lo
theorem oU(p:Nat→Bool)(f lo hi:Nat):cO p (f+1) lo hi=if lo<hi then(if p ((lo+hi)/2) then cO p f lo ((lo+hi)/2) else cO p f ((lo+hi)/2+1) hi) else lo:=rfl
theorem Ey(a b:Nat):((a:Int)+(b:Int)).fdiv 2=(((a+b)/2:Nat):Int):=by
 rw[Int.fdiv_eq_ediv_of_nonneg _ (by decide)]
 exact XU
theorem QM:N3 2:=⟨by decide,by decide +kernel⟩
noncomputable abbrev Lf:S:=.asg (.name 44) (.bin .FloorDiv (.bin .Add (.var 40) (.var 43)) (.int 2))
noncomputable abbrev goLeft:Ss:=.cons (.asg (.name 43) (.var 44)) .nil
noncomputable abbrev goRight:Ss:=.cons (.asg (.name 40) (.bin .Add (.var 44) (.int 1))) .nil
theorem zC{n mid:Nat}{U:aw}{O:Mu}{K:Fl→aw→Mu→Prop}(h:get U 44=some (.int (mid:Nat)))(k:K .next (set U 43 (.int (mid:Nat))) O):aX G bX n goLeft U O K:=by
 unfold goLeft;k_upd
theorem wA{n mid:Nat}{U:aw}{O:Mu}{K:Fl→aw→Mu→Prop}(h:get U 44=some (.int (mid:Nat)))(k:K .next (set U 40 (.int (mid+1:Nat))) O):aX G bX n goRight U O K:=by
 unfold goRight;k_upd
def H8(O:Mu)(len:Nat)(p:Nat→Bool)(av xv kv:V)(k:Nat)(ao:aw)(ar:Mu):Prop:=ar=O∧∃lo hi f:Nat,k=hi-lo∧hi-lo≤f∧lo≤hi∧hi≤len∧get ao 19=some av∧get ao 39=some xv∧get ao 41=some kv∧get ao 40=some (.int lo)∧get ao 43=some (.int hi)∧cO p f lo hi=cO p len 0 len
theorem yc{n:Nat}{c:T}{sL sR:Ss}{len:Nat}{p:Nat→Bool}{dir:Bool}(hd:(dir=true∧sL=goLeft∧sR=goRight)∨(dir=false∧sL=goRight∧sR=goLeft)){av xv kv:V}{O:Mu}
  (H:∀i,i<len→∀ (U:aw) (Q:Bool→Mu→Prop),get U 19=some av→get U 39=some xv→get U 41=some kv→get U 44=some (.int i)→Q (p i==dir) O→tU G bX n c U O Q)
  {U:aw}{Q:Fl→aw→Mu→Prop}(ha:get U 19=some av)(hx:get U 39=some xv)(hk:get U 41=some kv)(hU:get U 40=some (.int 0))(AG:get U 43=some (.int len))
  (q:∀ao,get ao 40=some (.int (cO p len 0 len))→get ao 19=some av→get ao 39=some xv→get ao 41=some kv→Q .next ao O):
  wpS G bX n (.rb (.cmp .Lt (.var 40) (.var 43)) (.cons Lf (.cons (.iff c sL sR) .nil))) U O Q:=by
 refine Eg (H8 O len p av xv kv) len
  ⟨rfl,0,len,len,by exact ag 1 0 (ax ab (bb ab b6)) (by kd_p),by exact ag 1 0 (ae (bb ab b6) ab) (by kd_p),by exact Nat.zero_le _,by exact Nat.le_refl _,ha,hx,hk,hU,AG,rfl⟩ ?_
 rintro k ao ar ⟨rfl,lo,hi,f,rfl,hf,hle,hlen,Bg,KU,gL,Ob,U9,hR⟩;k_upd
 by_cases bA:lo<hi
 ·have e1:decide ((lo:Int)<(hi:Int))=true:=by simpa using bA
  rw[e1];show aX G bX n _ ao ar _;k_upd;refine dO QM ?_;k_upd;rw[Ey];have hm:(lo+hi)/2<len:=by exact XW hlen bA
  have h1:lo≤(lo+hi)/2:=by exact Tb bA
  have h2:(lo+hi)/2<hi:=by exact OY bA
  obtain⟨f,rfl⟩:∃f',f=f'+1:=⟨f-1,by exact ag 3 0 (aa (ae (bb af ab) au) (aa (ak ab af) (ax au (aj (bb au aC) aC)))) (by kd_p) hf bA⟩
  rw[oU,if_pos bA]at hR;generalize (lo+hi)/2=mid at *;have QN:=gn (x:=44) (v:=.int (mid:Nat)) Bg;have QO:=gn (x:=44) (v:=.int (mid:Nat)) KU;have QP:=gn (x:=44) (v:=.int (mid:Nat)) gL;have YV:=gn (x:=44) (v:=.int (mid:Nat)) Ob;have YW:=gn (x:=44) (v:=.int (mid:Nat)) U9;have H9:get (set ao 44 (.int (mid:Nat))) 44=some (.int (mid:Nat)):=gs;generalize set ao 44 (.int (mid:Nat))=a9 at *;refine H mid hm _ _ QN QO QP H9 ?_;have ec:((mid:Int)+1)=((mid+1:Nat):Int):=by exact ag 1 0 (aS (bh (az ab) bV) (az (aj ab aC))) (by kd_p)
  have hL:p mid=true→∃m,m<hi-lo∧H8 ar len p av xv kv m (set a9 43 (.int (mid:Nat))) ar:=fun hp=>by
   rw[hp]at hR;exact⟨mid-lo,by exact ag 3 0 (aa (ak af ab) (aa (ae af au) (aa (ak au ab) (ak (bb au af) (bb ab af))))) (by kd_p) bA h1 h2,rfl,lo,mid,f,rfl,by exact ag 4 0 (aa (ak au ab) (aa (ae (bb ab au) (aj af aC)) (aa (ae au aO) (aa (ak aO ab) (ae (bb aO au) af))))) (by kd_p) bA hf h1 h2,h1,by exact ag 2 0 (aa (ak af ab) (ae af ab)) (by kd_p) hm,gn QN,gn QO,gn QP,gn YV,gs,hR⟩
  have vB:p mid=false→∃m,m<hi-lo∧H8 ar len p av xv kv m (set a9 40 (.int (mid+1:Nat))) ar:=fun hp=>by
   rw[hp]at hR;exact⟨hi-(mid+1),by exact ag 3 0 (aa (ak ab au) (aa (ae ab af) (aa (ak af au) (ak (bb au (aj af aC)) (bb au ab))))) (by kd_p) bA h1 h2,rfl,mid+1,hi,f,rfl,by exact ag 4 0 (aa (ak ab aO) (aa (ae (bb aO ab) (aj af aC)) (aa (ae ab au) (aa (ak au aO) (ae (bb aO (aj au aC)) af))))) (by kd_p) bA hf h1 h2,h2,hlen,gn QN,gn QO,gn QP,gs,gn YW,hR⟩
  rcases hd with⟨rfl,rfl,rfl⟩|⟨rfl,rfl,rfl⟩<;>cases hp:p mid
  ·exact wA H9 (eB (vB hp))
  ·exact zC H9 (eB (hL hp))
  ·exact wA H9 (eB (vB hp))
  ·exact zC H9 (eB (hL hp))
 ·have e1:decide ((lo:Int)<(hi:Int))=false:=by simpa using bA
  rw[e1];have e2:cO p f lo hi=lo:=by
   cases f with
   |zero=>rfl
   |succ f=>rw[oU,if_neg bA]
  refine q ao ?_ Bg KU gL;rw[Ob,←hR,e2]
theorem bx.keep(hG:bx G){a:Addr}(h:∀P,keepIn (KP P) (.ref a)=true):keepIn G.K (.ref a)=true:=by
 obtain⟨P,hP⟩:=hG.K;rw[hP];exact h P
theorem CK(hG:bx G){n:Nat}{a:Addr}{vs:List V}{kw:List (Str×V)}{O:Mu}{Q:V→Mu→Prop}(h:aU G n (.ref a) vs kw O Q)(hk:∀P,keepIn (KP P) (.ref a)=true:=by exact fun P=>by kd_p):bD G n (.raw (.ref a)) vs kw O Q:=bD.K (hG.keep hk) h
theorem kI(hG:bx G){n:Nat}{xs:List V}{v:V}{O:Mu}{Q:V→Mu→Prop}(hx:xs[0]?=some v)(bG:xs.length≤100000)(hc:Cl v)(q:Q v O):aU G (n+1) (.ref 220) [.tuple xs] [] O Q:=by
 refine fN hG (st:=pG) (own:=x4) [(Qn,.tuple xs)] (fun P ys ks B Z r rk=>?_) ?_
 ·refine aB.aN r ?_;intro y zz r1 r
  refine aB.bE r ?_;refine aB.bE rk ?_;exact⟨[y],.cons r1 .nil,fun S=>by kd_p⟩
 ·unfold pG
  k_upd;refine jw hx (by decide) (.of (by exact Ay bG)) ⟨hc,?_⟩
  rw[List.take_length];exact q
def mK(O:Mu)(av:V)(xs:List V):Prop:=av=.list xs∨∃j,av=.ml j∧(O[j]?:Option (Option (List V)))=some (some xs)
theorem mK.sub{n:Nat}{O:Mu}{av:V}{xs:List V}(h:mK O av xs){i:Nat}{v:V}{Q:V→Mu→Prop}(hv:xs[i]?=some v)(bG:xs.length≤100000)(q:Q v O):gf G n av (.int i) O Q:=by
 have e:cE (i:Int) xs.length=i:=by unfold cE;rw[if_neg (by exact xt)];rfl
 rcases h with rfl|⟨j,rfl,hj⟩
 ·exact V_at (by rw[e];exact hv) (by exact Tc bG e) (.of (by exact Ay bG)) q
 ·exact xO hj (by rw[e];exact hv) (by exact Tc bG e) (.of (by exact Ay bG)) q
theorem mK.len{n:Nat}{O:Mu}{av:V}{xs:List V}(h:mK O av xs){Q:V→Mu→Prop}(bG:xs.length≤100000)(q:Q (.int xs.length) O):bD G n (.raw (.builtin "len")) [av] [] O Q:=by
 rcases h with rfl|⟨j,rfl,hj⟩
 ·exact cM (cp.of (by exact Ay bG)).ok q
 ·exact fh hj (cp.of (by exact Ay bG)).ok q
theorem qD{n:Nat}{O:Mu}{Q:V→Mu→Prop}{av:V}{ns:List Int}{x:Int}(hs:mK O av (ns.map .int))(bG:ns.length≤100000)(q:Q (.int (cO (fun i=>decide (x<ns.getD i 0)) ns.length 0 ns.length)) O):
  aX G bX n df (bc [] [(gH,av),(md,.int x),(pE,.int 0),(pF,.none),(lx,.none)]) O (qz O Q):=by
 unfold df;k_upd;show aX G bX n _ _ O _;k_upd;refine hs.len (by simpa using bG) ?_
 k_upd;rw[List.length_map];refine yc (len:=ns.length) (p:=fun i=>decide (x<ns.getD i 0)) (dir:=true) (.inl ⟨rfl,rfl,rfl⟩) (av:=av) (xv:=.int x) (kv:=.none) (fun i hi U Q h1 h2 h3 h4 q=>?_) rfl rfl rfl rfl rfl fun ao h1 h2 h3 h4=>?_
 ·have e:(ns.map V.int)[i]?=some (.int ns[i]):=by simp[hi]
  have e2:ns.getD i 0=ns[i]:=by simp[List.getD,hi]
  k_upd;refine hs.sub e (by simpa using bG) ?_
  k_upd;rw[e2,beq_true]at q;exact q
 ·k_upd
  exact⟨.int,by rw[List.take_length];exact q⟩
theorem qE(hG:bx G){n:Nat}{O:Mu}{Q:V→Mu→Prop}{av:V}{ns:List Int}{x:Int}(hs:mK O av (ns.map .int))(bG:ns.length≤100000)(q:Q (.int (cO (fun i=>decide (x<ns.getD i 0)) ns.length 0 ns.length)) O):
  aU G (n+1) (.ref 102) [av,.int x] [] O Q:=by
 refine fN hG (st:=df) (own:=iU) [(gH,av),(md,.int x),(pE,.int 0),(pF,.none),(lx,.none)] (fun P ys ks B Z r rk=>?_) (qD hs bG q);refine aB.aN r ?_;intro y zz r1 r;refine aB.aN r ?_;intro z zz r2 r;refine aB.bE r ?_;refine aB.bE rk ?_;exact⟨[y,z,.int 0 325,.none,.none],.cons r1 (.cons r2 (.cons .int (.cons .none (.cons .none .nil)))),fun S=>by kd_p⟩
def Keyed(xs:List V)(sh:Nat→List Int):Prop:=∀ (i:Nat) (v:V),xs[i]?=some v→∃ys:List V,v=V.tuple ys∧ys[0]?=some (V.list ((sh i).map .int))∧ys.length≤100000
theorem jG(xs:List Int):Cl (.list (xs.map .int)):=.list fun x hx=>by refine aW (List.mem_map.mp hx) ?_;intro i zz z1;subst z1;exact .int
theorem iH(hG:bx G){n:Nat}{O:Mu}{Q:V→Mu→Prop}{av:V}{xs:List V}{sh:Nat→List Int}{x:List Int}(hs:mK O av xs)(hk:Keyed xs sh)(bG:xs.length≤100000)(q:Q (.int (cO (fun i=>fj x (sh i)) xs.length 0 xs.length)) O):
  aX G bX (n+1) df (bc [] [(gH,av),(md,.list (x.map .int)),(pE,.int 0),(pF,.none),(lx,.raw (.ref 220))]) O (qz O Q):=by
 unfold df;k_upd;show aX G bX (n+1) _ _ O _;k_upd;refine hs.len bG ?_;k_upd;refine tO nofun ?_;k_upd;refine yc (len:=xs.length) (p:=fun i=>fj x (sh i)) (dir:=true) (.inl ⟨rfl,rfl,rfl⟩) (av:=av) (xv:=.list (x.map .int)) (kv:=.raw (.ref 220)) (fun i hi U Q h1 h2 h3 h4 q=>?_) rfl rfl rfl rfl rfl fun ao h1 h2 h3 h4=>?_
 ·refine gJ (hk i _ (List.getElem?_eq_getElem hi)) ?_;intro ys e e0 hl
  k_upd;refine hs.sub (List.getElem?_eq_getElem hi) bG ?_;rw[e];k_upd;refine CK hG (kI hG e0 hl (jG _) ?_);k_upd;refine HS ?_;k_upd;simpa using q
 ·k_upd
  exact⟨.int,by rw[List.take_length];exact q⟩
theorem nU(hG:bx G){n:Nat}{O:Mu}{Q:V→Mu→Prop}{av:V}{xs:List V}{sh:Nat→List Int}{x:List Int}(hs:mK O av xs)(hk:Keyed xs sh)(bG:xs.length≤100000)(q:Q (.int (cO (fun i=>!fj (sh i) x) xs.length 0 xs.length)) O):
  aX G bX (n+1) jB (bc [] [(gH,av),(md,.list (x.map .int)),(pE,.int 0),(pF,.none),(lx,.raw (.ref 220))]) O (qz O Q):=by
 unfold jB;k_upd;show aX G bX (n+1) _ _ O _;k_upd;refine hs.len bG ?_;k_upd;refine tO nofun ?_;k_upd;refine yc (len:=xs.length) (p:=fun i=>!fj (sh i) x) (dir:=false) (.inr ⟨rfl,rfl,rfl⟩) (av:=av) (xv:=.list (x.map .int)) (kv:=.raw (.ref 220)) (fun i hi U Q h1 h2 h3 h4 q=>?_) rfl rfl rfl rfl rfl fun ao h1 h2 h3 h4=>?_
 ·refine gJ (hk i _ (List.getElem?_eq_getElem hi)) ?_;intro ys e e0 hl
  k_upd;refine hs.sub (List.getElem?_eq_getElem hi) bG ?_;rw[e];k_upd;refine CK hG (kI hG e0 hl (jG _) ?_);k_upd;refine HS ?_;k_upd;simpa using q
 ·k_upd
  exact⟨.int,by rw[List.take_length];exact q⟩
theorem mM(hG:bx G){n:Nat}{O:Mu}{Q:V→Mu→Prop}{av:V}{xs:List V}{sh:Nat→List Int}{x:List Int}(hs:mK O av xs)(hk:Keyed xs sh)(bG:xs.length≤100000)(q:Q (.int (cO (fun i=>fj x (sh i)) xs.length 0 xs.length)) O):
  aU G (n+2) (.ref 102) [av,.list (x.map .int)] [("key",.raw (.ref 220))] O Q:=by
 refine fN hG (st:=df) (own:=iU) [(gH,av),(md,.list (x.map .int)),(pE,.int 0),(pF,.none),(lx,.raw (.ref 220))] (fun P ys ks B Z r rk=>?_) (iH hG hs hk bG q);refine aB.aN r ?_;intro y zz r1 r;refine aB.aN r ?_;intro z zz r2 r;refine aB.bE r ?_;refine aB.aN rk ?_;intro k zz r3 rk;refine aB.bE rk ?_;exact⟨[y,z,.int 0 325,.none,k],.cons r1 (.cons r2 (.cons .int (.cons .none (.cons r3 .nil)))),fun S=>by kd_p⟩
theorem mn(hG:bx G){n:Nat}{O:Mu}{Q:V→Mu→Prop}{av:V}{xs:List V}{sh:Nat→List Int}{x:List Int}(hs:mK O av xs)(hk:Keyed xs sh)(bG:xs.length≤100000)(q:Q (.int (cO (fun i=>fj x (sh i)) xs.length 0 xs.length)) O):
  aU G (n+2) (.ref 102) [av,.list (x.map .int),.int 0,.none] [("key",.raw (.ref 220))] O Q:=by
 refine fN hG (st:=df) (own:=iU) [(gH,av),(md,.list (x.map .int)),(pE,.int 0),(pF,.none),(lx,.raw (.ref 220))] (fun P ys ks B Z r rk=>?_) (iH hG hs hk bG q);refine aB.aN r ?_;intro y zz r1 r;refine aB.aN r ?_;intro z zz r2 r;refine aB.aN r ?_;intro u zz r4 r;refine aB.aN r ?_;intro w zz r5 r;refine aB.bE r ?_;refine aB.aN rk ?_;intro k zz r3 rk;refine aB.bE rk ?_;exact⟨[y,z,u,w,k],.cons r1 (.cons r2 (.cons r4 (.cons r5 (.cons r3 .nil)))),fun S=>by kd_p⟩
theorem i6(hG:bx G){n:Nat}{O:Mu}{Q:V→Mu→Prop}{av:V}{xs:List V}{sh:Nat→List Int}{x:List Int}(hs:mK O av xs)(hk:Keyed xs sh)(bG:xs.length≤100000)(q:Q (.int (cO (fun i=>!fj (sh i) x) xs.length 0 xs.length)) O):
  aU G (n+2) (.ref 111) [av,.list (x.map .int)] [("key",.raw (.ref 220))] O Q:=by
 refine fN hG (st:=jB) (own:=ua) [(gH,av),(md,.list (x.map .int)),(pE,.int 0),(pF,.none),(lx,.raw (.ref 220))] (fun P ys ks B Z r rk=>?_) (nU hG hs hk bG q);refine aB.aN r ?_;intro y zz r1 r;refine aB.aN r ?_;intro z zz r2 r;refine aB.bE r ?_;refine aB.aN rk ?_;intro k zz r3 rk;refine aB.bE rk ?_;exact⟨[y,z,.int 0 339,.none,k],.cons r1 (.cons r2 (.cons .int (.cons .none (.cons r3 .nil)))),fun S=>by kd_p⟩
theorem qF(hG:bx G){n:Nat}{O:Mu}{Q:V→Mu→Prop}{j:Nat}{xs:List V}{sh:Nat→List Int}{x:List Int}{rest:List V}(hj:(O[j]?:Option (Option (List V)))=some (some xs))(hk:Keyed xs sh)(bG:xs.length≤100000)(hr:rest.length≤1000)(hc:∀v∈rest,Cl v)
  (hle:cO (fun i=>fj x (sh i)) xs.length 0 xs.length≤xs.length)
  (q:Q .none ((O.set j (some (xs.take (cO (fun i=>fj x (sh i)) xs.length 0 xs.length)++.tuple (.list (x.map .int)::rest)::xs.drop (cO (fun i=>fj x (sh i)) xs.length 0 xs.length)))).take O.length)):
  aX G bX (n+2) iT (bc [] [(gH,.ml j),(md,.tuple (.list (x.map .int)::rest)),(pE,.int 0),(pF,.none),(lx,.raw (.ref 220))]) O (qz O Q):=by
 have ct:Cl (.tuple (.list (x.map .int)::rest)):=.tuple fun v hv=>by
  rcases List.mem_cons.mp hv with rfl|hv
  ·exact jG x
  ·exact hc v hv
 unfold iT;k_upd;refine tO nofun ?_;k_upd;refine CK hG (kI hG (n:=n+1) (v:=.list (x.map .int)) rfl (by simp;exact ag 1 0 (aa (ae ab bw) (ae ab (nk 99999))) (by kd_p) hr) (jG _) ?_)
 k_upd;refine CK hG (mn hG (xs:=xs) (sh:=sh) (.inr ⟨j,rfl,hj⟩) hk bG ?_);k_upd;refine bB ?_;k_upd;refine⟨_,xW hj,?_⟩;k_upd;refine xX hj (by exact Int.natCast_nonneg _) (by exact_mod_cast hle) (gM.of (by exact Ay bG)).ok ct ?_
 k_upd
theorem qG(hG:bx G){n:Nat}{O:Mu}{Q:V→Mu→Prop}{j:Nat}{xs:List V}{sh:Nat→List Int}{x:List Int}{rest:List V}(hj:(O[j]?:Option (Option (List V)))=some (some xs))(hk:Keyed xs sh)(bG:xs.length≤100000)(hr:rest.length≤1000)(hc:∀v∈rest,Cl v)
  (hle:cO (fun i=>fj x (sh i)) xs.length 0 xs.length≤xs.length)
  (q:Q .none (O.set j (some (xs.take (cO (fun i=>fj x (sh i)) xs.length 0 xs.length)++.tuple (.list (x.map .int)::rest)::xs.drop (cO (fun i=>fj x (sh i)) xs.length 0 xs.length))))):
  aU G (n+3) (.ref 93) [.ml j,.tuple (.list (x.map .int)::rest)] [("key",.raw (.ref 220))] O Q:=by
 refine fN hG (st:=iT) (own:=sd) [(gH,.ml j),(md,.tuple (.list (x.map .int)::rest)),(pE,.int 0),(pF,.none),(lx,.raw (.ref 220))] (fun P ys ks B Z r rk=>?_) (qF hG hj hk bG hr hc hle (by rw[List.take_of_length_le (by simp)];exact q))
 refine aB.aN r ?_;intro y zz r1 r;refine aB.aN r ?_;intro z zz r2 r;refine aB.bE r ?_;refine aB.aN rk ?_;intro k zz r3 rk;refine aB.bE rk ?_;exact⟨[y,z,.int 0 312,.none,k],.cons r1 (.cons r2 (.cons .int (.cons .none (.cons r3 .nil)))),fun S=>by kd_p⟩
theorem zD{n:Nat}{O:Mu}{Q:V→Mu→Prop}{a b k:Int}(ha:(Builtin.Int.intBits a:Int)-k≤4000)(hb:b≠0)(hs:b.natAbs.log2<9000)(q:Q (.tuple [.int (a.fdiv b),.int (a.fmod b)]) (O.take O.length)):
  aX G bX n oH (bc [] [(gH,.int a),(mF,.int b),(jV,.int k)]) O (qz O Q):=by
 unfold oH;k_upd;refine bB ?_;k_upd;refine⟨_,ig,?_⟩;k_upd;refine ij ?_;k_upd;rw[show decide ((Builtin.Int.intBits a:Int)-k≤4000)=true by simpa using ha]
 k_upd;exact AY hb hs ⟨.tuple (by simp[lJ]),q⟩
theorem zE(hG:bx G){n:Nat}{O:Mu}{Q:V→Mu→Prop}{a b k:Int}(ha:(Builtin.Int.intBits a:Int)-k≤4000)(hb:b≠0)(hs:b.natAbs.log2<9000)(q:Q (.tuple [.int (a.fdiv b),.int (a.fmod b)]) O):aU G (n+1) (.ref 49) [.int a,.int b,.int k] [] O Q:=by
 refine fN hG (st:=oH) (own:=A2) [(gH,.int a),(mF,.int b),(jV,.int k)] (fun P ys ks B Z r rk=>?_) (zD ha hb hs (by rw[List.take_length];exact q))
 refine aB.aN r ?_;intro y zz r1 r;refine aB.aN r ?_;intro z zz r2 r;refine aB.aN r ?_;intro u zz r3 r;refine aB.bE r ?_;refine aB.bE rk ?_;exact⟨[y,z,u],.cons r1 (.cons r2 (.cons r3 .nil)),fun S=>by kd_p⟩
theorem uo(m:Nat):sliceRange 0 (m:Int) 1=List.range m:=by
 unfold sliceRange
 by_cases h:(0:Int)<m
 ·have h':0<m:=by exact Td h
  simp[h']
 ·have:m=0:=by exact ag 1 0 (aa (dH (aM aJ (az ab))) (ax ab b6)) (by kd_p) h
  subst this;simp
theorem rz{τ:Type}(xs:List τ):∀m,(List.range m).filterMap (xs[·]?)=xs.take m
 |0=>by simp
 |m+1=>by
  rw[List.range_succ,List.filterMap_append,rz xs m,List.take_add_one];cases h:xs[m]?<;>simp[h]
theorem oV{τ:Type}(xs:List τ)(b:Nat):pick xs none (some (b:Int)) none=xs.take b:=by
 unfold pick sliceBounds;simp only[Option.getD_none];rw[if_pos (by decide),if_neg (by exact xt:¬ (b:Int)<0)]
 rw[show max 0 (min (b:Int) (xs.length:Int))=((min b xs.length:Nat):Int) by exact ag 2 0 (aS (xq aJ (Aw (az af) (az ab))) (az (jP af ab))) (by kd_p)]
 simp only[show((1:Int)>0)=True by simp,if_true]
 rw[uo,rz];rw[List.take_eq_take_iff];exact ag 2 0 (ax (jP (jP af ab) ab) (jP af ab)) (by kd_p)
theorem eJ{a b:Int}(ha : -1000000≤a)(Bg:a≤1000000)(hb : -1000000≤b)(yd:b≤1000000):Builtin.Range.small a b 1=true:=by
 have Bh:(2:Int) ^ 62=4611686018427387904:=by decide
 exact small_one (by rw[Bh];exact MB ha Bg) (by rw[Bh];exact MC ha Bg) (by rw[Bh];exact MB hb yd) (by rw[Bh];exact MC hb yd)
theorem dy{st:V→aw→Mu→(Fl→aw→Mu→Prop)→Prop}{xs:List V}{Q:Fl→aw→Mu→Prop}(J:Nat→aw→Mu→Prop)
  (step:∀ (i:Nat) (x:V) (U:aw) (O:Mu) (k:Fl→aw→Mu→Prop),xs[i]?=some x→J i U O→(∀ao ar,J (i+1) ao ar→k .next ao ar)→(∀ao ar,Q .next ao ar→k .brk ao ar)→(∀v ao ar,Q (.ret v) ao ar→k (.ret v) ao ar)→st x U O k)
  (fin:∀U O,J xs.length U O→Q .next U O){U:aw}{O:Mu}(h0:J 0 U O):forL st xs U O Q:=by
 have gen:∀ (m i:Nat) (U:aw) (O:Mu),xs.length-i=m→i≤xs.length→J i U O→forL st (xs.drop i) U O Q:=by
  intro m
  induction m with
  |zero=>
   intro i U O hm hi hJ;have:i=xs.length:=by exact ag 2 0 (aa (ax (bb ab af) b6) (aa (ae af ab) (ax af ab))) (by kd_p) hm hi
   subst this;rw[List.drop_length];exact fin _ _ hJ
  |succ m ih=>
   intro i U O hm hi hJ;have bA:i<xs.length:=by exact ag 3 0 (aa (ax (bb af au) (aj ab aC)) (aa (ae au af) (ak au af))) (by kd_p) hm hi
   rw[List.drop_eq_getElem_cons bA];exact step i _ U O _ (List.getElem?_eq_getElem bA) hJ (fun ao ar h=>ih (i+1) ao ar (by exact ag 3 0 (aa (ax (bb au af) (aj ab aC)) (aa (ak af au) (ax (bb au (aj af aC)) ab))) (by kd_p) hm bA) (by exact F9 bA) h) (fun zz zz h=>h) fun zz zz zz h=>h
 have:=gen xs.length 0 U O rfl (Nat.zero_le _) h0
 rwa [List.drop_zero]at this
theorem uq{m i:Nat}(x:V)(h:(cI 0 (m:Int))[i]?=some x):i<m∧x=.int (i:Int):=by
 unfold cI at h;rw[List.getElem?_map]at h;cases q:(List.range ((m:Int)-0).toNat)[i]? with
 |none=>rw[q]at h;cases h
 |some j=>
  rw[q]at h;obtain⟨h1,h2⟩:=List.getElem?_eq_some_iff.mp q;simp at h1 h2;subst h2;cases h;exact⟨h1,by simp⟩
noncomputable def iw(i:Nat)(cs:List Int)(x:Int):List Int:=cs.set (i%6) (cs.getD (i%6) 0+(if 0≤x then x.fmod (10 ^ 6) else -((-x).fmod (10 ^ 6))))
noncomputable def jH:Nat→List Int→List Int→List Int
 |_,cs,[]=>cs
 |i,cs,x::xs=>jH (i+1) (iw i cs x) xs
noncomputable def cellsOf(Lg:List Int):List Int:=jH 0 [-3,4,2,4,0,5137] (Lg.take 60)
theorem vF{n:Nat}{O:Mu}{Q:V→Mu→Prop}{xs:List Int}(hx:xs.length≤100000)(q:Q (.list ((cellsOf xs).map .int)) O):
  aX G bX n lB (bc [] [(wo,.list (xs.map .int))]) O (wu O Q):=by
 unfold lB;k_upd;refine⟨.of (by decide),(by simp[lJ]),?_⟩
 k_upd;refine tP (xs:=xs.map .int) (lo:=none) (hi:=some 60) (st:=none) (by decide) (.of (by simp;exact Ay hx)) ?_
 rw[show(60:Int)=((60:Nat):Int) from rfl,oV,←List.map_take];k_upd;refine cM (cp.of (by simp;exact ag 1 0 (aa (ae ab (nk 100000)) (ae (jP (nk 60) ab) aQ)) (by kd_p) hx)).ok ?_
 k_upd;refine dY ?_;refine⟨_,Iter.gE (eJ (by decide) (by decide) (by exact MD) (by simp;exact ag 1 0 (aa (ae ab (nk 100000)) (ai (az (jP (nk 60) ab)) (zk 1000000))) (by kd_p) hx)),?_⟩
 generalize i9:xs.take 60=ns;have hl:ns.length≤60:=by rw[←i9];simp;exact ag 1 0 (aa (ae ab (nk 100000)) (ae (jP (nk 60) ab) (nk 60))) (by kd_p) hx
 rw[List.length_map];refine dy (fun i ao ar=>∃cs:List Int,cs.length=6∧ar=O++[some (cs.map .int)]∧get ao 60=some (.ml O.length)∧get ao 61=some (.list (ns.map .int))∧jH i cs (ns.drop i)=jH 0 [-3,4,2,4,0,5137] ns)
  (fun i x ao ar k hx hJ hn hb hr=>?_) (fun ao ar hJ=>?_) ⟨_,rfl,rfl,rfl,rfl,rfl⟩
 ·obtain⟨hi,rfl⟩:=uq x hx
  refine CC hJ ?_;clear hJ;intro cs cj z1;subst z1;intro Ez Va b7;have ye:get (set ao 56 (.int i)) 60=some (.ml O.length):=gn Ez;have YX:get (set ao 56 (.int i)) 61=some (.list (ns.map .int)):=gn Va;have g56:get (set ao 56 (.int i)) 56=some (.int i):=gs;k_upd;have iy:((O++[some (cs.map .int)])[O.length]?:Option (Option (List V)))=some (some (cs.map .int)):=by simp
  have e6:(i:Int).fmod 6=((i%6:Nat):Int):=by rw[Int.fmod_eq_emod_of_nonneg _ (by decide)];rfl
  have h6:i%6<cs.length:=by exact Te cj e6
  have ix:∀m:Nat,∀l:Nat,cE (m:Int) l=m:=fun m l=>by unfold cE;rw[if_neg (by exact xt)];rfl
  have hv:(cs.map V.int)[cE ((i%6:Nat):Int) (cs.map V.int).length]?=some (.int (cs.getD (i%6) 0)):=by rw[ix];simp[List.getD,h6]
  have EA:(ns.map V.int)[cE (i:Int) (ns.map V.int).length]?=some (.int ns[i]):=by rw[ix];simp[hi]
  have lc:cp (cs.map V.int).length:=.of (by simp;exact ag 1 0 (aa (ax ab (nk 6)) (ae ab aQ)) (by kd_p) cj)
  have ln:cp (ns.map V.int).length:=.of (by simp;exact ag 1 0 (aa (ae ab (nk 60)) (ae ab aQ)) (by kd_p) hl)
  have Vb:pz 10 6:=pz.sz (k:=4) (by unfold Sz;decide) (by decide) 6 (by decide) (by decide)
  have Vc:(10:Int) ^ (6:Int).toNat≠0:=by decide
  have put:∀y:Int,y=(if 0≤ns[i] then ns[i].fmod (10 ^ 6) else -((-ns[i]).fmod (10 ^ 6)))→qp G bX n (Tg.sub (E.var 60) (E.bin Operator.Mod (E.var 56) (E.int 6))) (.int (cs.getD (i%6) 0+y)) (set ao 56 (V.int ↑i)) (O++[some (cs.map .int)]) fun a9 aA=>aX G bX n .nil a9 aA k:=by
   rintro y rfl;k_upd;refine dB (by decide) ?_
   rw[e6];refine xP iy (by exact Int.natCast_nonneg _) (by simp;exact Tf cj e6) lc .int (eB ?_)
   refine hn _ _ ⟨iw i cs ns[i],by simp[iw,cj],?_,ye,YX,?_⟩
   ·rw[show((i%6:Nat):Int).toNat=i%6 from rfl];simp[iw,List.map_set]
   ·rw[List.drop_eq_getElem_cons hi]at b7
    exact b7
  refine dB (by decide) ?_
  rw[e6];refine xO iy hv (by exact Th e6) lc ?_
  k_upd;refine V_at EA (by exact Ga hl hi e6) ln ?_
  k_upd
  by_cases hp:0≤ns[i]
  ·rw[show decide (0≤ns[i])=true by simpa using hp]
   k_upd;refine V_at EA (by exact Ga hl hi e6) ln ?_
   k_upd;refine qk Vb ?_;refine dB Vc ?_;refine AL ?_;exact put _ (by rw[if_pos hp];rfl)
  ·rw[show decide (0≤ns[i])=false by simpa using hp]
   k_upd;refine V_at EA (by exact Ga hl hi e6) ln ?_
   k_upd;refine qk Vb ?_;refine dB Vc ?_;refine Hr ?_;refine AL ?_;exact put _ (by rw[if_neg hp];rfl)
 ·refine CC hJ ?_;clear hJ;intro cs cj z1;subst z1;intro Ez Va b7
  k_upd;refine⟨_,.ml (xs:=cs.map .int) (Nat.le_refl _) (by simp),?_⟩
  have:cs=cellsOf xs:=by
   unfold cellsOf;rw[i9,←b7];simp[cI,jH]
  rw[this];simpa using q
theorem vG(hG:bx G){n:Nat}{xs:List Int}{O:Mu}{Q:V→Mu→Prop}(hx:xs.length≤100000)(q:Q (.list ((cellsOf xs).map .int)) O):aU G (n+1) (.ref 184) [.list (xs.map .int)] [] O Q:=by
 refine x6 hG (st:=lB) (own:=x3) [(wo,.list (xs.map .int))] (fun P ys ks B Z r rk=>?_) (vF hx q);refine aB.aN r ?_;intro y zz r1 r;refine aB.bE r ?_;refine aB.bE rk ?_;exact⟨[y],.cons r1 .nil,fun S=>by kd_p⟩
theorem tN.small{x:Str}{n:Int}(hx:x.length≤1000)(h0 : -1000≤n)(hn:n≤1000):tN x n:=by
 refine⟨?_,?_,?_⟩
 ·have zF:(2:Int) ^ 63=9223372036854775808:=by decide
  rw[zF];simp;exact ag 0 1 (aa (ai (zk (-1000)) aq) (aa (ai aq (zk 1000)) (aT (ai (zk (-9223372036854775808)) aq) (aM aq (zk 9223372036854775808))))) (by kd_p) h0 hn
 ·intro h1 zz h2
  have zF:(2:Int) ^ 63=9223372036854775808:=by decide
  rw[zF]at h2;have:(1000:Int)≤(9223372036854775808-1)/n:=by
   rw[Int.le_ediv_iff_mul_le (by exact ag 0 1 (aa (ai (zk (-1000)) aq) (aa (ai aq (zk 1000)) (aa (dH (aM aq bV)) (aM aJ aq)))) (by kd_p) h0 hn h1)]
   exact ag 0 1 (aa (ai (zk (-1000)) aq) (aa (ai aq (zk 1000)) (aa (dH (aM aq bV)) (ai (xr 1000 aq) (bR (zk 9223372036854775808) bV))))) (by kd_p) h0 hn h1
  exact ag 1 1 (aa (ae ab bw) (aa (aM aq (az ab)) (aa (ai (zk 1000) aq) Kh))) (by kd_p) hx h2 this
 ·intro h1 zz
  have:x.length*n.toNat≤1000*1000:=Nat.mul_le_mul hx (by exact ag 0 1 (aa (ai (zk (-1000)) aq) (aa (ai aq (zk 1000)) (aa (dH (aM aq bV)) (ae (dz aq) bw)))) (by kd_p) h0 hn h1)
  unfold PySem.Builtin.Str.tooLong;rw[sizeLine_eq];simp;exact ag 1 0 (aa (ae ab (cY 1000 bw)) (ae ab bq)) (by kd_p) this
theorem kY(c:Nat)(n:Int):(Txt.mul ⟨#[c]⟩ n).length=n.toNat:=by
 have:=congrArg List.length (PyProof.Rows.mul_one_list c n);simpa[Str.length] using this
theorem lY.small{a b:Str}(ha:a.length≤1000000)(hb:b.length≤1000000):lY a b:=⟨by rw[sizeLine_eq];exact ag 2 0 (aa (ae af aQ) (aa (ae ab aQ) (ae (aj af ab) bq))) (by kd_p) ha hb⟩
noncomputable def kJ:List Str:=[Str.ofString "",Str.ofString "\")\"",Str.ofString "\\(",Str.ofString "a",Str.ofString "\"(\"",Str.ofString "\\)",Str.ofString "\\\\",Str.ofString "\\\""]
noncomputable def pieceOf(upper hide:Int)(k:Nat)(l:Int):Str:=if l=upper then Str.ofString "(" else if l=upper+1 then Str.ofString ")" else kJ.getD ((hide+3*(k:Int)).emod 8).toNat (Str.ofString "")
noncomputable def jg(upper hide:Int):Nat→Str→List Int→Str
 |_,t,[]=>t
 |k,t,l::ls=>jg upper hide (k+1) (t++pieceOf upper hide k l) ls
noncomputable def textOf(ls:List Int)(rise upper hide:Int):Str:=
 jg upper hide 0 (Txt.mul (Str.ofString "(") rise) ls++Txt.mul (Str.ofString ")") (rise+(ls.count upper:Nat)-(ls.count (upper+1):Nat))
theorem yf{n:Nat}{O:Mu}{Q:V→Mu→Prop}{ls:List Int}{rise upper hide:Int}(hl:ls.length≤100)(hr : -100≤rise∧rise≤100)(q:Q (.str (textOf ls rise upper hide)) O):
  aX G bX n mG (bc [] [(oG,.list (ls.map .int)),(xY,.int rise),(t9,.int upper),(xZ,.int hide)]) O (qz O Q):=by
 unfold mG;k_upd;refine⟨.of (by decide),?_⟩
 k_upd;refine sQ (tN.small (by decide) (by exact ag 0 1 (aa (aT (ai (zk (-100)) aq) (ai aq dj)) (ai (zk (-1000)) aq)) (by kd_p) hr) (by exact ag 0 1 (aa (aT (ai (zk (-100)) aq) (ai aq dj)) (ai aq (zk 1000))) (by kd_p) hr)) ?_
 k_upd;refine cM (cp.of (by simp;exact Gb hl)).ok ?_
 k_upd;refine dY ?_;refine⟨_,Iter.gE (eJ (by decide) (by decide) (by exact MD) (by simp;exact ag 1 0 (aa (ae ab cy) (ai (az ab) (zk 1000000))) (by kd_p) hl)),?_⟩
 rw[List.length_map];refine dy (fun i ao ar=>∃t:Str,t.length≤100+3*i∧ar=O∧get ao K6=some (.str t)∧get ao oG=some (.list (ls.map .int))∧get ao t9=some (.int upper)∧get ao xZ=some (.int hide)∧get ao xY=some (.int rise) ∧
   get ao K7=some (.list (kJ.map .str))∧jg upper hide i t (ls.drop i)=jg upper hide 0 (Txt.mul (Str.ofString "(") rise) ls)
  (fun i x ao ar k hx hJ hn hb hr=>?_) (fun ao ar hJ=>?_) ⟨_,?_,rfl,rfl,rfl,rfl,rfl,rfl,rfl,rfl⟩
 ·obtain⟨hi,rfl⟩:=uq x hx
  refine qX hJ ?_;clear hJ;intro t ht z1;subst z1;intro h1 h2 h3 h4 h5 h6 b7;have g1:get (set ao 80 (.int i)) 90=some (.str t):=gn h1;have g2:get (set ao 80 (.int i)) 92=some (.list (ls.map .int)):=gn h2;have g3:get (set ao 80 (.int i)) 93=some (.int upper):=gn h3;have g4:get (set ao 80 (.int i)) 95=some (.int hide):=gn h4;have g5:get (set ao 80 (.int i)) 91=some (.int rise):=gn h5;have g6:get (set ao 80 (.int i)) 94=some (.list (kJ.map .str)):=gn h6;have g7:get (set ao 80 (.int i)) 80=some (.int i):=gs;have ix:∀m:Nat,∀l:Nat,cE (m:Int) l=m:=fun m l=>by unfold cE;rw[if_neg (by exact xt)];rfl
  have EA:(ls.map V.int)[cE (i:Int) (ls.map V.int).length]?=some (.int ls[i]):=by rw[ix];simp[hi]
  have ln:cp (ls.map V.int).length:=.of (by simp;exact Gb hl)
  have put:∀p:Str,p.length≤3→p=pieceOf upper hide i ls[i]→k .next (set (set ao 80 (.int i)) 90 (.str (t++p))) ar:=by
   rintro p hp rfl;refine hn _ _ ⟨t++pieceOf upper hide i ls[i],?_,rfl,?_,?_,?_,?_,?_,?_,?_⟩
   ·rw[strLen_append];exact ag 4 0 (aa (ak af ab) (aa (ae aO (aj cy (cY 3 af))) (aa (ae au cm) (ae (aj aO au) (aj cy (cY 3 (aj af aC))))))) (by kd_p) hi ht hp
   all_goals first|(rw[get_set];first|rfl|assumption)|skip
   rw[List.drop_eq_getElem_cons hi]at b7;exact b7
  k_upd;refine V_at EA (by exact ME hl hi) ln ?_
  k_upd;have e1:ls[i]=upper→pieceOf upper hide i ls[i]=Str.ofString "(":=fun h=>by unfold pieceOf;rw[if_pos h]
  have e2:ls[i]≠upper→ls[i]=upper+1→pieceOf upper hide i ls[i]=Str.ofString ")":=fun h h'=>by unfold pieceOf;rw[if_neg h,if_pos h']
  by_cases hu:ls[i]=upper
  ·rw[show(ls[i]==upper)=true by simpa using hu]
   k_upd;refine ja (lY.small (by exact Gd hl hi ht) (by decide)) ?_
   k_upd;exact put _ (by decide) (e1 hu).symm
  ·rw[show(ls[i]==upper)=false by simpa using hu]
   k_upd;refine V_at EA (by exact ME hl hi) ln ?_
   k_upd
   by_cases EB:ls[i]=upper+1
   ·rw[show(ls[i]==upper+1)=true by simpa using EB]
    k_upd;refine ja (lY.small (by exact Gd hl hi ht) (by decide)) ?_
    k_upd;exact put _ (by decide) (e2 hu EB).symm
   ·rw[show(ls[i]==upper+1)=false by simpa using EB]
    k_upd;refine gg (gZ.sz (j:=3) (k:=10) (by unfold Sz;decide) (kH (m:=200) (by exact ag 1 0 (aM (cH (az (nk 200))) (az ab)) (by kd_p)) (by exact ag 2 0 (aa (ae ab cy) (aa (ak af ab) (aM (az af) (az (nk 200))))) (by kd_p) hl hi) (by decide)) (by decide)) ?_
    k_upd;refine dB (by decide) ?_
    obtain⟨j,hj⟩:∃j:Nat,(hide+3*(i:Int)).emod 8=(j:Int):=⟨((hide+3*(i:Int)).emod 8).toNat,by have:=Int.emod_nonneg (hide+3*(i:Int)) (by decide:(8:Int)≠0);exact(Int.toNat_of_nonneg this).symm⟩
    have QQ:j<8:=by have:=Int.emod_lt_of_pos (hide+3*(i:Int)) (by decide:(0:Int)<8);have h2:(hide+3*(i:Int))%8=(j:Int):=hj;exact Ti this h2
    have ef:(hide+3*(i:Int)).fmod 8=(j:Int):=by rw[Int.fmod_eq_emod_of_nonneg _ (by decide)];exact hj
    rw[ef];have hm:kJ.length=8:=rfl;have EC:(kJ.map V.str)[cE (j:Int) (kJ.map V.str).length]?=some (.str (kJ.getD j (Str.ofString ""))):=by
     rw[ix,List.getElem?_map];simp[List.getD,List.getElem?_eq_getElem (show j<kJ.length by exact ag 2 1 (aa (ak af (nk 8)) (aa (aS aq (az af)) (aa (ax ab (nk 8)) (ak af ab)))) (by kd_p) QQ ef hm)]
    refine V_at EC (by exact ag 2 1 (aa (ak ab (nk 8)) (aa (aS aq (az ab)) (ai (cH (az af)) (az ab)))) (by kd_p) QQ ef) (.of (by decide)) ?_
    have el:(kJ.getD j (Str.ofString "")).length≤3:=by
     have:∀j,j<8→(kJ.getD j (Str.ofString "")).length≤3:=by decide
     exact this j QQ
    refine ja (lY.small (by exact Gd hl hi ht) (by exact ag 1 0 (aa (ae ab cm) (ae ab aQ)) (by kd_p) el)) ?_
    k_upd;refine put _ el ?_;unfold pieceOf;rw[if_neg hu,if_neg EB,hj]
    rfl
 ·refine qX hJ ?_;clear hJ;intro t ht z1;subst z1;intro h1 h2 h3 h4 h5 h6 b7
  have hlen:(cI 0 (ls.length:Int)).length=ls.length:=by simp[cI]
  rw[hlen]at ht b7;rw[List.drop_length]at b7;have c1:ls.count upper≤ls.length:=List.count_le_length;have c2:ls.count (upper+1)≤ls.length:=List.count_le_length;k_upd;refine bB ?_;k_upd;refine⟨_,dr,?_⟩;k_upd;refine dQ ?_;k_upd;refine bB ?_;k_upd;refine⟨_,dr,?_⟩;k_upd;refine dQ ?_;k_upd;refine sQ (tN.small (by decide) (by exact ag 4 1 (aa (ae af cy) (aa (aT (ai (zk (-100)) aq) (ai aq dj)) (aa (ax ab af) (aa (ae au af) (ai (zk (-1000)) (bR (bh aq (az aO)) (az au))))))) (by kd_p) hl hr hlen c2) (by exact ag 4 1 (aa (ae af cy) (aa (aT (ai (zk (-100)) aq) (ai aq dj)) (aa (ax ab af) (aa (ae aO af) (ai (bR (bh aq (az aO)) (az au)) (zk 1000)))))) (by kd_p) hl hr hlen c1)) ?_
  have el:(Txt.mul (Str.ofString ")") (rise+(ls.count upper:Nat)-(ls.count (upper+1):Nat))).length≤1000:=by
   show(Txt.mul ⟨#[41]⟩ _).length≤1000;rw[kY];exact ag 4 1 (aa (ae af cy) (aa (aT (ai (zk (-100)) aq) (ai aq dj)) (aa (ax ab af) (aa (ae aO af) (ae (dz (bR (bh aq (az aO)) (az au))) bw))))) (by kd_p) hl hr hlen c1
  refine ja (lY.small (by exact ag 3 0 (aa (ae af cy) (aa (ae au (aj cy (cY 3 af))) (aa (ax ab af) (ae au aQ)))) (by kd_p) hl ht hlen) (by exact td el)) ?_
  refine⟨.str,?_⟩;rw[List.take_length];have:t=jg upper hide 0 (Txt.mul (Str.ofString "(") rise) ls:=by rw[←b7];rfl
  rw[this];exact q
 ·show(Txt.mul ⟨#[40]⟩ rise).length≤_
  rw[kY];exact ag 0 1 (aa (aT (ai (zk (-100)) aq) (ai aq dj)) (ae (dz aq) (aj cy (cY 3 b6)))) (by kd_p) hr
theorem yg(hG:bx G){n:Nat}{ls:List Int}{rise upper hide:Int}{O:Mu}{Q:V→Mu→Prop}(hl:ls.length≤100)(hr : -100≤rise∧rise≤100)(q:Q (.str (textOf ls rise upper hide)) O):aU G (n+1) (.ref 208) [.list (ls.map .int),.int rise,.int upper,.int hide] [] O Q:=by
 refine fN hG (st:=mG) (own:=zr) [(oG,.list (ls.map .int)),(xY,.int rise),(t9,.int upper),(xZ,.int hide)] (fun P ys ks B Z r rk=>?_) (by with_reducible exact yf hl hr q)
 refine aB.aN r ?_;intro y zz r1 r;refine aB.aN r ?_;intro z zz r2 r;refine aB.aN r ?_;intro u zz r3 r;refine aB.aN r ?_;intro w zz r4 r;refine aB.bE r ?_;refine aB.bE rk ?_;exact⟨[y,z,u,w],.cons r1 (.cons r2 (.cons r3 (.cons r4 .nil))),fun S=>by kd_p⟩
noncomputable def cP(N:Int):List Int→Int
 |[]=>0
 |d::r=>d+N*cP N r
theorem lK(N:Int):∀xs ys:List Int,cP N (xs++ys)=cP N xs+N ^ xs.length*cP N ys
 |[],ys=>by simp[cP]
 |d::r,ys=>by
  rw[List.cons_append,cP,cP,lK N r ys,List.length_cons,Int.pow_succ,Int.mul_add,Int.add_assoc,Int.mul_comm (N ^ r.length) N,Int.mul_assoc]
theorem rA{N:Int}(hN:0<N):∀ {ds:List Int},(∀d∈ds,0≤d∧d<N)→0≤cP N ds∧cP N ds<N ^ ds.length
 |[],_=>⟨Int.le_refl _,by simp[cP]⟩
 |d::r,h=>by
  obtain⟨h1,h2⟩:=h d (.head _);obtain⟨i1,i2⟩:=rA hN (ds:=r) fun x m=>h x (.tail _ m);rw[cP,List.length_cons,Int.pow_succ,Int.mul_comm (N ^ r.length) N];have e1:0≤N*cP N r:=Int.mul_nonneg (Int.le_of_lt hN) i1;have e2:N*(cP N r+1)≤N*N ^ r.length:=Int.mul_le_mul_of_nonneg_left (by exact ag 0 2 (aa (aM aK aq) (ai (bh aK bV) aq)) (by kd_p) i2) (Int.le_of_lt hN)
  rw[Int.mul_add,Int.mul_one]at e2;exact⟨by exact ag 0 2 (aa (ai aJ aK) (aa (ai aJ aq) (ai aJ (bh aK aq)))) (by kd_p) h1 e1,by exact ag 0 4 (aa (aM fw aq) (aa (ai (bh cu aq) aK) (aM (bh fw cu) aK))) (by kd_p) h2 e2⟩
noncomputable def seg{τ:Type}(ds:List τ)(L R:Nat):List τ:=(ds.drop L).take (R-L)
theorem Ia{τ:Type}{ds:List τ}{L:Nat}(h:L<ds.length):seg ds L (L+1)=[ds[L]]:=by
 unfold seg;rw[show L+1-L=1 by exact Ge,List.drop_eq_getElem_cons h]
 rfl
theorem Bi{τ:Type}{ds:List τ}{L m R:Nat}(h1:L≤m)(h2:m≤R):seg ds L R=seg ds L m++seg ds m R:=by
 unfold seg;rw[show R-L=(m-L)+(R-m) by exact ag 3 0 (aa (ae af ab) (aa (ae ab au) (ax (bb au af) (aj (bb ab af) (bb au ab))))) (by kd_p) h1 h2,List.take_add,List.drop_drop]
 congr 3;exact ag 2 0 (aa (ae af ab) (ax (aj af (bb ab af)) ab)) (by kd_p) h1
theorem Ib{τ:Type}(ds:List τ):seg ds 0 ds.length=ds:=by unfold seg;simp
theorem zG{τ:Type}{ds:List τ}{L R:Nat}(h:R≤ds.length):(seg ds L R).length=R-L:=by unfold seg;simp;exact ag 3 0 (aa (ae au ab) (ax (jP (bb au af) (bb ab af)) (bb au af))) (by kd_p) h
theorem Ic{τ:Type}{ds:List τ}{L R:Nat}{d:τ}(h:d∈seg ds L R):d∈ds:=List.mem_of_mem_drop (List.mem_of_mem_take h)
theorem Sz.of_lt{k:Nat}{a:Int}(h0:0≤a)(h:a<2 ^ k):Sz k a:=by
 unfold Sz;have e:((a.natAbs:Nat):Int)=a:=Int.natAbs_of_nonneg h0;have e2:((2 ^ k:Nat):Int)=(2:Int) ^ k:=by simp
 exact ag 1 2 (aa (aM aK aq) (aa (aS (az (gD aK)) aK) (aa (aS (az ab) aq) (ak (gD aK) ab)))) (by kd_p) h e e2
theorem v8.sz{k m:Nat}{a:Int}(h:Sz k a)(hs:k+m≤100000000):v8 a (m:Int):=by
 refine⟨by exact Int.natCast_nonneg _,?_⟩
 have:=h.bits;have h3:(2:Int) ^ 27=134217728:=by decide
 exact ag 3 0 (aa (ae (aj ab af) (nk 100000000)) (aa (ae au ab) (ai (bh (az au) (az af)) (zk (2 ^ 27))))) (by kd_p) hs this
theorem C9{L R:Nat}:(((L:Int)+R).fdiv (2 ^ (1:Int).toNat))=(((L+R)/2:Nat):Int):=by
 rw[Int.fdiv_eq_ediv_of_nonneg _ (by decide)]
 rfl
theorem zH{n:Nat}{O:Mu}{Q:V→Mu→Prop}{ds:List Int}{w:Nat}{f0:Addr}{L R:Nat}(hw:w≤5000)(hl:ds.length≤300)(hd:∀d∈ds,0≤d∧d<2 ^ w)(oW:L<R)(hR:R≤ds.length)
  (ih:∀L' R':Nat,L'<R'→R'≤ds.length→R'-L'<R-L→∀Q':V→Mu→Prop,Q' (.int (cP (2 ^ w) (seg ds L' R'))) O→bD G n (.raw (.ref f0)) [.int L',.int R'] [] O Q')
  (q:Q (.int (cP (2 ^ w) (seg ds L R))) O):
  aX G bX n il (bc (bc [] [(eS,.list (ds.map .int)),(cq,.raw (.ref f0)),(jV,.int w)]) [(mh,.int L),(me,.int R)]) O (qz O Q):=by
 unfold il;k_upd
 by_cases h1:L+1=R
 ·subst h1
  rw[show((L:Int)+1==((L+1:Nat):Int))=true by simp]
  k_upd;have hv:(ds.map V.int)[cE (L:Int) (ds.map V.int).length]?=some (.int ds[L]):=by
   unfold cE;rw[if_neg (by exact xt)]
   simp[oW,show L<ds.length by exact Cw hR]
  refine V_at hv (by exact ag 3 0 (aa (ae ab cR) (aa (ae (aj af aC) ab) (ai (cH (az au)) (az af)))) (by kd_p) hl hR) (.of (by simp;exact Cy hl)) ?_
  refine⟨.int,?_⟩;rw[List.take_length];rw[Ia (by exact Cw hR)]at q
  simpa[cP] using q
 ·rw[show((L:Int)+1==(R:Int))=false by simp;exact MF h1]
  k_upd;refine AO (by decide) ?_
  rw[C9];have oX:L<(L+R)/2:=by exact MG oW h1
  have gP:(L+R)/2<R:=by exact OY oW
  generalize (L+R)/2=m at oX gP;k_upd;have e1:(m:Int)-L=((m-L:Nat):Int):=by exact MH oX
  rw[e1];refine gg (gZ.sz (j:=10) (k:=13) (kH (m:=400) (by exact MI oX e1) (by exact MJ hl hR gP e1) (by decide)) (kH (m:=5001) (by exact MK hw) (by exact ML hw) (by decide)) (by decide)) ?_
  rw[show(((m-L:Nat):Int)*(w:Int))=(((m-L)*w:Nat):Int) by simp]
  k_upd;refine ih m R gP hR (by exact MM oW oX gP e1) _ ?_
  k_upd;have b1:=rA (N:=2 ^ w) (Int.pow_pos (by decide)) (ds:=seg ds m R) fun d fK=>hd d (Ic fK)
  have Vd:(R-m)*w≤300*5000:=Nat.mul_le_mul (by exact ag 4 0 (aa (ae af cR) (aa (ak ab aO) (aa (ae aO af) (aa (ak ab au) (aa (ak au aO) (aa (aS (bR (az au) (az ab)) (az (bb au ab))) (ae (bb aO au) cR))))))) (by kd_p) hl oW hR oX gP e1) hw
  have G7:(m-L)*w≤300*5000:=Nat.mul_le_mul (by exact MN hl hR gP e1) hw
  rw[zG hR,←Int.pow_mul]at b1;refine AM (v8.sz (k:=w*(R-m)) (.of_lt b1.1 b1.2) (by rw[Nat.mul_comm];exact ag 2 0 (aa (ae af (cY 300 (nk 5000))) (aa (ae ab (cY 300 (nk 5000))) (ae (aj af ab) (nk 100000000)))) (by kd_p) Vd G7)) ?_
  k_upd;refine ih L m oX (by exact Gf hR gP) (by exact MO oW gP e1) _ ?_
  k_upd;refine⟨.int,?_⟩;rw[List.take_length];rw[Bi (Nat.le_of_lt oX) (Nat.le_of_lt gP),lK,zG (by exact Gf hR gP),←Int.pow_mul]at q
  rw[show((((m-L)*w:Nat):Int)).toNat=w*(m-L) by rw[Int.toNat_natCast,Nat.mul_comm]]
  rw[Int.mul_comm (cP _ _),Int.add_comm];exact q
theorem Lh{lF q:Str}{y:Stmt}{bd:List Stmt}{sc:Scope}{cN:List (Str×Addr)}(hG:bx G){u v:V}:
  ∀ (s:Shared) (xs:List Value) (c ct d pm:Value) (B:ay) (Z:List Addr),aB B Z [u,v] xs→∃binds,BindsTo s {qA lF q (pI [mh,me] y) bd sc cN with code:=c,closureTuple:=ct,doc:=d,pyModule:=pm} ⟨xs,[]⟩ binds∧fZ (G:=G) B Z binds [(mh,u),(me,v)]:=by
 intro s xs c ct d pm B Z r;refine aB.aN r ?_;intro x zz r1 r;refine aB.aN r ?_;intro z zz r2 r;refine aB.bE r ?_;refine⟨[(aI mh,x),(aI me,z)],.of_eq (by kd_p),?_⟩
 rw[←hG.nm,←hG.nm];exact .cons r1 (.cons r2 .nil)
theorem Lj{lF q:Str}{y:Stmt}{bd:List Stmt}{sc:Scope}{cN:List (Str×Addr)}(hG:bx G){u v z:V}:
  ∀ (s:Shared) (xs:List Value) (cd ct d pm:Value) (B:ay) (Z:List Addr),aB B Z [u,v,z] xs→∃binds,BindsTo s {qA lF q (pI [md,mh,me] y) bd sc cN with code:=cd,closureTuple:=ct,doc:=d,pyModule:=pm} ⟨xs,[]⟩ binds∧fZ (G:=G) B Z binds [(md,u),(mh,v),(me,z)]:=by
 intro s xs cd ct d pm B Z r;refine aB.aN r ?_;intro x zz r1 r;refine aB.aN r ?_;intro y' zz r2 r;refine aB.aN r ?_;intro t zz r3 r;refine aB.bE r ?_;refine⟨[(aI md,x),(aI mh,y'),(aI me,t)],.of_eq (by kd_p),?_⟩
 rw[←hG.nm,←hG.nm,←hG.nm];exact .cons r1 (.cons r2 (.cons r3 .nil))
noncomputable def Bj(K:Frag)(a t c l o:Nat)(qn:Str)(mj own:List Nat)(st:Ss)(y:Stmt):Bool:=
 HZ (iG y).2.2 mj own&&cW aI st (iG y).2.2 own (iG y).2.1&&y.pos.line==l&&y.pos.col==o&&(ba K a).code == .ref c&&codeHdIn K c t&&mj.all (fun z=>(ba K a).scope.names.lookup (aI z)==some .cell)&&(ba K a).qualname==qn
noncomputable abbrev Ie(x:Nat)(q:Str)(ps:List Nat)(y:Stmt)(env:Env):V:=.fn (qA (aI x) q (pI ps y) (iG y).2.1 (iG y).2.2 (cK env.cells (iG y).2.2.names []))
theorem Dc(hG:bx G){P:Params}{n a t c l o x:Nat}{env:Env}{own Ig mj ps:List Nat}{q qn:Str}{st:Ss}{y:Stmt}{rest:List Stmt}{U:aw}{O:Mu}{Q:Fl→aw→Mu→Prop}(b:Bj (KP P) a t c l o qn mj Ig st y=true)
  (hP:G.K=KP P)(hs:env.scope=(ba (KP P) a).scope)(hc:env.code=(ba (KP P) a).code)(zI:env.qual=(ba (KP P) a).qualname++".<locals>.")(ent:jd t l o q)(hq:qn++".<locals>."++aI x=q)(hx:x∈mj)(ho:x∈own)
  (ha:annTrees (pI ps y) none env=[])
  (h:Er (iG y).2.2 mj Ig→cW aI st (iG y).2.2 Ig (iG y).2.1=true→(∀z∈mj,env.kindOf (aI z)=some .cell)→cn G n env own (execs rest env) (set U x (Ie x q ps y env)) O Q):cn G n env own (execs (A7 x ps y::rest) env) U O Q:=by
 have hS:=H0 (aL (aL (aL (aL (aL (aL (aL b)))))));have hk:∀z∈mj,env.kindOf (aI z)=some .cell:=fun z m=>by
  unfold Env.kindOf;rw[hs];exact eq_of_beq (List.all_eq_true.mp (aR (aL b)) z m)
 refine j0 (QA hG (P:=t) (c:=c) (q:=q) (x:=x) (by rw[eq_of_beq (aR (aL (aL (aL (aL (aL b)))))),eq_of_beq (aR (aL (aL (aL (aL b)))))];exact ent) (hG.nm _) ⟨ho,.inr (by rw[hG.nm];exact hk x hx)⟩ rfl rfl ha (hc.trans (eq_of_beq (aR (aL (aL (aL b)))))) (by rw[hP];exact aR (aL (aL b))) ?_ (fun p hp hf=>?_) (h hS (aR (aL (aL (aL (aL (aL (aL b))))))) hk))
 ·unfold qualnameIn
  rw[hk x hx,zI,eq_of_beq (aR b)];exact hq
 ·refine aW (hS.all p hp hf) ?_;intro z hz e
  rw[←e];exact hk z hz
theorem rB(hG:bx G){lF q:Str}{y:Stmt}{sc:Scope}{cN:List (Str×Addr)}{O:Mu}{ds:List Int}{w:Nat}{f0:Addr}
  (hS:Er sc [eS,cq,jV] gy)(oP:cW aI il sc gy (iG y).2.1=true)(A9:dP aI il (iG y).2.1=(iG y).2.1)
  (hC:CY G cN [(eS,.list (ds.map .int)),(cq,.raw (.ref f0)),(jV,.int w)])(h0:iV G f0 (qA lF q (pI [mh,me] y) (iG y).2.1 sc cN))
  (hw:w≤5000)(hl:ds.length≤300)(hd:∀d∈ds,0≤d∧d<2 ^ w):
  ∀ (k L R:Nat),L<R→R≤ds.length→R-L≤k→∀f,iV G f (qA lF q (pI [mh,me] y) (iG y).2.1 sc cN)→∀Q:V→Mu→Prop,Q (.int (cP (2 ^ w) (seg ds L R))) O→aU G k (.ref f) [.int L,.int R] [] O Q
 |0,L,R,h1,h2,h3=>by omega
 |k+1,L,R,h1,h2,h3=>by
  intro f hf Q hq;refine wz hG (fs:=[(eS,.list (ds.map .int)),(cq,.raw (.ref f0)),(jV,.int w)]) (own:=gy) (ps:=[(mh,.int L),(me,.int R)]) hS hC oP A9 hf (by simp[gy]) (fun s xs c ct d pm B Z r=>Lh hG s xs c ct d pm B Z r) ?_
  exact zH hw hl hd h1 h2 (fun L' R' g1 g2 g3 Q' q'=>bD.U4 h0 (rB hG hS oP A9 hC h0 hw hl hd k L' R' g1 g2 (by exact MP h3 g3) f0 h0 Q' q')) hq
noncomputable def yh:Es:=.cons (.int 0) (.cons (.call (.glob HU) (.cons (.var eS) .nil)) .nil)
noncomputable def Ve:S:=.ret (.za (.val (.var eS)) (.call (.var cq) yh) (.int 0))
noncomputable abbrev rE(K:Frag)(i:Nat):Stmt:=(du (ba K 70).body).getD i default
theorem QR(P:Params):du (ba (KP P) 70).body=[A7 cq [mh,me] (rE (KP P) 0),pB aI Ve (rE (KP P) 1)]:=by kd_p
theorem YY(P:Params):dP aI il (iG (rE (KP P) 0)).2.1=(iG (rE (KP P) 0)).2.1:=by kd_p
theorem YZ(P:Params):Bj (KP P) 70 65 69 93 4 (Str.ofString "_digits2int") [eS,cq,jV] gy il (rE (KP P) 0)=true:=by kd_p
theorem Y0(P:Params):iS aI yh (ba (KP P) 70).scope (ks (bj 1 (sk 0 (rE (KP P) 1)))).tail=true:=by kd_p
theorem ur(hG:bx G){n:Nat}{O:Mu}{Q:V→Mu→Prop}{ds:List Int}{w:Nat}(hn:300≤n)(hw:w≤5000)(hl:ds.length≤300)(hd:∀d∈ds,0≤d∧d<2 ^ w)(q:Q (.int (cP (2 ^ w) ds)) O):
  aU G (n+1) (.ref 70) [.list (ds.map .int),.int w] [] O Q:=by
 refine lD hG (own:=n7) [(eS,.list (ds.map .int)),(jV,.int w)] (fun P ys ks B Z r rk=>?_) (fun P env hP hs hc zI hk=>?_)
 ·refine aB.aN r ?_;intro y zz r1 r
  refine aB.aN r ?_;intro z zz r2 r;refine aB.bE r ?_;refine aB.bE rk ?_;exact⟨[y,z],.cons r1 (.cons r2 .nil),fun S=>by kd_p⟩
 ·rw[QR P]
  refine Dc hG (YZ P) hP hs hc zI Qy rfl (by simp) (by simp[n7]) rfl fun hS H6 gL=>?_
  refine j0 (GK (GH ?_));refine nA hG.nm hG.gl (.val (.var eS)) rfl hs ?_;k_upd;refine KW (.of (by simp;exact Cy hl)) ?_
  by_cases hz:ds=[]
  ·subst hz
   refine dE hG.nm hG.gl (.int 0) rfl hs ?_;k_upd;exact⟨_,.cl .int,by rw[List.take_length];exact q⟩
  ·have tT:0<ds.length:=List.length_pos_iff.mpr hz
   rw[show(!(ds.map V.int).isEmpty)=true by simp[hz]]
   refine zx rfl eA (dE hG.nm hG.gl (.var cq) (y:=bj 0 (bj 1 (sk 0 (rE (KP P) 1)))) rfl hs ?_);k_upd;refine kR hG.nm hG.gl yh (Y0 P) hs ?_;unfold yh;k_upd;refine cM (cp.of (by simp;exact ag 1 0 (aa (ae ab cR) (aa (ak b6 ab) (ae ab aQ))) (by kd_p) hl tT)).ok ?_
   k_upd;intro A hA B Z s fx xs I F rf rv;refine⟨.U5 I rf,?_⟩;refine zy hG hA (fs:=[(eS,.list (ds.map .int)),(cq,Ie cq Qt [mh,me] (rE (KP P) 0) env),(jV,.int w)]) (own:=gy) (xi:=cq) hS I F rfl (by simp) (fun p hp=>gL _ (List.mem_map_of_mem hp)) (fun p hp=>?_) rf rv ?_
   ·simp only[List.mem_cons,List.not_mem_nil,or_false]at hp
    rcases hp with rfl|rfl|rfl<;>rfl
   ·intro G' f0 cN vB hC c0 f cf
    refine aU.deeper (n:=ds.length) ?_ (by exact ag 2 0 (aa (ae cR ab) (aa (ae af cR) (aa (ak b6 af) (ae af ab)))) (by kd_p) hn hl tT)
    rw[List.length_map];refine rB vB (w:=w) (ds:=ds) hS H6 (YY P) hC c0 hw hl hd ds.length 0 ds.length tT (Nat.le_refl _) (by exact ag 1 0 (aa (ae ab cR) (aa (ak b6 ab) (ae (bb ab b6) ab))) (by kd_p) hl tT) f cf _ ?_
    rw[Ib];exact⟨_,.cl .int,by rw[List.take_length];exact q⟩
theorem zJ(x s:Nat):x &&& (x/2 ^ s*2 ^ s)=x/2 ^ s*2 ^ s:=by
 rw[←Nat.shiftRight_eq_div_pow,←Nat.shiftLeft_eq];apply Nat.eq_of_testBit_eq;intro i;simp only[Nat.testBit_and,Nat.testBit_shiftLeft,Nat.testBit_shiftRight]
 by_cases h:s≤i
 ·simp[h,Nat.add_sub_cancel' h]
 ·simp[h]
theorem Ii(x s:Nat):Builtin.bitXor (x:Int) (((x/2 ^ s*2 ^ s:Nat)):Int)=((x%2 ^ s:Nat):Int):=by
 rw[show Builtin.bitXor (x:Int) ((x/2 ^ s*2 ^ s:Nat):Int)=_ from bitXor_and _ _];have:Builtin.bitAnd (x:Int) ((x/2 ^ s*2 ^ s:Nat):Int)=((x/2 ^ s*2 ^ s:Nat):Int):=by
  unfold Builtin.bitAnd;simp only[Int.natCast_nonneg,decide_true,Int.toNat_natCast];rw[zJ]
 rw[this];have:=Nat.div_add_mod x (2 ^ s);rw[Nat.mul_comm]at this;exact ag 3 0 (aa (ax (aj af ab) au) (aS (bR (bh (az au) (az af)) (xr 2 (az af))) (az ab))) (by kd_p) this
noncomputable def cV(w:Nat):Nat→Nat→List Int
 |0,_=>[]
 |k+1,x=>((x%2 ^ w:Nat):Int)::cV w k (x/2 ^ w)
theorem gA(w:Nat):∀k x,(cV w k x).length=k
 |0,_=>rfl
 |k+1,x=>by rw[cV,List.length_cons,gA w k]
theorem qH(w:Nat):∀ (a x m:Nat),a≤m→cV w a (x%2 ^ (w*m))=cV w a x
 |0,_,_,_=>rfl
 |a+1,x,m,h=>by
  obtain⟨m,rfl⟩:∃k,m=k+1:=⟨m-1,by exact ag 2 0 (aa (ae (aj ab aC) af) (ax af (aj (bb af aC) aC))) (by kd_p) h⟩
  rw[cV,cV];have e1:x%2 ^ (w*(m+1))%2 ^ w=x%2 ^ w:=Nat.mod_mod_of_dvd _ (Nat.pow_dvd_pow _ (by rw[Nat.mul_add];exact ag 2 0 (ae af (aj ab (rZ af 1))) (by kd_p)))
  have e2:x%2 ^ (w*(m+1))/2 ^ w=x/2 ^ w%2 ^ (w*m):=by
   rw[Nat.mul_add,Nat.mul_one,Nat.add_comm,Nat.pow_add,Nat.mod_mul_right_div_self]
  rw[e1,e2,qH w a _ m (by exact ag 2 0 (aa (ae (aj af aC) (aj ab aC)) (ae af ab)) (by kd_p) h)]
theorem rF(w:Nat):∀ (a b x:Nat),cV w (a+b) x=cV w a (x%2 ^ (w*a))++cV w b (x/2 ^ (w*a))
 |0,b,x=>by simp[cV]
 |a+1,b,x=>by
  rw[show a+1+b=(a+b)+1 by exact ag 2 0 (ax (aj (aj af aC) ab) (aj (aj af ab) aC)) (by kd_p),cV,rF w a b,qH w (a+1) x (a+1) (Nat.le_refl _),cV,qH w a _ a (Nat.le_refl _),List.cons_append,Nat.div_div_eq_div_mul,←Nat.pow_add,
   show w+w*a=w*(a+1) by rw[Nat.mul_add];exact ag 2 0 (ax (aj af ab) (aj ab (rZ af 1))) (by kd_p)]
theorem wB{w:Nat}:∀ {k x:Nat} {d:Int},d∈cV w k x→0≤d∧d<2 ^ w
 |0,_,_,h=>by cases h
 |k+1,x,d,h=>by
  rw[cV]at h;rcases List.mem_cons.mp h with rfl|h
  ·have:x%2 ^ w<2 ^ w:=Nat.mod_lt _ (Nat.pow_pos (by decide))
   have e:((2 ^ w:Nat):Int)=(2:Int) ^ w:=by simp
   exact ag 2 1 (aa (ak af ab) (aa (aS (az ab) aq) (aT (ai aJ (az af)) (aM (az af) aq)))) (by kd_p) this e
  ·exact wB h
theorem wC(w:Nat):∀ (k x:Nat),x<2 ^ (w*k)→cP (2 ^ w) (cV w k x)=x
 |0,x,h=>by simp at h;subst h;rfl
 |k+1,x,h=>by
  rw[cV,cP,wC w k]
  ·have:=Nat.div_add_mod x (2 ^ w)
   have e:((2 ^ w:Nat):Int)=(2:Int) ^ w:=by simp
   rw[←e,←Int.natCast_mul,←Int.natCast_add]
   congr 1
   exact ag 3 0 (aa (ax (aj af au) ab) (ax (aj au af) ab)) (by kd_p) this
  ·rw[Nat.div_lt_iff_lt_mul (Nat.pow_pos (by decide)),←Nat.pow_add]
   rw[Nat.mul_add]at h;simpa using h
noncomputable def iI(xs:List Int)(L:Nat)(ys:List Int):List Int:=xs.take L++ys++xs.drop (L+ys.length)
theorem ED{xs ys:List Int}{L:Nat}(h:L+ys.length≤xs.length):(iI xs L ys).length=xs.length:=by unfold iI;simp;exact ag 3 0 (aa (ae (aj au ab) af) (ax (aj (jP au af) (aj ab (bb af (aj au ab)))) af)) (by kd_p) h
theorem EE{xs:List Int}{L:Nat}{x:Int}(h:L<xs.length):iI xs L [x]=xs.set L x:=by
 unfold iI;rw[List.set_eq_take_append_cons_drop,if_pos h];simp
theorem EF{xs ys zs:List Int}{L:Nat}(h:L+ys.length+zs.length≤xs.length):iI (iI xs L ys) (L+ys.length) zs=iI xs L (ys++zs):=by
 unfold iI;have h1:(xs.take L).length=L:=by simp;exact ag 4 0 (aa (ae (aj (aj aO af) ab) au) (ax (jP aO au) aO)) (by kd_p) h
 have e1:(xs.take L++ys++xs.drop (L+ys.length)).take (L+ys.length)=xs.take L++ys:=by
  rw[List.take_append_of_le_length (by simp;exact ag 5 0 (aa (ae (aj (aj dc au) af) aO) (aa (ax ab dc) (ae dc (jP dc aO)))) (by kd_p) h h1),List.take_of_length_le (by simp;exact ag 3 0 (aa (ax ab au) (ae (jP au af) au)) (by kd_p) h1)]
 have e2:(xs.take L++ys++xs.drop (L+ys.length)).drop (L+ys.length+zs.length)=xs.drop (L+(ys++zs).length):=by
  rw[List.drop_append,List.drop_of_length_le (by simp;exact ag 5 0 (aa (ax ab dc) (ae (aj (jP dc aO) au) (aj (aj dc au) af))) (by kd_p) h1),List.nil_append,List.drop_drop]
  congr 1
  simp;exact ag 5 0 (aa (ae (aj (aj dc aO) au) af) (aa (ax ab dc) (ax (aj (aj dc aO) (bb (aj (aj dc aO) au) (aj (jP dc af) aO))) (aj dc (aj aO au))))) (by kd_p) h h1
 rw[e1,e2];simp
theorem zK{n:Nat}{O:Mu}{Q:V→Mu→Prop}{xs:List Int}{w i x:Nat}{f0:Addr}{L R:Nat}(hw:w≤5000)(hl:xs.length≤300)(hi:(O[i]?:Option (Option (List V)))=some (some (xs.map .int)))(hx:x<2 ^ (w*(R-L)))(oW:L<R)(hR:R≤xs.length)
  (ih:∀ (x' L' R':Nat) (ar:Mu) (jU:List Int),jU.length=xs.length→(ar[i]?:Option (Option (List V)))=some (some (jU.map .int))→x'<2 ^ (w*(R'-L'))→L'<R'→R'≤xs.length→R'-L'<R-L→∀Q':V→Mu→Prop,
   Q' .none (ar.set i (some ((iI jU L' (cV w (R'-L') x')).map .int)))→bD G n (.raw (.ref f0)) [.int x',.int L',.int R'] [] ar Q')
  (q:Q .none (O.set i (some ((iI xs L (cV w (R-L) x)).map .int)))):
  aX G bX n ir (bc (bc [] [(bS,.ml i),(cq,.raw (.ref f0)),(jV,.int w)]) [(md,.int x),(mh,.int L),(me,.int R)]) O (qz O Q):=by
 unfold ir;have Ij:∀ {a:Option (List V)},(O.set i a).take O.length=O.set i a:=fun{a}=>List.take_of_length_le (by simp)
 have bA:i<O.length:=(List.getElem?_eq_some_iff.mp hi).1;k_upd
 by_cases h1:L+1=R
 ·subst h1
  rw[show((L:Int)+1==((L+1:Nat):Int))=true by simp]
  k_upd;refine xP hi (by exact Int.natCast_nonneg _) (by simp;exact Cw hR) (.of (by simp;exact Cy hl)) .int ?_
  k_upd;refine⟨.none,?_⟩;rw[Ij];rw[show L+1-L=1 by exact Ge,Nat.mul_one]at hx
  rw[show L+1-L=1 by exact Ge,cV,cV,Nat.mod_eq_of_lt hx,EE (by exact Cw hR),List.map_set]at q
  exact q
 ·rw[show((L:Int)+1==(R:Int))=false by simp;exact MF h1]
  k_upd;refine AO (by decide) ?_
  rw[C9];have oX:L<(L+R)/2:=by exact MG oW h1
  have gP:(L+R)/2<R:=by exact OY oW
  generalize (L+R)/2=m at oX gP;k_upd;have e1:(m:Int)-L=((m-L:Nat):Int):=by exact MH oX
  rw[e1];refine gg (gZ.sz (j:=10) (k:=13) (kH (m:=400) (by exact MI oX e1) (by exact MJ hl hR gP e1) (by decide)) (kH (m:=5001) (by exact MK hw) (by exact ML hw) (by decide)) (by decide)) ?_
  rw[show(((m-L:Nat):Int)*(w:Int))=(((m-L)*w:Nat):Int) by simp]
  k_upd;refine AO (by exact Int.natCast_nonneg _) ?_
  have ed:(x:Int).fdiv (2 ^ ((((m-L)*w:Nat):Int)).toNat)=((x/2 ^ (w*(m-L)):Nat):Int):=by
   rw[Int.toNat_natCast,Nat.mul_comm,Int.fdiv_eq_ediv_of_nonneg _ (Int.pow_nonneg (by decide))]
   simp
  rw[ed];k_upd;have Vd:(R-L)*w≤300*5000:=Nat.mul_le_mul (by exact ag 4 0 (aa (ae af cR) (aa (ak au aO) (aa (ae aO af) (aa (aS (bR (az ab) (az au)) (az (bb ab au))) (ae (bb aO au) cR))))) (by kd_p) hl oW hR e1) hw
  have G7:(m-L)*w≤300*5000:=Nat.mul_le_mul (by exact MN hl hR gP e1) hw
  have eR:w*(R-L)=w*(m-L)+w*(R-m):=by rw[←Nat.mul_add];congr 1;exact ag 3 0 (aa (ak af au) (aa (ak ab au) (aa (aS (bR (az ab) (az af)) (az (bb ab af))) (ax (bb au af) (aj (bb ab af) (bb au ab)))))) (by kd_p) oW gP e1
  have hu:x/2 ^ (w*(m-L))<2 ^ (w*(R-m)):=by
   rw[Nat.div_lt_iff_lt_mul (Nat.pow_pos (by decide)),←Nat.pow_add,Nat.add_comm,←eR]
   exact hx
  have Y1:(R-m)*w≤300*5000:=Nat.mul_le_mul (by exact ag 4 0 (aa (ae af cR) (aa (ak ab aO) (aa (ae aO af) (aa (ak au aO) (aa (aS (bR (az au) (az ab)) (az (bb au ab))) (ae (bb aO au) cR)))))) (by kd_p) hl oW hR gP e1) hw
  refine AM (v8.sz (k:=w*(R-m)) (.of_lt (Int.natCast_nonneg _) (by exact_mod_cast hu)) (by rw[Nat.mul_comm];exact ag 2 0 (aa (ae ab (cY 300 (nk 5000))) (aa (ae af (cY 300 (nk 5000))) (ae (aj af ab) (nk 100000000)))) (by kd_p) G7 Y1)) ?_
  rw[Int.toNat_natCast,Nat.mul_comm (m-L) w,show((x/2 ^ (w*(m-L)):Nat):Int)*2 ^ (w*(m-L))=((x/2 ^ (w*(m-L))*2 ^ (w*(m-L)):Nat):Int) by simp]
  refine Ho ?_;rw[Ii];k_upd;refine ih _ L m O xs rfl hi (Nat.mod_lt _ (Nat.pow_pos (by decide))) oX (by exact Gf hR gP) (by exact MO oW gP e1) _ ?_
  k_upd;have hlen:L+(cV w (m-L) (x%2 ^ (w*(m-L)))).length≤xs.length:=by rw[gA];exact ag 4 0 (aa (ae ab af) (aa (ak au ab) (aa (aS (bR (az au) (az aO)) (az (bb au aO))) (ae (aj aO (bb au aO)) af)))) (by kd_p) hR gP e1
  refine ih _ m R _ (iI xs L (cV w (m-L) (x%2 ^ (w*(m-L))))) (ED hlen) (by rw[List.getElem?_set_self bA]) hu gP hR (by exact MM oW oX gP e1) _ ?_
  k_upd;show Q .none (List.take O.length _);rw[List.set_set,Ij];have em:m=L+(cV w (m-L) (x%2 ^ (w*(m-L)))).length:=by rw[gA];exact ag 2 0 (aa (aS (bR (az af) (az ab)) (az (bb af ab))) (ax af (aj ab (bb af ab)))) (by kd_p) e1
  have e5:iI (iI xs L (cV w (m-L) (x%2 ^ (w*(m-L))))) m (cV w (R-m) (x/2 ^ (w*(m-L))))=iI xs L (cV w (R-L) x):=by
   rw[show R-L=(m-L)+(R-m) by exact ag 4 0 (aa (ak au aO) (aa (ak af aO) (aa (aS (bR (az af) (az au)) (az (bb af au))) (aa (ax af (aj au ab)) (ax (bb aO au) (aj (bb af au) (bb aO af))))))) (by kd_p) oW gP e1 em,rF]
   have:=EF (xs:=xs) (ys:=cV w (m-L) (x%2 ^ (w*(m-L)))) (zs:=cV w (R-m) (x/2 ^ (w*(m-L)))) (L:=L) (by rw[gA,gA];exact ag 4 0 (aa (ae af ab) (aa (ak au af) (aa (aS (bR (az au) (az aO)) (az (bb au aO))) (ae (aj (aj aO (bb au aO)) (bb af au)) ab)))) (by kd_p) hR gP e1)
   rw[←em]at this;exact this
  rw[e5];exact q
theorem rG(hG:bx G){lF q:Str}{y:Stmt}{sc:Scope}{cN:List (Str×Addr)}{w i m:Nat}{f0:Addr}
  (hS:Er sc [bS,cq,jV] gz)(oP:cW aI ir sc gz (iG y).2.1=true)(A9:dP aI ir (iG y).2.1=(iG y).2.1)
  (hC:CY G cN [(bS,.ml i),(cq,.raw (.ref f0)),(jV,.int w)])(h0:iV G f0 (qA lF q (pI [md,mh,me] y) (iG y).2.1 sc cN))
  (hw:w≤5000)(hl:m≤300):
  ∀ (k x L R:Nat) (O:Mu) (xs:List Int),xs.length=m→(O[i]?:Option (Option (List V)))=some (some (xs.map .int))→x<2 ^ (w*(R-L))→L<R→R≤m→R-L≤k→∀f,iV G f (qA lF q (pI [md,mh,me] y) (iG y).2.1 sc cN)→∀Q:V→Mu→Prop,
   Q .none (O.set i (some ((iI xs L (cV w (R-L) x)).map .int)))→aU G k (.ref f) [.int x,.int L,.int R] [] O Q
 |0,x,L,R,O,xs,hm,hi,hx,h1,h2,h3=>by omega
 |k+1,x,L,R,O,xs,hm,hi,hx,h1,h2,h3=>by
  intro f hf Q hq;refine wz hG (fs:=[(bS,.ml i),(cq,.raw (.ref f0)),(jV,.int w)]) (own:=gz) (ps:=[(md,.int x),(mh,.int L),(me,.int R)]) hS hC oP A9 hf (by simp[gz]) (fun s xs c ct d pm B Z r=>Lj hG s xs c ct d pm B Z r) ?_
  exact zK hw (hm▸hl) hi hx h1 (hm▸h2) (fun x' L' R' ar jU g0 g1 g2 g3 g4 g5 Q' q'=>bD.U4 h0 (rG hG hS oP A9 hC h0 hw hl k x' L' R' ar jU (g0.trans hm) g1 g2 g3 (hm▸g4) (by exact MP h3 g5) f0 h0 Q' q')) hq
noncomputable def yi:Es:=.cons (.var gH) (.cons (.int 0) (.cons (.call (.glob HU) (.cons (.var bS) .nil)) .nil))
noncomputable def uu:E:=.bin .FloorDiv (.bin .Sub (.bin .Add (.cA (.var gH) "bit_length" .nil) (.var jV)) (.int 1)) (.var jV)
noncomputable def Vf:S:=.asg (.name bS) (.bin .Mult (.list false (.cons (.int 0) .nil)) uu)
noncomputable def Y2:S:=.iff (.val (.var gH)) (.cons (.expr (.call (.var cq) yi)) .nil) .nil
noncomputable def Ik:S:=.ret (.var bS)
noncomputable abbrev kc(K:Frag)(i:Nat):Stmt:=(du (ba K 63).body).getD i default
theorem Y3(P:Params):du (ba (KP P) 63).body=[pB aI Vf (kc (KP P) 0),A7 cq [md,mh,me] (kc (KP P) 1),pB aI Y2 (kc (KP P) 2),pB aI Ik (kc (KP P) 3)]:=by kd_p
theorem Y4(P:Params):dP aI ir (iG (kc (KP P) 1)).2.1=(iG (kc (KP P) 1)).2.1:=by kd_p
theorem Vg(P:Params):Bj (KP P) 63 58 62 78 4 (Str.ofString "_int2digits") [bS,cq,jV] gz ir (kc (KP P) 1)=true:=by kd_p
theorem Y5(P:Params):bP aI uu (ba (KP P) 63).scope (bj 1 (sk 0 (kc (KP P) 0)))=true:=by kd_p
theorem Y6(P:Params):iS aI yi (ba (KP P) 63).scope (ks (sk 0 ((sb 0 (kc (KP P) 2)).headD default))).tail=true:=by kd_p
theorem eK{τ:Type}(v:τ)(k:Int):times [v] k=List.replicate k.toNat v:=by
 unfold times;generalize k.toNat=m
 induction m with
 |zero=>rfl
 |succ m ih=>rw[List.replicate_succ,List.flatten_cons,ih];rfl
theorem lL{a w:Nat}(hw:0<w):a<2 ^ (w*((Builtin.Int.intBits (a:Int)+w-1)/w)):=by
 have h1:a<2 ^ Builtin.Int.intBits (a:Int):=by
  have:=(intBits_le_iff (m:=Builtin.Int.intBits (a:Int)) (x:=(a:Int))).mp (Nat.le_refl _);simpa using this
 refine Nat.lt_of_lt_of_le h1 (Nat.pow_le_pow_right (by decide) ?_)
 generalize Builtin.Int.intBits (a:Int)=b;have:=Nat.div_add_mod (b+w-1) w;have h2:=Nat.mod_lt (b+w-1) hw;exact ag 4 0 (aa (ax (aj au af) (bb (aj aO ab) aC)) (aa (ak af ab) (ae aO au))) (by kd_p) this h2
theorem uw(hG:bx G){n:Nat}{O:Mu}{Q:V→Mu→Prop}{a w m:Nat}(hn:300≤n)(hw:w≤5000)(mN:0<w)(hm:m=(Builtin.Int.intBits (a:Int)+w-1)/w)(hl:m≤300)(q:Q (.list ((cV w m a).map .int)) O):
  aU G (n+1) (.ref 63) [.int a,.int w] [] O Q:=by
 refine lD hG (own:=d5) [(gH,.int a),(jV,.int w)] (fun P ys ks B Z r rk=>?_) (fun P env hP hs hc zI hk=>?_)
 ·refine aB.aN r ?_;intro y zz r1 r
  refine aB.aN r ?_;intro z zz r2 r;refine aB.bE r ?_;refine aB.bE rk ?_;exact⟨[y,z],.cons r1 (.cons r2 .nil),fun S=>by kd_p⟩
 ·rw[Y3 P]
  have D1:env.kindOf (aI bS)=some .cell:=by unfold Env.kindOf;rw[hs];exact eq_of_beq (List.all_eq_true.mp (aR (aL (Vg P))) _ (.head _))
  have ho:nR G env d5 bS:=⟨by simp[d5],.inr (by rw[hG.nm];exact D1)⟩
  refine j0 ?_;show cn G n env d5 (exec (.Assign [.Name (aI bS) _] (.BinOp (bH aI (.list false (.cons (.int 0) .nil)) _) .Mult (bH aI uu _) _) _) env) _ O _;rw[←hG.nm bS];refine DV ho (GF (dE hG.nm hG.gl (.list false (.cons (.int 0) .nil)) (y:=bj 0 (sk 0 (kc (KP P) 0))) rfl hs ?_)) rfl;k_upd;refine⟨.of (by decide),bK ?_⟩
  refine dE hG.nm hG.gl uu (Y5 P) hs ?_;unfold uu;k_upd;refine bB ?_;k_upd;refine⟨_,ig,?_⟩;k_upd;refine ij ?_;k_upd;refine dO ⟨by exact ag 1 0 (aa (ae ab (nk 5000)) (aa (ak b6 ab) (fH (az ab) aJ))) (by kd_p) hw mN,?_⟩ ?_
  ·have:((w:Int)).natAbs.log2<13:=by
    rw[Int.natAbs_natCast];exact(Nat.log2_lt (by exact ag 1 0 (aa (ae ab (nk 5000)) (aa (ak b6 ab) (FV ab b6))) (by kd_p) hw mN)).mpr (by have:2 ^ 13=8192:=(by decide);exact ag 1 0 (aa (ae ab (nk 5000)) (aa (ak b6 ab) (ak ab (nk (2 ^ 13))))) (by kd_p) hw mN)
   exact ag 1 0 (aa (ak ab (nk 13)) (ak ab c7)) (by kd_p) this
  have em:((Builtin.Int.intBits (a:Int):Nat):Int)+(w:Int)-1=((Builtin.Int.intBits (a:Int)+w-1:Nat):Int):=by exact ag 2 0 (aa (ae ab (nk 5000)) (aa (ak b6 ab) (aS (bR (bh (az af) (az ab)) bV) (az (bb (aj af ab) aC))))) (by kd_p) hw mN
  have ed:(((Builtin.Int.intBits (a:Int):Nat):Int)+(w:Int)-1).fdiv (w:Int)=(m:Int):=by
   rw[em,Int.fdiv_eq_ediv_of_nonneg _ (by exact Int.natCast_nonneg _),hm]
   simp
  rw[ed];refine y9 (by simp[lJ]) (by have:(2:Int) ^ 63=9223372036854775808:=(by decide);exact ag 2 1 (aa (ax af ab) (aa (ae af cR) (aa (aS aq (az af)) (ai (cH (zk (2 ^ 63))) (az af))))) (by kd_p) hm hl ed) (by have:(2:Int) ^ 63=9223372036854775808:=(by decide);exact ag 2 1 (aa (ax af ab) (aa (ae af cR) (aa (aS aq (az af)) (aM (az af) (zk (2 ^ 63)))))) (by kd_p) hm hl ed) (by have:(2:Nat) ^ 24=16777216:=(by decide);simp;exact ag 2 1 (aa (ax af ab) (aa (ae af cR) (aa (aS aq (az af)) (ae af bq)))) (by kd_p) hm hl ed) ?_
  rw[eK,Int.toNat_natCast];have Vh:(List.replicate m (V.int 0))=(List.replicate m (0:Int)).map V.int:=by simp
  rw[Vh];refine Dc hG (Vg P) hP hs hc zI Qx rfl (by simp) (by simp[d5]) rfl fun hS H6 gL=>?_
  have iy:((O++[some ((List.replicate m (0:Int)).map V.int)])[O.length]?:Option (Option (List V)))=some (some ((List.replicate m (0:Int)).map V.int)):=by simp
  have tail:∀ (U:aw) (ys:List Int),get U bS=some (.ml O.length)→ys=cV w m a→cn G n env d5 (execs [pB aI Ik (kc (KP P) 3)] env) U (O++[some (ys.map V.int)]) (wu O Q):=by
   rintro U ys Lk rfl;refine eM hG.nm hG.gl (.cons Ik .nil) (ys:=[kc (KP P) 3]) hk rfl hs ?_;refine ic (t4 (bU Lk ?_));refine⟨_,.ml (xs:=(cV w m a).map .int) (Nat.le_refl _) (by simp),?_⟩
   simpa using q
  refine j0 (NY ?_);refine nA hG.nm hG.gl (.val (.var gH)) rfl hs ?_;k_upd
  by_cases hz:a=0
  ·subst hz
   have Y7:m=0:=by rw[hm];simp[Builtin.Int.intBits];exact ag 2 0 (aa (ae af (nk 5000)) (aa (ak b6 af) (aa (aS (bR (bh (az ab) (az af)) bV) (az (bb (aj ab af) aC))) (lpo (ax af b6) (ak (bb af aC) af))))) (by kd_p) hw mN em
   subst Y7;exact xC (tail _ [] rfl rfl)
  ·rw[show(((a:Int)) !=0)=true by simpa using hz]
   have yj:0<m:=by
    rcases Nat.eq_zero_or_pos m with h|h
    ·have:=lL (a:=a) mN
     rw[←hm,h]at this;simp at this;exact absurd this hz
    ·exact h
   refine j0 (CH (zx rfl eA (dE hG.nm hG.gl (.var cq) (y:=bj 0 (sk 0 ((sb 0 (kc (KP P) 2)).headD default))) rfl hs ?_)) (by unfold interactive;rw[hs,hk];rfl) rfl)
   k_upd;refine kR hG.nm hG.gl yi (Y6 P) hs ?_;unfold yi;k_upd;refine fh iy (cp.of (by simp;exact ag 2 1 (aa (ax af ab) (aa (ae af cR) (aa (aS aq (az af)) (aa (ak b6 af) (ae af aQ))))) (by kd_p) hm hl ed yj)).ok ?_
   k_upd;intro A hA B Z s fx xs I F rf rv;refine⟨.U5 I rf,?_⟩;refine zy hG hA (fs:=[(bS,.ml O.length),(cq,Ie cq Qs [md,mh,me] (kc (KP P) 1) env),(jV,.int w)]) (own:=gz) (xi:=cq) hS I F rfl (by simp) (fun p hp=>gL _ (List.mem_map_of_mem hp)) (fun p hp=>?_) rf rv ?_
   ·simp only[List.mem_cons,List.not_mem_nil,or_false]at hp
    rcases hp with rfl|rfl|rfl<;>rfl
   ·intro G' f0 cN vB hC c0 f cf
    refine aU.deeper (n:=m) ?_ (by exact ag 3 1 (aa (ae cR af) (aa (ax au ab) (aa (ae au cR) (aa (aS aq (az au)) (aa (ak b6 au) (ae au af)))))) (by kd_p) hn hm hl ed yj)
    have el:((List.replicate m (0:Int)).map V.int).length=m:=by simp
    rw[el];refine rG vB (w:=w) (i:=O.length) (m:=m) hS H6 (Y4 P) hC c0 hw hl m a 0 m _ (List.replicate m 0) (by simp) iy (by rw[hm];exact lL mN) yj (Nat.le_refl _) (by exact ag 3 1 (aa (ax au af) (aa (ae au cR) (aa (aS aq (az au)) (aa (ak b6 au) (aa (ax ab au) (ae (bb au b6) au)))))) (by kd_p) hm hl ed yj el) f cf _ ?_
    refine xC ?_;show cn G n env d5 _ _ _ _;have e9:(O++[some ((List.replicate m (0:Int)).map V.int)]).set O.length (some ((iI (List.replicate m 0) 0 (cV w (m-0) a)).map V.int))=O++[some ((cV w m a).map V.int)]:=by
     rw[List.set_append_right _ _ (Nat.le_refl _)];simp[iI,gA]
    rw[e9];exact tail _ _ rfl rfl
noncomputable def ke:Ss:=(.cons (.expr (.cA (.var 32) "reverse" .nil)) (.sa 32 (.cons (.asg (.name 24) (.call (.glob 31) (.cons (.var 32) (.cons (.var 21) .nil)))) (.cons (.ret (.tup (.cons (.var 24) (.cons (.var 10) .nil)))) .nil))))
noncomputable def forR:S:=.for d4 (.call (.glob j9) (.cons (.var bS) .nil)) iF
noncomputable abbrev EG(K:Frag):List Stmt:=du (ba K 77).body
noncomputable abbrev zL(K:Frag):Stmt:=(EG K).getD 4 default
theorem Y8(P:Params):EG (KP P)=dP aI ka (EG (KP P))++pB aI forR (zL (KP P))::dP aI ke ((EG (KP P)).drop 5):=by kd_p
theorem Y9(P:Params):(cW aI ka (ba (KP P) 77).scope d6 (EG (KP P))&&bP aI (.glob j9) (ba (KP P) 77).scope (bj 0 (sk 1 (zL (KP P))))&&jT aI (ba (KP P) 77).scope d6 d4 &&
 cW aI iF (ba (KP P) 77).scope d6 (sb 0 (zL (KP P)))&&cW aI ke (ba (KP P) 77).scope d6 ((EG (KP P)).drop 5))=true:=by kd_p
noncomputable def kZ(N b:Int):List Int→List Int×Int→List Int×Int
 |[],s=>s
 |d::ds,(qs,r)=>kZ N b ds (qs++[(r*N+d)/b],(r*N+d)%b)
theorem ux{N b:Int}(hN:0<N)(hb:0<b):∀ (ds qs:List Int) (r:Int),(∀d∈ds,0≤d∧d<N)→(∀d∈qs,0≤d∧d<N)→0≤r→r<b→
  (∀d∈(kZ N b ds (qs,r)).1,0≤d∧d<N)∧0≤(kZ N b ds (qs,r)).2∧(kZ N b ds (qs,r)).2<b ∧
   b*cP N (kZ N b ds (qs,r)).1.reverse+(kZ N b ds (qs,r)).2=(b*cP N qs.reverse+r)*N ^ ds.length+cP N ds.reverse
 |[],qs,r,_,hq,h0,h1=>⟨hq,h0,h1,by simp[kZ,cP]⟩
 |d::ds,qs,r,hd,hq,h0,h1=>by
  obtain⟨d0,d1⟩:=hd d (.head _);have QS:0≤r*N+d:=by have:=Int.mul_nonneg h0 (Int.le_of_lt hN);exact ag 0 2 (aa (ai aJ aq) (aa (ai aJ aK) (ai aJ (bh aK aq)))) (by kd_p) d0 this
  have Vi:=Int.mul_ediv_add_emod (r*N+d) b;have bA:(r*N+d)/b<N:=by
   refine Int.ediv_lt_of_lt_mul hb ?_;have:r*N≤(b-1)*N:=Int.mul_le_mul_of_nonneg_right (by exact ag 0 2 (aa (aM aK aq) (ai aK (bR aq bV))) (by kd_p) h1) (Int.le_of_lt hN)
   rw[Int.sub_mul,Int.one_mul]at this;rw[Int.mul_comm N b];exact ag 0 6 (aa (aM kO cu) (aa (aS (bh aK aq) (bh FX kO)) (aa (ai FX (bR fw cu)) (aM (bh FX kO) fw)))) (by kd_p) d1 Vi this
  refine vW (ux hN hb ds (qs++[(r*N+d)/b]) ((r*N+d)%b) (fun x m=>hd x (.tail _ m)) (fun x m=>by
   rcases List.mem_append.mp m with m|m
   ·exact hq x m
   ·rw[List.mem_singleton.mp m];exact⟨Int.ediv_nonneg QS (Int.le_of_lt hb),bA⟩) (Int.emod_nonneg _ (by exact yR hb)) (Int.emod_lt_of_pos _ hb)) ?_;intro e1 e2 e3 e4
  rw[kZ];refine⟨e1,e2,e3,?_⟩;rw[e4,List.reverse_append,List.reverse_singleton,List.singleton_append,cP,List.reverse_cons,lK,List.length_reverse,List.length_cons,Int.pow_succ];have h5:b*((r*N+d)/b+N*cP N qs.reverse)+(r*N+d)%b=(b*cP N qs.reverse+r)*N+d:=by
   rw[Int.mul_add];have h6:b*(N*cP N qs.reverse)=b*cP N qs.reverse*N:=by rw[Int.mul_comm N,Int.mul_assoc]
   rw[h6,Int.add_mul];exact ag 0 5 (aa (aS (bh kO cu) (bh aK aq)) (aS (bh (bh kO fw) cu) (bh (bh fw aK) aq))) (by kd_p) Vi
  rw[h5,Int.add_mul,Int.mul_assoc,Int.mul_comm N (N ^ ds.length)];simp only[cP,Int.mul_zero,Int.add_zero];rw[Int.mul_comm d];exact ag 0 3 (aS (bh (bh cu aK) aq) (bh cu (bh aq aK))) (by kd_p)
theorem EH{N b:Int}(hN:0<N)(hb:0<b){ds:List Int}(hd:∀d∈ds,0≤d∧d<N):cP N (kZ N b ds ([],0)).1.reverse=cP N ds.reverse/b∧(kZ N b ds ([],0)).2=cP N ds.reverse%b:=by
 refine vW (ux hN hb ds [] 0 hd (fun zz m=>nomatch m) (Int.le_refl _) hb) ?_;intro zz h0 h1 e;simp only[List.reverse_nil,cP,Int.mul_zero,Int.zero_add,Int.zero_mul,Int.add_zero]at e;rw[←e];constructor
 ·rw[Int.add_comm,Int.add_mul_ediv_left _ _ (by exact yR hb),Int.ediv_eq_zero_of_lt h0 h1,Int.zero_add]
 ·rw[Int.add_comm,Int.add_mul_emod_self_left,Int.emod_eq_of_lt h0 h1]
theorem wD{b:Nat}:b<2 ^ Builtin.Int.intBits (b:Int):=by
 have:=(intBits_le_iff (m:=Builtin.Int.intBits (b:Int)) (x:=(b:Int))).mp (Nat.le_refl _);simpa using this
theorem EI{b:Nat}(h:0<b):0<Builtin.Int.intBits (b:Int):=by
 rcases Nat.eq_zero_or_pos (Builtin.Int.intBits (b:Int)) with e|e
 ·have:=wD (b:=b)
  rw[e]at this;simp at this;exact ag 2 0 (aa (ak b6 ab) (aa (ax ab b6) (ak b6 af))) (by kd_p) h this
 ·exact e
theorem uy(hG:bx G){n:Nat}{O:Mu}{Q:V→Mu→Prop}{a b:Nat}(hn:302≤n)(hb:0<b)(hw:Builtin.Int.intBits (b:Int)≤4000)(ha:Builtin.Int.intBits (a:Int)≤250)(q:Q (.tuple [.int ((a:Int)/b),.int ((a:Int)%b)]) O):
  aU G (n+1) (.ref 77) [.int a,.int b] [] O Q:=by
 refine lD hG (own:=d6) [(gH,.int a),(mF,.int b)] (fun P ys ks B Z r rk=>?_) (fun P env hP hs hc zI hk=>?_)
 ·refine aB.aN r ?_;intro y zz r1 r
  refine aB.aN r ?_;intro z zz r2 r;refine aB.bE r ?_;refine aB.bE rk ?_;exact⟨[y,z],.cons r1 (.cons r2 .nil),fun S=>by kd_p⟩
 ·have ck:=Y9 P
  have c1:=aL (aL (aL (aL ck)));have c2:=aR (aL (aL (aL ck)));have c4:=aR (aL (aL ck));have c5:=aR (aL ck);have c6:=aR ck;rw[show du (ba (KP P) 77).body=_ from Y8 P];generalize sq:Builtin.Int.intBits (b:Int)=w at hw;have mN:0<w:=sq▸EI hb;have QT:b<2 ^ w:=sq▸wD;generalize QU:(Builtin.Int.intBits (a:Int)+w-1)/w=m;have hm:m≤250:=by
   have h1:m*w≤Builtin.Int.intBits (a:Int)+w-1:=QU▸Nat.div_mul_le_self _ _;rcases Nat.eq_zero_or_pos m with h|h
   ·exact ag 1 0 (aa (ax ab b6) (ae ab (nk 250))) (by kd_p) h
   ·obtain⟨k,rfl⟩:∃k,m=k+1:=⟨m-1,by exact ag 1 0 (aa (ak b6 ab) (ax ab (aj (bb ab aC) aC))) (by kd_p) h⟩
    rw[Nat.add_mul,Nat.one_mul]at h1;have h2:k*1≤k*w:=Nat.mul_le_mul_left k mN;exact ag 5 0 (aa (ae aO (nk 250)) (aa (ax au af) (aa (ae af (nk 4000)) (aa (ak b6 af) (aa (ae (aj ab af) (bb (aj aO af) aC)) (aa (ae (rZ dc 1) ab) (ae (aj dc aC) (nk 250)))))))) (by kd_p) ha sq hw mN h1 h2
  refine qw hG.nm hG.gl hk hs ka c1 ?_;unfold ka;k_upd;refine bB ?_;k_upd;refine⟨_,ig,?_⟩;k_upd;refine ij ?_;rw[sq];k_upd;refine bD.K (by obtain⟨P',uA⟩:=hG.K;rw[uA];kd_p) (aU.deeper (n:=301) (uw hG (m:=m) (Nat.le_refl _) (by exact MQ sq hw mN) mN (sq▸QU.symm) (by exact ag 1 0 (aa (ae ab (nk 250)) (ae ab cR)) (by kd_p) hm) ?_) (by exact MR hn))
  k_upd;refine⟨.of (by decide),(fun zz m=>nomatch m),?_⟩
  k_upd;show cn G n env d6 _ _ _ _;have hN:(0:Int)<2 ^ w:=Int.pow_pos (by decide)
  have yd:(0:Int)<b:=by exact ag 1 0 (aa (ak b6 ab) (aM aJ (az ab))) (by kd_p) hb
  have QV:∀d∈(cV w m a).reverse,0≤d∧d<2 ^ w:=fun d hd=>wB (by simpa using hd)
  refine j0 ?_;show cn G n env d6 (exec (.For (.Name (aI d4) _) (.Call (bH aI (.glob j9) (bj 0 (sk 1 (zL (KP P))))) (jy aI (.cons (.var bS) .nil) _) [] _) (dP aI iF _) [] _) env) _ _ _;rw[←hG.nm d4];refine La (H2 rfl (eA (es:=.cons (.var bS) .nil) (xs:=(ks (sk 1 (zL (KP P)))).tail)) (dE hG.nm hG.gl (.glob j9) c2 hs ?_)) (fun zz=>rfl) (fun zz zz=>rfl);k_upd;refine⟨rfl,kR hG.nm hG.gl (.cons (.var bS) .nil) rfl hs ?_⟩;k_upd;refine⟨_,rfl,?_⟩;rw[←List.map_reverse];generalize Il:(cV w m a).reverse=xs at QV;refine dy (fun i ao ar=>∃ (qs:List Int) (r:Int),qs.length=i∧0≤r∧r<(b:Int)∧(∀d∈qs,(0:Int)≤d∧d<2 ^ w)∧ar=O++[some (qs.map .int)]∧get ao YB=some (.int r)∧get ao zo=some (.ml O.length)∧get ao mF=some (.int b)∧get ao jV=some (.int w) ∧
   kZ (2 ^ w) b (xs.drop i) (qs,r)=kZ (2 ^ w) b xs ([],0)) (fun i x ao ar k hx hJ jI kF vH=>?_) (fun ao ar hJ=>?_) ⟨[],0,rfl,Int.le_refl _,yd,fun zz m=>(nomatch m),rfl,rfl,rfl,rfl,rfl,rfl⟩
  ·refine nY hJ ?_;clear hJ;intro qs r EJ Ll Lm hq z1;subst z1;intro g1 g2 g3 g4 b7
   have hi:i<xs.length:=by have:=(List.getElem?_eq_some_iff.mp hx).1;simpa using this
   have yk:x=.int xs[i]:=by
    rw[List.getElem?_map,List.getElem?_eq_getElem hi]at hx;simpa using hx.symm
   subst yk;have Ln:xs.length=m:=by rw[←Il,List.length_reverse,gA]
   obtain⟨d0,d1⟩:=QV xs[i] (List.getElem_mem _);refine m9 (fA hs hG.nm c4) ?_;refine eM hG.nm hG.gl iF hk c5 hs ?_;have Za:get (set ao d4 (.int xs[i])) 10=some (.int r):=gn g1;have Vj:get (set ao d4 (.int xs[i])) 32=some (.ml O.length):=gn g2;have Lo:get (set ao d4 (.int xs[i])) 18=some (.int b):=gn g3;have Vk:get (set ao d4 (.int xs[i])) 21=some (.int w):=gn g4;have Zb:get (set ao d4 (.int xs[i])) 33=some (.int xs[i]):=gs;generalize set ao d4 (.int xs[i])=a9 at Za Vj Lo Vk Zb;unfold iF;k_upd;have Zc:Sz w r:=.of_lt Ll (Int.lt_trans Lm (by exact_mod_cast QT))
   refine AM (v8.sz Zc (by exact ag 4 0 (aa (ax au aO) (aa (ae aO (nk 4000)) (aa (ak b6 aO) (aa (ak af ab) (ae (aj aO aO) (nk 100000000)))))) (by kd_p) sq hw mN hi)) ?_
   rw[Int.toNat_natCast];k_upd;have xG:Builtin.Int.intBits (r*2 ^ w+xs[i])≤w+w:=by
    refine Sz.bits (.of_lt (by have:=Int.mul_nonneg Ll (Int.le_of_lt hN);exact ag 2 2 (aa (ak af ab) (aa (ai aJ aq) (aa (ai aJ aK) (ai aJ (bh aK aq))))) (by kd_p) hi d0 this) ?_)
    have Bk:((b:Nat):Int)<2 ^ w:=by exact_mod_cast QT
    have h1:r*2 ^ w≤(2 ^ w-1)*2 ^ w:=Int.mul_le_mul_of_nonneg_right (by exact ag 3 2 (aa (aM aK (az au)) (aa (ak af ab) (aa (aM (az au) aq) (ai aK (bR aq bV))))) (by kd_p) Lm hi Bk) (Int.le_of_lt hN)
    rw[Int.sub_mul,Int.one_mul,←Int.pow_add]at h1;exact ag 2 4 (aa (ak af ab) (aa (aM cu aq) (aa (ai fw (bR aK aq)) (aM (bh fw cu) aK)))) (by kd_p) hi d1 h1
   have nV:((b:Int)).natAbs.log2<9000:=by
    have:=(Nat.log2_lt (by exact ag 3 0 (aa (ak b6 au) (aa (ak af ab) (FV au b6))) (by kd_p) hb hi:b≠0)).mpr QT
    rw[Int.natAbs_natCast];exact ag 5 0 (aa (ax aO au) (aa (ae au (nk 4000)) (aa (ak b6 au) (aa (ak af ab) (aa (ak dc au) (ak dc c7)))))) (by kd_p) sq hw mN hi this
   refine bD.K (by obtain⟨P',uA⟩:=hG.K;rw[uA];kd_p) (aU.deeper (n:=1) (zE hG (by exact ag 5 0 (aa (ax au aO) (aa (ae aO (nk 4000)) (aa (ak b6 aO) (aa (ak af ab) (aa (ae dc (aj aO aO)) (ai (bR (az dc) (az aO)) (zk 4000))))))) (by kd_p) sq hw mN hi xG) (by exact MS hb hi) nV ?_) (by exact ag 3 0 (aa (ae (nk 302) au) (aa (ak af ab) (ae aC au))) (by kd_p) hn hi))
   rw[Int.fdiv_eq_ediv_of_nonneg _ (by exact Int.natCast_nonneg _),Int.fmod_eq_emod_of_nonneg _ (by exact Int.natCast_nonneg _)]
   k_upd;have Lp:get (set (set a9 35 (V.int ((r*2 ^ w+xs[i]) / ↑b))) 10 (V.int ((r*2 ^ w+xs[i]) % ↑b))) 32=some (.ml O.length):=by rw[get_set,get_set];exact Vj
   refine bB ?_;refine bU Lp ?_;refine⟨_,fB (xs:=qs.map V.int) (by simp),?_⟩
   refine gj (bU (by rw[get_set,get_set];rfl) (kP ?_))
   refine fC (xs:=qs.map V.int) (by simp) (by simp;rw[sizeLine_eq];exact ag 4 0 (aa (ae au (nk 250)) (aa (ax aO af) (aa (ak af ab) (aa (ax ab au) (ae aO bq))))) (by kd_p) hm EJ hi Ln) .int ?_
   k_upd;have Zd:(0:Int)≤(r*2 ^ w+xs[i])%b:=Int.emod_nonneg _ (by exact MS hb hi)
   have Vl:(r*2 ^ w+xs[i])%(b:Int)<b:=Int.emod_lt_of_pos _ yd;refine jI _ _ ⟨qs++[(r*2 ^ w+xs[i])/b],(r*2 ^ w+xs[i])%b,by simp[EJ],Zd,Vl,fun d m=>?_,by simp,gs,Lp,by rw[get_set,get_set];exact Lo,by rw[get_set,get_set];exact Vk,?_⟩
   ·have:=ux hN yd [xs[i]] qs r (fun d m=>by rw[List.mem_singleton.mp m];exact⟨d0,d1⟩) hq Ll Lm
    exact this.1 d m
   ·rw[List.drop_eq_getElem_cons hi]at b7
    exact b7
  ·refine nY hJ ?_;clear hJ;intro qs r EJ Ll Lm hq z1;subst z1;intro g1 g2 g3 g4 b7
   rw[List.length_map]at EJ b7;have Ln:xs.length=m:=by rw[←Il,List.length_reverse,gA]
   rw[List.drop_length]at b7;have b7:(qs,r)=kZ (2 ^ w) b xs ([],0):=b7;refine eM hG.nm hG.gl ke hk c6 hs ?_;unfold ke;k_upd;refine bB ?_;refine bU g2 ?_;refine⟨_,vv (xs:=qs.map V.int) (by simp),?_⟩
   k_upd;refine vw (xs:=qs.map V.int) (by simp) (by simp;rw[sizeLine_eq];exact ag 3 0 (aa (ae af (nk 250)) (aa (ax au ab) (aa (ax ab af) (ae au bq)))) (by kd_p) hm EJ Ln) ?_
   k_upd;refine nz g2 (xs:=(qs.map V.int).reverse) (by simp) ?_
   have Lp:get (set ao 32 (V.list (qs.map V.int).reverse)) 32=some (.list (qs.reverse.map V.int)):=by rw[get_set,if_pos rfl,List.map_reverse]
   have Ze:get (set ao 32 (V.list (qs.map V.int).reverse)) 21=some (.int w):=gn g4;have vm:get (set ao 32 (V.list (qs.map V.int).reverse)) 10=some (.int r):=gn g1;generalize set ao 32 (V.list (qs.map V.int).reverse)=a9 at Lp Ze vm;k_upd;have Im:=EH hN yd QV;rw[←b7]at Im;refine bD.K (by obtain⟨P',uA⟩:=hG.K;rw[uA];kd_p) (aU.deeper (n:=301) (ur hG (w:=w) (Nat.le_refl _) (by exact MQ sq hw mN) (by simp;exact ag 3 0 (aa (ae af (nk 250)) (aa (ax au ab) (aa (ax ab af) (ae au cR)))) (by kd_p) hm EJ Ln) (fun d m=>hq d (by simpa using m)) ?_) (by exact MR hn))
   have aac:get (set a9 24 (V.int (cP (2 ^ w) qs.reverse))) 10=some (.int r):=gn vm;have aad:get (set a9 24 (V.int (cP (2 ^ w) qs.reverse))) 24=some (.int (cP (2 ^ w) qs.reverse)):=gs;k_upd;refine⟨.of (by simp),?_⟩
   refine⟨_,.cl (.tuple (by simp[lJ])),?_⟩
   have Vm:cP (2 ^ w) xs.reverse=(a:Int):=by
    rw[←Il,List.reverse_reverse];exact wC w m a (by rw[←QU,←sq];exact lL (sq▸mN))
   rw[Vm]at Im;simp only at Im;rw[Im.1,Im.2];have et:List.take O.length (((O++[some (qs.map V.int)]).set O.length (some (qs.map V.int).reverse)).set O.length none)=O:=by
    rw[List.take_set_of_le (Nat.le_refl _),List.take_set_of_le (Nat.le_refl _)];simp
   rw[et];exact q
theorem Sz.not{k:Nat}{a:Int}(h:a<0)(h':Sz k a):Sz k (-a-1):=by unfold Sz at *;exact ag 1 1 (aa (aM aq aJ) (aa (ak (gD aq) ab) (ak (gD (bR (cH aq) bV)) ab))) (by kd_p) h h'
theorem zM{k:Nat}{a:Int}:Sz k a↔Builtin.Int.intBits a≤k:=intBits_le_iff.symm
theorem Bl{a b:Int}(hb:0<b) : -((-a-1)/b)-1=a.fdiv b∧b+(-((-a-1)%b)-1)=a.fmod b:=by
 rw[Int.fdiv_eq_ediv_of_nonneg _ (by exact te hb),Int.fmod_eq_emod_of_nonneg _ (by exact te hb)]
 have h1:=Int.mul_ediv_add_emod (-a-1) b;have h2:=Int.emod_nonneg (-a-1) (by exact yR hb:b≠0)
 have h3:=Int.emod_lt_of_pos (-a-1) hb;generalize (-a-1)/b=q at h1;generalize (-a-1)%b=r at h1 h2 h3;have ha:a=(b-r-1)+b*(-q-1):=by rw[Int.mul_sub,Int.mul_neg,Int.mul_one];exact ag 0 4 (aa (aS (bh aq aK) (bR (cH fw) bV)) (aS fw (bh (bR (bR cu aK) bV) (bR (cH aq) cu)))) (by kd_p) h1
 constructor
 ·rw[ha,Int.add_mul_ediv_left _ _ (by exact ag 0 4 (aa (aM aJ fw) (aa (aS cu (bh (bR (bR fw aK) bV) aq)) (fH fw aJ))) (by kd_p) hb ha),Int.ediv_eq_zero_of_lt (by exact MT h3 ha) (by exact MU h2)];exact ag 0 1 (aS (bR (cH aq) bV) (bh aJ (bR (cH aq) bV))) (by kd_p)
 ·rw[ha,Int.add_mul_emod_self_left,Int.emod_eq_of_lt (by exact MT h3 ha) (by exact MU h2)];exact ag 0 2 (aS (bh aK (bR (cH aq) bV)) (bR (bR aK aq) bV)) (by kd_p)
theorem jJ(hG:bx G){n:Nat}{O:Mu}{Q:V→Mu→Prop}{a b:Int}(hn:304≤n)(Zf:0≤a)(hb:0<b)(hw:Sz 4000 b)(ha:Sz 250 a)(q:Q (.tuple [.int (a.fdiv b),.int (a.fmod b)]) O):
  aU G (n+1) (.ref 84) [.int a,.int b] [] O Q:=by
 refine fN hG (st:=eT) (own:=eU) [(gH,.int a),(mF,.int b)] (fun P ys ks B Z r rk=>?_) ?_
 ·refine aB.aN r ?_;intro y zz r1 r
  refine aB.aN r ?_;intro z zz r2 r;refine aB.bE r ?_;refine aB.bE rk ?_;exact⟨[y,z],.cons r1 (.cons r2 .nil),fun S=>by kd_p⟩
 ·obtain⟨x,rfl⟩:=Int.eq_ofNat_of_zero_le Zf
  obtain⟨y,rfl⟩:=Int.eq_ofNat_of_zero_le (Int.le_of_lt hb);unfold eT;k_upd;rw[show(((y:Nat):Int)==0)=false by simp;exact ag 1 0 (aa (aM aJ (az ab)) (dH (ax ab b6))) (by kd_p) hb]
  k_upd;rw[show decide (((y:Nat):Int)<0)=false by simp]
  k_upd;rw[show decide (((x:Nat):Int)<0)=false by simp]
  k_upd;refine bD.K (by obtain⟨P',uA⟩:=hG.K;rw[uA];kd_p) (aU.deeper (n:=303) (uy hG (Nat.le_refl _) (by exact Td hb) (zM.mp hw) (zM.mp ha) ?_) (by exact ag 1 0 (aa (ae (nk 304) ab) (ae (nk 303) ab)) (by kd_p) hn))
  refine⟨.tuple (by simp[lJ]),?_⟩
  rw[List.take_length,←Int.fdiv_eq_ediv_of_nonneg _ (by exact Int.natCast_nonneg _),←Int.fmod_eq_emod_of_nonneg _ (by exact Int.natCast_nonneg _)]
  exact q
theorem kf(hG:bx G){n:Nat}{O:Mu}{Q:V→Mu→Prop}{a b:Int}(hn:305≤n)(hb:0<b)(hw:Sz 4000 b)(ha:Sz 250 a)(q:Q (.tuple [.int (a.fdiv b),.int (a.fmod b)]) O):
  aU G (n+1) (.ref 84) [.int a,.int b] [] O Q:=by
 by_cases h0:0≤a
 ·exact jJ hG (by exact ag 1 0 (aa (ae (nk 305) ab) (ae (nk 304) ab)) (by kd_p) hn) h0 hb hw ha q
 ·refine fN hG (st:=eT) (own:=eU) [(gH,.int a),(mF,.int b)] (fun P ys ks B Z r rk=>?_) ?_
  ·refine aB.aN r ?_;intro y zz r1 r
   refine aB.aN r ?_;intro z zz r2 r;refine aB.bE r ?_;refine aB.bE rk ?_;exact⟨[y,z],.cons r1 (.cons r2 .nil),fun S=>by kd_p⟩
  ·unfold eT
   k_upd;rw[show(b==0)=false by simp;exact ag 0 1 (aa (aM aJ aq) (dH (aS aq aJ))) (by kd_p) hb]
   k_upd;rw[show decide (b<0)=false by simp;exact te hb]
   k_upd;rw[show decide (a<0)=true by simp;exact ag 0 1 (aa (dH (ai aJ aq)) (aM aq aJ)) (by kd_p) h0]
   k_upd;have e1:Builtin.bitNot a = -a-1:=by unfold Builtin.bitNot;rfl
   rw[e1];refine bD.K (by obtain⟨P',uA⟩:=hG.K;rw[uA];kd_p) (aU.deeper (n:=305) (jJ hG (Nat.le_refl _) (by exact ag 0 2 (aa (dH (ai aJ aK)) (aa (aS aq (bR (cH aK) bV)) (ai aJ (bR (cH aK) bV)))) (by kd_p) h0 e1) hb hw (ha.not (by exact ag 0 2 (aa (dH (ai aJ aK)) (aa (aS aq (bR (cH aK) bV)) (aM aK aJ))) (by kd_p) h0 e1)) ?_) (by omega))
   k_upd;refine⟨.of (by simp),?_⟩
   refine⟨.tuple (by simp[lJ]),?_⟩
   rw[List.take_length];have e2:∀z,Builtin.bitNot z = -z-1:=fun z=>by unfold Builtin.bitNot;rfl
   have hf:=Bl (a:=a) hb;rw[e2,e2,Int.fdiv_eq_ediv_of_nonneg _ (by exact MV hb hf),Int.fmod_eq_emod_of_nonneg _ (by exact MV hb hf),hf.1,hf.2]
   exact q
theorem uB(hG:bx G){n:Nat}{O:Mu}{Q:V→Mu→Prop}{a b:Int}(hn:306≤n)(hb:b≠0)(hw:Sz 4000 b)(ha:Sz 250 a)(q:Q (.tuple [.int (a.fdiv b),.int (a.fmod b)]) O):
  aU G (n+1) (.ref 84) [.int a,.int b] [] O Q:=by
 by_cases h0:0<b
 ·exact kf hG (by exact ag 1 0 (aa (ae (nk 306) ab) (ae (nk 305) ab)) (by kd_p) hn) h0 hw ha q
 ·refine fN hG (st:=eT) (own:=eU) [(gH,.int a),(mF,.int b)] (fun P ys ks B Z r rk=>?_) ?_
  ·refine aB.aN r ?_;intro y zz r1 r
   refine aB.aN r ?_;intro z zz r2 r;refine aB.bE r ?_;refine aB.bE rk ?_;exact⟨[y,z],.cons r1 (.cons r2 .nil),fun S=>by kd_p⟩
  ·unfold eT
   k_upd;rw[show(b==0)=false by simp;omega]
   k_upd;rw[show decide (b<0)=true by simp;exact yS hb h0]
   k_upd;refine bD.K (by obtain⟨P',uA⟩:=hG.K;rw[uA];kd_p) (aU.deeper (n:=306) (kf hG (Nat.le_refl _) (by exact ag 0 1 (aa (fH aq aJ) (aa (dH (aM aJ aq)) (aM aJ (cH aq)))) (by kd_p) hb h0) hw.neg ha.neg ?_) (by omega))
   k_upd;refine⟨.of (by simp),?_⟩
   refine⟨.tuple (by simp[lJ]),?_⟩
   rw[List.take_length];have e1:(-a).fdiv (-b)=a.fdiv b:=by rw[Int.neg_fdiv_neg]
   have e2 : -((-a).fmod (-b))=a.fmod b:=by
    have h1:=Int.mul_fdiv_add_fmod (-a) (-b);have h2:=Int.mul_fdiv_add_fmod a b;rw[e1,Int.neg_mul]at h1;exact ag 0 4 (aa (aS (bh (cH aK) fw) (cH aq)) (aa (aS (bh aK cu) aq) (aS (cH fw) cu))) (by kd_p) h1 h2
   rw[e1,e2];exact q
theorem kh{turn:V→aw→Mu→List V→(aw→Mu→List V→Prop)→Prop}{J:aw→Prop}{O:Mu}{M:Nat}(g:V→List V)(hg:∀x,(g x).length≤1):
  ∀ {xs:List V} (step:∀x∈xs,∀U acc k,J U→acc.length<M→(∀ao,J ao→k ao O (acc++g x))→turn x U O acc k) {U:aw} {acc:List V} {k:aw→Mu→List V→Prop},J U→acc.length+xs.length≤M→(∀ao,J ao→k ao O (acc++xs.flatMap g))→cb turn xs U O acc k
 |[],_,U,acc,k,hJ,_,hk=>by
  have:=hk U hJ;rw[List.flatMap_nil,List.append_nil]at this;exact this
 |x::xs,step,U,acc,k,hJ,hM,hk=>by
  refine step x (.head _) U acc _ hJ (by simp at hM;exact ag 3 0 (aa (ae (aj au (aj ab aC)) af) (ak au af)) (by kd_p) hM) fun ao QW=>?_
  refine kh g hg (fun y hy=>step y (.tail _ hy)) QW ?_ fun fJ Io=>?_
  ·have:=hg x
   simp at hM ⊢;exact ag 4 0 (aa (ae (aj aO (aj af aC)) ab) (aa (ae au aC) (ae (aj (aj aO au) af) ab))) (by kd_p) hM this
  ·have:=hk fJ Io
   rw[List.flatMap_cons,←List.append_assoc]at this;exact this
theorem mO{p:Nat→Bool}:∀ (f lo hi:Nat),lo≤hi→lo≤cO p f lo hi∧cO p f lo hi≤hi
 |0,lo,hi,h=>⟨Nat.le_refl _,h⟩
 |f+1,lo,hi,h=>by
  rw[oU]
  by_cases h1:lo<hi
  ·rw[if_pos h1]
   by_cases h2:p ((lo+hi)/2)=true
   ·rw[if_pos h2]
    obtain⟨a,b⟩:=mO (p:=p) f lo ((lo+hi)/2) (by exact Tb h1)
    exact⟨a,by exact Tj h1 b⟩
   ·rw[if_neg h2]
    obtain⟨a,b⟩:=mO (p:=p) f ((lo+hi)/2+1) hi (by exact Tn h1)
    exact⟨by exact To h1 a,b⟩
  ·rw[if_neg h1];exact⟨Nat.le_refl _,h⟩
noncomputable def d9(row:List Int)(x:Int):Nat:=cO (fun i=>decide (x<row.getD i 0)) row.length 0 row.length
theorem Ip(row:List Int)(x:Int):d9 row x≤row.length:=(mO _ _ _ (Nat.zero_le _)).2
noncomputable def cX:List (List Int)→Int→List (List Int)
 |[],_=>[]
 |r::rs,x=>if d9 r x=r.length then(r++[x])::rs else r.set (d9 r x) x::cX rs (r.getD (d9 r x) 0)
noncomputable def rows0(F:List (List Int))(k:Nat):List Int:=F.filterMap (·[k]?)
noncomputable def lettersOf(a b c:Int):List Int:=times [3] c++times [2] b++times [1] a
noncomputable def gB(F:List (List Int))(a b c:Int):List (List Int):=(lettersOf a b c).foldl cX [rows0 F 0,rows0 F 1,rows0 F 2]
noncomputable def cG(F:List (List Int)):V:=.list (F.map fun c=>.list (c.map .int))
theorem yl(hG:bx G){n:Nat}{U:aw}{O:Mu}{k:Fl→aw→Mu→Prop}{j:Nat}{row:List Int}{x:Int}(hj:(O[j]?:Option (Option (List V)))=some (some (row.map .int)))(hl:row.length≤1000)(hx:get U nE=some (.int x))
  (hb:∀ao,get ao lA=get U lA→d9 row x=row.length→k .brk ao (O.set j (some ((row++[x]).map .int))))
  (hn:∀ao,get ao lA=get U lA→d9 row x≠row.length→get ao nE=some (.int (row.getD (d9 row x) 0))→k .next ao (O.set j (some ((row.set (d9 row x) x).map .int)))):
  aX G bX (n+1) (.cons (.asg (.name 98) (.call (.glob 42) (.cons (.var 97) (.cons (.var 71) .nil)))) (.cons (.iff (.cmp .Eq (.var 98) (.call (.glob 6) (.cons (.var 97) .nil))) (.cons (.expr (.cA (.var 97) "append" (.cons (.var 71) .nil))) (.cons .brk .nil)) .nil) (.cons (.asg (.g9 (.name 71) (.sub (.var 97) (.var 98))) (.tup (.cons (.sub (.var 97) (.var 98)) (.cons (.var 71) .nil)))) .nil)))
   (set U 97 (.ml j)) O k:=by
 have Vn:get (set U 97 (.ml j)) 97=some (.ml j):=gs;have Lq:get (set U 97 (.ml j)) 71=some (.int x):=gn hx;have Lr:get (set U 97 (.ml j)) 96=get U 96:=gn rfl;generalize set U 97 (.ml j)=a9 at Vn Lq Lr;k_upd;refine bD.K (hG.keep (fun P=>by kd_p)) (qE hG (.inr ⟨j,rfl,hj⟩) (by exact MW hl) ?_)
 show aX _ _ _ _ (set a9 98 (.int (d9 row x:Nat))) _ _;k_upd;have Vo:get (set a9 98 (.int (d9 row x:Nat))) 98=some (.int (d9 row x:Nat)):=gs;have QX:get (set a9 98 (.int (d9 row x:Nat))) 97=some (.ml j):=gn Vn;have QY:get (set a9 98 (.int (d9 row x:Nat))) 71=some (.int x):=gn Lq;have uC:get (set a9 98 (.int (d9 row x:Nat))) 96=get U 96:=gn Lr;generalize set a9 98 (.int (d9 row x:Nat))=b9 at Vo QX QY uC;have hle:=Ip row x;k_upd;refine fh hj (cp.of (by simp;exact td hl)).ok ?_
 k_upd;rw[List.length_map]
 by_cases he:d9 row x=row.length
 ·rw[show(((d9 row x:Nat):Int)==(row.length:Int))=true by simp[he]]
  k_upd;refine bB (bU QX ?_);refine⟨_,fB hj,?_⟩;k_upd;refine fC hj (by simp;rw[sizeLine_eq];exact ag 2 0 (aa (ae af bw) (aa (ax ab af) (ae af bq))) (by kd_p) hl he) .int ?_
  k_upd;have:=hb b9 uC he;rw[List.map_append]at this;exact this
 ·rw[show(((d9 row x:Nat):Int)==(row.length:Int))=false by simp;exact MX he]
  have hv:(row.map V.int)[cE ((d9 row x:Nat):Int) (row.map V.int).length]?=some (.int (row.getD (d9 row x) 0)):=by
   unfold cE;rw[if_neg (by exact xt)]
   have:d9 row x<row.length:=by exact MY hle he
   simp[this]
  k_upd;refine xO hj hv (by exact ag 3 0 (aa (ae ab bw) (aa (ae af ab) (ai (cH (az au)) (az af)))) (by kd_p) hl hle) (.of (by simp;exact td hl)) ?_
  k_upd;refine⟨.of (by simp),?_⟩
  k_upd;have i97:get (set b9 71 (.int (row.getD (d9 row x) 0))) 97=some (.ml j):=gn QX;have i98:get (set b9 71 (.int (row.getD (d9 row x) 0))) 98=some (.int (d9 row x:Nat)):=gn Vo;k_upd;refine xP hj (by exact Int.natCast_nonneg _) (by simp;exact MY hle he) (.of (by simp;exact td hl)) .int ?_
  k_upd;have:=hn (set b9 71 (.int (row.getD (d9 row x) 0))) (gn uC) he (gs);rw[List.map_set]at this;exact this
theorem EK(hG:bx G){n:Nat}{U:aw}{O:Mu}{Q:V→Mu→Prop}{F:List (List Int)}(k:Nat)(hF:F.length≤1000)(hc:∀c∈F,c.length≤1000)(Ls:get U 77=some (cG F))(Zg:get U 80=some (.int k))
  (q:Q (.ml O.length) (O++[some ((rows0 F k).map .int)])):
  cC G bX n (.ey true (.sub (.var 72) (.var 80)) 72 (.var 77) (.cons (.cmp .Gt (.call (.glob 6) (.cons (.var 72) .nil)) (.var 80)) .nil) [80] [72]) U O Q:=by
 refine dC (bU Ls ⟨_,Iter.list,?_⟩)
 let g:V→List V:=fun v=>match v with | .list c=>(c[k]?).toList|_=>[]
 have hg:∀x,(g x).length≤1:=fun x=>by
  cases x<;>simp only[g,List.length_nil,Nat.zero_le];rename_i c;cases c[k]?<;>simp
 refine kh (J:=fun ao=>get ao 80=some (.int k)) (M:=F.length) g hg (fun x hx ao acc K hJ hM hK=>?_) ?_ (by simp) (fun ao hJ=>?_)
 ·refine aW (List.mem_map.mp hx) ?_;intro c Zh z1;subst z1
  have cj:=hc c Zh;have Zi:get (set ao 72 (.list (c.map V.int))) 72=some (.list (c.map V.int)):=gs;have QZ:get (set ao 72 (.list (c.map V.int))) 80=some (.int k):=gn hJ;refine kQ ?_;generalize set ao 72 (.list (c.map V.int))=a9 at Zi QZ;k_upd;refine cM (cp.of (by simp;exact td cj)).ok ?_
  k_upd;rw[List.length_map]
  by_cases hk:k<c.length
  ·rw[show decide ((k:Int)<(c.length:Int))=true by simpa using hk]
   have hv:(c.map V.int)[cE ((k:Nat):Int) (c.map V.int).length]?=some (.int c[k]):=by
    unfold cE;rw[if_neg (by exact xt)]
    simp[hk]
   k_upd;refine V_at hv (by exact ag 3 0 (aa (ae ab bw) (aa (ak af ab) (ai (cH (az au)) (az af)))) (by kd_p) cj hk) (.of (by simp;exact td cj)) ?_
   refine⟨.of (by exact ag 2 0 (aa (ae ab bw) (aa (ak af ab) (ae (aj af aC) aQ))) (by kd_p) hF hM),?_⟩
   have:=hK a9 QZ;simpa[g,hk] using this
  ·rw[show decide ((k:Int)<(c.length:Int))=false by simpa using hk]
   have:=hK a9 QZ;have e:c[k]?=none:=List.getElem?_eq_none (by exact OV hk)
   simpa[g,e] using this
 ·show get (cz U [80]) 80=_
  unfold cz;rw[Zg];first|done|rfl
 ·have e:([]:List V)++(F.map fun c=>V.list (c.map .int)).flatMap g=(rows0 F k).map .int:=by
   unfold rows0;rw[List.nil_append];clear hF hc Ls q
   induction F with
   |nil=>rfl
   |cons c F ih=>
    rw[List.map_cons,List.flatMap_cons,ih,List.filterMap_cons];cases h:c[k]? with
    |none=>simp[g,h]
    |some y=>simp[g,h]
  rw[e];exact⟨fun x hx=>by refine aW (List.mem_map.mp hx) ?_;intro i _ z1;subst z1;exact .int,q⟩
theorem n9:∀ (rows:List (List Int)) (x:Int),(cX rows x).length=rows.length
 |[],_=>rfl
 |r::rs,x=>by
  unfold cX;split
  ·rfl
  ·rw[List.length_cons,n9 rs,List.length_cons]
theorem oY(F:List (List Int))(k:Nat):(rows0 F k).length≤F.length:=by unfold rows0;exact List.length_filterMap_le _ _
noncomputable def fF(O:Mu)(rs:List (List Int)):Mu:=O++rs.map fun r=>some (r.map .int)
theorem zN{rs:List (List Int)}{x:Int}{M:Nat}(h:∀r∈rs,r.length≤M):∀r∈cX rs x,r.length≤M+1:=by
 induction rs generalizing x with
 |nil=>intro r m;cases m
 |cons r rs ih=>
  intro y m;unfold cX at m;split at m
  ·rcases List.mem_cons.mp m with rfl|m
   ·have:=h r (.head _);simp;omega
   ·have:=h y (.tail _ m);exact Ax this
  ·rcases List.mem_cons.mp m with rfl|m
   ·have:=h r (.head _);simp;exact Ax this
   ·exact ih (fun z hz=>h z (.tail _ hz)) y m
theorem Bm{turn:V→aw→Mu→List V→(aw→Mu→List V→Prop)→Prop}{U:aw}{O:Mu}{acc:List V}{k:aw→Mu→List V→Prop}(h:k U O acc):cb turn [] U O acc k:=h
theorem mP{turn:V→aw→Mu→List V→(aw→Mu→List V→Prop)→Prop}{x:V}{xs:List V}{U:aw}{O:Mu}{acc:List V}{k:aw→Mu→List V→Prop}(h:turn x U O acc fun ao ar nZ=>cb turn xs ao ar nZ k):cb turn (x::xs) U O acc k:=h
noncomputable def vI:Nat→Nat→List V
 |_,0=>[]
 |s,k+1=>.ml s::vI (s+1) k
theorem Bn{O:Mu}{ps rs:List (List Int)}{r:List Int}:((fF O (ps++r::rs))[O.length+ps.length]?:Option (Option (List V)))=some (some (r.map .int)):=by
 unfold fF;rw[List.getElem?_append_right (by exact Gg)]
 simp
theorem rH{O:Mu}{ps rs:List (List Int)}{r r':List Int}:(fF O (ps++r::rs)).set (O.length+ps.length) (some (r'.map .int))=fF O (ps++r'::rs):=by
 unfold fF;rw[List.set_append_right _ _ (by exact Gg)]
 simp
noncomputable def EL:Ss:=(.cons (.asg (.name 98) (.call (.glob 42) (.cons (.var 97) (.cons (.var 71) .nil)))) (.cons (.iff (.cmp .Eq (.var 98) (.call (.glob 6) (.cons (.var 97) .nil))) (.cons (.expr (.cA (.var 97) "append" (.cons (.var 71) .nil))) (.cons .brk .nil)) .nil) (.cons (.asg (.g9 (.name 71) (.sub (.var 97) (.var 98))) (.tup (.cons (.sub (.var 97) (.var 98)) (.cons (.var 71) .nil)))) .nil)))
theorem pN(hG:bx G){n:Nat}{O:Mu}{Q:Fl→aw→Mu→Prop}:∀ (rs ps:List (List Int)) (x:Int) (U:aw),(∀r∈rs,r.length≤1000)→get U nE=some (.int x)→
  (∀ao,get ao lA=get U lA→Q .next ao (fF O (ps++cX rs x)))→
  forL (fun v U O k=>aX G bX (n+1) EL (set U 97 v) O k) (vI (O.length+ps.length) rs.length) U (fF O (ps++rs)) Q
 |[],ps,x,U,hl,hx,hQ=>hQ U rfl
 |r::rs,ps,x,U,hl,hx,hQ=>by
  refine yl hG Bn (hl r (.head _)) hx (fun ao uC he=>?_) (fun ao uC he QY=>?_)
  ·rw[rH]
   have:=hQ ao uC;unfold cX at this;rw[if_pos he]at this;exact this
  ·rw[rH]
   have e1:ps++r.set (d9 r x) x::rs=(ps++[r.set (d9 r x) x])++rs:=by simp
   have e2:O.length+ps.length+1=O.length+(ps++[r.set (d9 r x) x]).length:=by simp;exact ag 2 0 (ax (aj (aj af ab) aC) (aj af (aj ab aC))) (by kd_p)
   show forL _ (vI (O.length+ps.length+1) rs.length) ao _ _;rw[e1,e2];refine pN hG rs _ _ ao (fun y m=>hl y (.tail _ m)) QY fun fJ h'=>?_;have:=hQ fJ (h'.trans uC);unfold cX at this;rw[if_neg he]at this;simpa using this
theorem ki{M:Nat}:∀ (ls:List Int) (rs:List (List Int)),(∀r∈rs,r.length≤M)→∀r∈ls.foldl cX rs,r.length≤M+ls.length
 |[],rs,h=>h
 |x::ls,rs,h=>fun r m=>by
  have:=ki (M:=M+1) ls (cX rs x) (zN h) r m;simp;exact ag 3 0 (aa (ae au (aj (aj af aC) ab)) (ae au (aj af (aj ab aC)))) (by kd_p) this
theorem iX:∀ (ls:List Int) (rs:List (List Int)),(ls.foldl cX rs).length=rs.length
 |[],rs=>rfl
 |x::ls,rs=>by rw[List.foldl_cons,iX ls,n9]
theorem mQ{O:Mu}{rs:List (List Int)}{i:Nat}{r:List Int}(h:rs[i]?=some r):((fF O rs)[O.length+i]?:Option (Option (List V)))=some (some (r.map .int)):=by
 unfold fF;rw[List.getElem?_append_right (by exact Gg),Nat.add_sub_cancel_left,List.getElem?_map,h]
 rfl
def qI(G:dk)(n:Nat):V→aw→Mu→List V→(aw→Mu→List V→Prop)→Prop:=fun v U O acc k=>d8 G bX n .nil (set U 80 v) O fun b aZ=>match b with
 |false=>k (set U 80 v) aZ acc
 |true=>cC G bX n (.ey true (.sub (.var 72) (.var 80)) 72 (.var 77) (.cons (.cmp .Gt (.call (.glob 6) (.cons (.var 72) .nil)) (.var 80)) .nil) [80] [72]) (set U 80 v) aZ fun u dK=>gM (acc.length+1)∧k (set U 80 v) dK (acc++[u])
theorem uD(hG:bx G){n:Nat}{O:Mu}{Q:V→Mu→Prop}{F:List (List Int)}{a b c:Int}(hF:F.length≤100)(hc:∀x∈F,x.length≤100)(ha:0≤a∧a≤100)(hb:0≤b∧b≤100)(nT:0≤c∧c≤100)
  (q:Q (.list ((gB F a b c).map fun r=>.list (r.map .int))) O):
  aX G bX (n+1) kE (bc [] [(ly,cG F),(kT,.list [.int a,.int b,.int c])]) O (wu O Q):=by
 have zF:(2:Int) ^ 63=9223372036854775808:=by decide
 have Ek:(2:Nat) ^ 24=16777216:=by decide
 unfold kE;k_upd;refine dC ?_;k_upd;refine dY ?_;refine⟨_,Iter.gE (by decide),?_⟩
 have e3:cI 0 3=[.int (0:Nat),.int (1:Nat),.int (2:Nat)]:=rfl;rw[e3];have Iq:cz (bc [] [(ly,cG F),(kT,.list [.int a,.int b,.int c])]) [77]=[(77,cG F)]:=rfl;rw[Iq];have step:∀ (k:Nat) (ao:aw) (ar:Mu) (acc:List V) (K:aw→Mu→List V→Prop),get ao 77=some (cG F)→acc.length≤3→(∀fJ,get fJ 77=some (cG F)→K fJ (ar++[some ((rows0 F k).map .int)]) (acc++[.ml ar.length]))→
   qI G (n+1) (.int k) ao ar acc K:=by
  intro k ao ar acc K Ls Vp hK;have su:get (set ao 80 (.int k)) 77=some (cG F):=gn Ls;unfold qI;refine cQ ?_;exact EK hG k (by exact MZ hF) (fun x m=>by have:=hc x m;exact MZ this) su (gs) ⟨.of (by exact Gh Vp),hK _ su⟩
 show cb (qI G (n+1)) _ _ _ _ _;refine mP (step 0 [(77,cG F)] O [] _ rfl (by simp) fun a9 h1=>?_)
 refine mP (step 1 a9 _ _ _ h1 (by simp) fun b9 h2=>?_)
 refine mP (step 2 b9 _ _ _ h2 (by simp) fun gG h3=>?_)
 refine Bm (bK ?_);have Zj:O++[some (List.map V.int (rows0 F 0))]++[some (List.map V.int (rows0 F 1))]++[some (List.map V.int (rows0 F 2))]=fF O [rows0 F 0,rows0 F 1,rows0 F 2]:=by unfold fF;simp
 rw[Zj];have ev:(([]++[V.ml O.length]++[V.ml (O++[some (List.map V.int (rows0 F 0))]).length]++[V.ml (O++[some (List.map V.int (rows0 F 0))]++[some (List.map V.int (rows0 F 1))]).length]):List V)=vI O.length 3:=by simp[vI]
 rw[ev];k_upd;generalize Lk:set (bc [] [(ly,cG F),(kT,.list [.int a,.int b,.int c])]) 96 (V.list (vI O.length 3))=mu;have Lr:get mu 96=some (.list (vI O.length 3)):=by rw[←Lk];rfl
 have Zk:get mu 68=some (.list [.int a,.int b,.int c]):=by rw[←Lk];rfl
 try refine gN ?_
 k_upd;refine⟨.of (by simp),bK ?_⟩
 k_upd;refine V_at (v:=.int c) rfl (by simp) (.of (by simp)) ?_
 refine lq ⟨by exact Gi nT,by exact Gj nT,by simp;exact Gk nT⟩ ?_
 k_upd;refine⟨.of (by simp),bK ?_⟩
 k_upd;refine V_at (v:=.int b) rfl (by simp) (.of (by simp)) ?_
 refine lq ⟨by exact Gi hb,by exact Gj hb,by simp;exact Gk hb⟩ ?_
 refine sS ⟨by rw[sizeLine_eq];simp[eK];exact ag 0 2 (aa (aT (ai aJ aq) (ai aq dj)) (aa (aT (ai aJ aK) (ai aK dj)) (ae (aj (dz aK) (dz aq)) bq))) (by kd_p) hb nT⟩ ?_
 k_upd;refine⟨.of (by simp),bK ?_⟩
 k_upd;refine V_at (v:=.int a) rfl (by simp) (.of (by simp)) ?_
 refine lq ⟨by exact Gi ha,by exact Gj ha,by simp;exact Gk ha⟩ ?_
 refine sS ⟨by rw[sizeLine_eq];simp[eK];exact ag 0 3 (aa (aT (ai aJ aq) (ai aq dj)) (aa (aT (ai aJ aK) (ai aK dj)) (aa (aT (ai aJ cu) (ai cu dj)) (ae (aj (aj (dz cu) (dz aK)) (dz aq)) bq)))) (by kd_p) ha hb nT⟩ ?_
 refine⟨_,Iter.list,?_⟩;have el:times [V.int 3] c++times [V.int 2] b++times [V.int 1] a=(lettersOf a b c).map V.int:=by
  unfold lettersOf;simp[eK]
 rw[el];have ym:(lettersOf a b c).length≤300:=by
  unfold lettersOf;simp[eK];exact ag 0 3 (aa (aT (ai aJ aq) (ai aq dj)) (aa (aT (ai aJ aK) (ai aK dj)) (aa (aT (ai aJ cu) (ai cu dj)) (ae (aj (dz cu) (aj (dz aK) (dz aq))) cR)))) (by kd_p) ha hb nT
 refine dy (fun i ao ar=>ar=fF O (((lettersOf a b c).take i).foldl cX [rows0 F 0,rows0 F 1,rows0 F 2])∧get ao 96=some (.list (vI O.length 3))) (fun i x ao ar k hx hJ jI kF vH=>?_) (fun ao ar hJ=>?_) ⟨rfl,Lr⟩
 ·obtain⟨rfl,uC⟩:=hJ
  have hi:i<(lettersOf a b c).length:=by have:=(List.getElem?_eq_some_iff.mp hx).1;simpa using this
  have yk:x=.int (lettersOf a b c)[i]:=by
   rw[List.getElem?_map,List.getElem?_eq_getElem hi]at hx;simpa using hx.symm
  subst yk;have Lq:get (set ao 71 (.int (lettersOf a b c)[i])) nE=some (.int (lettersOf a b c)[i]):=gs;have Vq:get (set ao 71 (.int (lettersOf a b c)[i])) lA=some (.list (vI O.length 3)):=gn uC;refine ic (gN (bU Vq ⟨_,Iter.list,?_⟩));generalize Q0:List.foldl cX [rows0 F 0,rows0 F 1,rows0 F 2] ((lettersOf a b c).take i)=rs;have hlen:rs.length=3:=by rw[←Q0,iX];rfl
  have zO:∀r∈rs,r.length≤1000:=by
   intro r m;rw[←Q0]at m;have:=ki (M:=100) _ [rows0 F 0,rows0 F 1,rows0 F 2] (fun r m=>by
    have h0:=oY F 0;have h1:=oY F 1;have h2:=oY F 2;simp only[List.mem_cons,List.not_mem_nil,or_false]at m;rcases m with rfl|rfl|rfl<;>(first|exact Gl hF h0|exact Gl hF h1|exact Gl hF h2)) r m
   rw[List.length_take]at this;exact ag 3 0 (aa (ae af cR) (aa (ak ab af) (aa (ae au (aj cy (jP ab af))) (ae au bw)))) (by kd_p) ym hi this
  have:=pN hG (n:=n) (O:=O) (Q:=fun f Ir aA=>match f with | .next=>aX G bX (n+1) .nil Ir aA k|f=>k f Ir aA) rs [] (lettersOf a b c)[i] (set ao 71 (.int (lettersOf a b c)[i])) zO Lq (fun fJ h=>?_)
  ·rw[hlen]at this
   exact this
  ·refine eB (jI fJ _ ⟨?_,h.trans Vq⟩)
   rw[List.nil_append,List.take_add_one,List.getElem?_eq_getElem hi,Option.toList_some,List.foldl_append,Q0]
   rfl
 ·obtain⟨rfl,uC⟩:=hJ
  rw[List.length_map,List.take_length];refine ic (t4 (bU uC ?_));show ∃v',Res O.length _ (.list (vI O.length 3)) v'∧Q v' (List.take O.length _);have hp:List.foldl cX [rows0 F 0,rows0 F 1,rows0 F 2] (lettersOf a b c)=gB F a b c:=rfl;rw[hp];have Bo:(gB F a b c).length=3:=by rw[←hp,iX];rfl
  refine⟨.list ((gB F a b c).map fun r=>.list (r.map .int)),?_,?_⟩
  ·match hq:gB F a b c,Bo with
   |[r0,r1,r2],_=>
    refine .list rfl fun i x y hx hy=>?_
    match i,hx,hy with
    |0,hx,hy=>
     cases hx;cases hy;exact .ml (Nat.le_refl _) (mQ (i:=0) rfl)
    |1,hx,hy=>
     cases hx;cases hy;exact .ml (by exact ag 1 0 (ae ab (aj ab aC)) (by kd_p)) (mQ (i:=1) rfl)
    |2,hx,hy=>
     cases hx;cases hy;exact .ml (by exact ag 1 0 (ae ab (aj (aj ab aC) aC)) (by kd_p)) (mQ (i:=2) rfl)
    |i+3,hx,hy=>cases hx
  ·unfold fF
   rw[List.take_append_of_le_length (Nat.le_refl _),List.take_length];exact q
theorem uE(hG:bx G){n:Nat}{O:Mu}{Q:V→Mu→Prop}{F:List (List Int)}{a b c:Int}(hF:F.length≤100)(hc:∀x∈F,x.length≤100)(ha:0≤a∧a≤100)(hb:0≤b∧b≤100)(nT:0≤c∧c≤100)
  (q:Q (.list ((gB F a b c).map fun r=>.list (r.map .int))) O):aU G (n+2) (.ref 213) [cG F,.list [.int a,.int b,.int c]] [] O Q:=by
 refine x6 hG (st:=kE) (own:=vy) [(ly,cG F),(kT,.list [.int a,.int b,.int c])] (fun P ys ks B Z r rk=>?_) (uD hG hF hc ha hb nT q);refine aB.aN r ?_;intro y zz r1 r;refine aB.aN r ?_;intro z zz r2 r;refine aB.bE r ?_;refine aB.bE rk ?_;exact⟨[y,z],.cons r1 (.cons r2 .nil),fun S=>by kd_p⟩
noncomputable def Bq:Str:=⟨#[92]⟩
noncomputable def dh:Nat→Bool→List Nat→List (Int×Str)
 |i,fT,[]=>if fT then[((i:Int)-1,Bq)] else[]
 |i,true,c::cs=>((i:Int),Bq++⟨#[c]⟩)::dh (i+1) false cs
 |i,false,c::cs=>if c=92 then dh (i+1) true cs else((i:Int),⟨#[c]⟩)::dh (i+1) false cs
noncomputable def fO(x:Str):List (Int×Str):=dh 0 false x.cps.toList
noncomputable def yn:T:=.val (.var gx)
noncomputable def Oc:E:=.tup (.cons (.var dZ) (.cons (.bin .Add (.str "\\") (.var fk)) .nil))
noncomputable def Od:E:=.tup (.cons (.var dZ) (.cons (.var fk) .nil))
noncomputable def It:E:=.tup (.cons (.var dZ) (.cons (.str "\\") .nil))
structure mR(sc:Scope)(g:gm):Prop where
 s1:mE aI (.asg (.name dZ) (.int 0)) sc bI g.s1
 s2:mE aI (.asg (.name gx) (.bool false)) sc bI g.s2
 tg:HN aI sc bI (.g9 (.name dZ) (.name fk)) g.tg
 it:qq aI (.call (.glob fD) (.cons (.var eH) .nil)) sc g.it
 t1:xU aI yn sc g.t1
 e1:qq aI Oc sc g.e1
 sF:mE aI (.asg (.name gx) (.bool false)) sc bI g.sF
 t2:xU aI (.cmp .Eq (.var fk) (.str "\\")) sc g.t2
 sT:mE aI (.asg (.name gx) (.bool true)) sc bI g.sT
 e2:qq aI Od sc g.e2
 t3:xU aI yn sc g.t3
 e3:qq aI It sc g.e3
 kind:sc.kind=.function
 nc:∀p∈sc.names,p.2≠.cell
 co:sc.isCoroutine=false
noncomputable def Lu(P:Params):gm:=QH (du (ba (KP P) 28).body)
theorem Lv(P:Params):du (ba (KP P) 28).body=(Lu P).body (posOf (Lu P).ps):=by kd_p
theorem Vr(P:Params):(ba (KP P) 28).scope.names.all (fun p=>p.2 != .cell)=true:=by kd_p
theorem Iu(P:Params):mR (ba (KP P) 28).scope (Lu P):=
 ⟨⟨by kd_p,by kd_p⟩,⟨by kd_p,by kd_p⟩,⟨by kd_p,by kd_p⟩,    ⟨by kd_p,by kd_p⟩,⟨by kd_p,by kd_p⟩,⟨by kd_p,by kd_p⟩,⟨by kd_p,by kd_p⟩,⟨by kd_p,by kd_p⟩,⟨by kd_p,by kd_p⟩,⟨by kd_p,by kd_p⟩,⟨by kd_p,by kd_p⟩,⟨by kd_p,by kd_p⟩,by kd_p,(fun p m e=>by
   have:=List.all_eq_true.mp (Vr P) p m;rw[e]at this;cases this),by kd_p⟩
theorem mR.tup{sc:Scope}{g:gm}(h:mR sc g):∃a b c,g.tg=.Tuple a b c:=⟨_,_,_,h.tg.2.symm⟩
def wF(W:List Addr)(s0 s':Shared):Prop:=(∀b o,b∉W→s0.heap.get? b=some o→s'.heap.get? b=some o)∧Rest s0 s'
def Dd(G:dk)(W:List Addr)(s' di:Shared):Prop:=(∀a∈W,∀o,s'.heap.get? a=some o→di.heap.get? a=some o)∧oQ G di.heap
noncomputable def YP(G:dk)(W:List Addr)(its:List (Int×Str)):Protocol:=fun m s0 v s' EM=>
 ∃p T a b k,its[its.length-1-m]?=some p∧v=.ref T∧s'.heap.get? T=some (gY [.int p.1 a,.str p.2 b] k)∧wF W s0 s'∧(∀a∈W,∃o,s'.heap.get? a=some o)∧(T∉W∧(G.Bs T≠none∨s0.heap.get? T=none))∧∀di,Dd G W s' di→EM (.send .none) di
def PP(W:List Addr):Nat→Shared→Shared→Prop:=fun n s0 s'=>n=0∧wF W s0 s'
noncomputable abbrev RP(W:List Addr):GenEnd:=fun n s0 r s'=>r=.ok (.ret .none)∧PP W n s0 s'
noncomputable abbrev Iv:Flow→Sem Fin:=fun f=>.pure (.done (.ret (match f with | .ret v=>v|_=>.none)))
noncomputable abbrev rI(env:Env):Value→Sem Fin:=fun e=>(leaving env e).wrap (fun zz=>.raise e) .raise id id
theorem fS.Vs{T:Addr→Option Obj}{W:List Addr}{B:ay}{s0 s:Shared}(I:fS G T W B s0 s):wF W s0 s:=⟨I.keep,I.rest⟩
theorem wG{T:Addr→Option Obj}{W:List Addr}{B:ay}{s0 s:Shared}{its:List (Int×Str)}{m:Nat}{p:Int×Str}{v:Value}{EM:Resume→Shared→Prop}(I:fS G T W B s0 s)(hp:its[its.length-1-m]?=some p)(r:VR B [] (.tuple [.int p.1,.str p.2]) v)
  (hk:∀di,Dd G W s di→EM (.send .none) di):YP G W its m s0 v s EM:=by
 refine VR.NU r ?_;intro a vs n e l h;revert e;refine aB.aN ⟨l,h⟩ ?_;intro u us r1 rs;refine aB.aN rs ?_;intro t us r2 rs;refine aB.bE rs ?_;refine VR.bC r1 ?_;intro zz;refine VR.fQ r2 ?_;intro zz e;refine⟨p,a,_,_,n,hp,rfl,I.inv.holds _ _ e,I.Vs,fun b m=>(I.off b m).2.2,⟨fun m=>?_,I.fresh _ (by rw[e];simp)⟩,hk⟩
 rw[(I.off a m).1]at e;exact bk e
theorem ft{B:ay}{Z:List Addr}{O:Mu}{h:Heap}(I:Inv G B Z O h)(iy:O=[]):Z=[]:=by
 have:=I.len;rw[iy]at this;exact List.eq_nil_of_length_eq_zero this
theorem wF.refl(W:List Addr)(s:Shared):wF W s s:=⟨fun zz zz zz e=>e,.refl s⟩
theorem EN(hG:bx G){A:Around}{n:Nat}{env:Env}{sc:Scope}{g:gm}{p:Nat→Pos}{body:List Stmt}{W:List Addr}{its:List (Int×Str)}{s0 s:Shared}{T:Addr→Option Obj}{B:ay}{U:aw}{fT:Bool}{pos:Int}
  (hA:bY 3 (A.over (.func body env) []))(hs:env.scope=sc)(ok:mR sc g)(run:fS G T W B s0 s)(fr:bt (G.gen T) env B [] U s.heap)(Vt:get U 0=some (.bool fT))(tT:get U 1=some (.int pos))
  (hits:if fT then n=1∧its[its.length-1]?=some (pos,Bq) else n=0):
  Seg (model G.prog G.w) A (RP W) (YP G W its) n s0 (.func body env) ((execs (g.tail p) env).wrap Iv (rI env) id id) [] s:=by
 have hi:interactive env=false:=by unfold interactive;rw[hs,ok.kind];rfl
 have ue:env.scope.isCoroutine=false:=by rw[hs];exact ok.co
 refine seg_execs_cons (x7 (wpAny_mono (t5 (G:=G.gen T) (n:=3) hG.nm hG.gl yn ok.t3 hs (U:=U) (O:=[]) (Q:=fun b ar=>b=fT∧ar=[]) (tZ (bU Vt (iB ⟨rfl,rfl⟩))) _ hA B [] s run.inv fr) ?_ fun zz zz x=>x));rintro b s1 ⟨aA,B1,aE,⟨rfl,rfl⟩,P1⟩;have dJ:=ft P1.inv rfl;subst dJ;have rJ:=run.post P1 (fun zz m=>nomatch m);have Q1:=fr.same P1;cases b with
 |false=>
  simp only[Bool.false_eq_true,if_false]at hits;subst hits;exact seg_execs_nil (seg_execs_nil (seg_end (.ok (.ret .none)) ⟨rfl,rfl,rJ.Vs⟩))
 |true=>
  simp only[if_true]at hits;obtain⟨rfl,hp⟩:=hits;refine seg_execs_cons (seg_Expr_Yield rfl rfl rfl (wpAny_mono (zi (G:=G.gen T) (n:=3) hG.nm hG.gl It ok.e3 hs (U:=U) (O:=[]) (Q:=fun v ar=>v=.tuple [.int pos,.str Bq]∧ar=[]) ?_ _ hA B1 [] s1 rJ.inv Q1) ?_ fun zz zz x=>x.elim) ue hi)
  ·unfold It
   k_upd;exact⟨.of (by simp),rfl,rfl⟩
  ·rintro v s2 ⟨v',aZ,B2,aV,⟨rfl,rfl⟩,P2,r2⟩ EM hk
   have dJ:=ft P2.inv rfl;subst dJ;refine wG (rJ.post P2 (fun zz m=>nomatch m)) hp r2 fun di wk=>hk .none di ?_;exact seg_execs_nil (seg_execs_nil (seg_end (.ok (.ret .none)) ⟨rfl,rfl,wF.refl _ _⟩))
structure yo(G:dk)(env:Env)(W:List Addr)(e it:Addr)(x:Str)(tx:Tok)(i:Nat)(fT:Bool)(s0 s:Shared):Prop where
 ex:∃T B U,fS G T W B s0 s∧bt (G.gen T) env B [] U s.heap∧oS U∧get U 2=some (.str x)∧get U 0=some (.bool fT)∧get U 1=some (.int (if i=0 then 0 else(i:Int)-1))
 st:(∃old,IsEnum s.heap e it i old)∧s.heap.IsStrIter it (strIterType x) x tx i
 aae:fT=true→0<i
structure iY(G:dk)(env:Env)(W:List Addr)(e it:Addr)(x:Str)(tx:Tok)(i c:Nat)(fT:Bool)(s0 s:Shared):Prop where
 ex:∃T B U,fS G T W B s0 s∧bt (G.gen T) env B [] U s.heap∧oS U∧get U 2=some (.str x)∧get U 0=some (.bool fT)∧get U 1=some (.int i)∧get U 3=some (.str ⟨#[c]⟩)
 st:(∃old,IsEnum s.heap e it ((i+1:Nat):Int) old)∧s.heap.IsStrIter it (strIterType x) x tx (i+1)
theorem iY.wake(dS:∀a∈tabs,G.Bs a=none){env:Env}{W:List Addr}{e it:Addr}{x:Str}{tx:Tok}{i c:Nat}{fT:Bool}{s0 s di:Shared}(h:iY G env W e it x tx i c fT s0 s)(hc:env.cells=[])(hW:W=[env.locals,e,it])(Br:∀a∈W,G.Bs a=none)(wk:Dd G W s di):iY G env W e it x tx i c fT di di:=by
 obtain⟨⟨T,B,U,run,fr,dM,g2,g0,g1,g3⟩,⟨old,he⟩,fY⟩:=h;subst hW;have hL:∀o,s.heap.get? env.locals=some o→di.heap.get? env.locals=some o:=wk.1 _ (by simp)
 refine⟨⟨di.heap.get?,G.Bs,U,.start dS wk.2 fun a m=>?_,fr.reset dM hc hL (Br _ (by simp)) (fun m=>nomatch m),dM,g2,g0,g1,g3⟩,⟨old,wk.1 e (by simp) _ he⟩,?_⟩
 ·refine yU (run.off a m) ?_;intro zz ht o eo
  exact⟨Br a m,ht,o,wk.1 a m o eo⟩
 ·refine aW fY ?_;clear fY;intro o eo r
  exact⟨o,wk.1 it (by simp) o eo,r⟩
theorem yq{env:Env}(hc:env.cells=[])(own:List Nat):fa G env own=[env.locals]:=by
 unfold fa;rw[hc]
 congr 1
 induction own with
 |nil=>rfl
 |cons x r ih=>rw[List.filterMap_cons];exact ih
theorem pO{T:Addr→Option Obj}{W:List Addr}{B B':ay}{env:Env}{s0 s s':Shared}{own:List Nat}{aH:List Addr}{ar:Mu}{a:Addr}{o:Obj}(run:fS G T W B s0 s)(P:aG (G.gen T) (fa (G.gen T) env own) B [] s B' aH ar s')(hc:env.cells=[])(ha:a∈W)(hn:env.locals≠a)(eo:s.heap.get? a=some o):s'.heap.get? a=some o:=
 P.kept eo (by rw[yq hc];intro m;exact hn (List.mem_singleton.mp m).symm) (fun m=>nomatch m) (run.off a ha).2.1
theorem rK(hG:bx G){A:Around}{n:Nat}{env:Env}{sc:Scope}{st:Stmt}{b:Bool}{c0:Code}{fs:List Frame}{R:GenEnd}{Y:Protocol}{K:Flow→Sem Fin}{H:Value→Sem Fin}{W:List Addr}{e it:Addr}{x:Str}{tx:Tok}{i c:Nat}{fT:Bool}{s0 s1 s:Shared}
  (hA:bY 3 (A.over c0 fs))(hs:env.scope=sc)(hk:sc.kind=.function)(fY:mE aI (.asg (.name gx) (.bool b)) sc bI st)(hc:env.cells=[])(hW:W=[env.locals,e,it])(Bt:env.locals≠e)(zP:env.locals≠it)
  (h:iY G env W e it x tx i c fT s0 s)(hK:∀s',yo G env W e it x tx (i+1) b s0 s'→Seg (model G.prog G.w) A R Y n s1 c0 (K .next) fs s'):
  Seg (model G.prog G.w) A R Y n s1 c0 ((exec st env).wrap K H id id) fs s:=by
 obtain⟨⟨T,B,U,run,fr,dM,g2,g0,g1,g3⟩,⟨old,he⟩,hit⟩:=h;refine qB (wpAny_mono (HP (G:=G.gen T) (n:=3) hG.nm hG.gl (.asg (.name gx) (.bool b)) hk fY hs (U:=U) (O:=[]) (Q:=fun f ao ar=>f=.next∧ao=set U gx (.bool b)∧ar=[]) (wg (wd ⟨rfl,rfl,rfl⟩)) _ hA B [] s run.inv fr) ?_ fun zz zz x=>x)
 rintro f s' ⟨r,ao,ar,B',aH,⟨rfl,rfl,rfl⟩,P,F,rf⟩;cases rf;have dJ:=ft P.inv rfl;subst dJ;have Iw:∀a∈fa (G.gen T) env bI,a∈W:=by
  rw[yq hc,hW];intro a m;rw[List.mem_singleton.mp m];simp
 refine hK s' ⟨⟨T,B',_,run.post P Iw,F,dM.set .bool,?_,?_,?_⟩,⟨⟨old,pO run P hc (by rw[hW];simp) Bt he⟩,?_⟩,fun zz=>Nat.succ_pos _⟩
 ·rw[get_set];exact g2
 ·rw[get_set];rfl
 ·rw[get_set,if_neg (Nat.succ_ne_zero i)]
  refine(show get U 1=_ from g1).trans ?_
  congr 2;exact M0
 ·refine aW hit ?_;clear hit;intro o eo r
  exact⟨o,pO run P hc (by rw[hW];simp) zP eo,r⟩
theorem iY.loop{env:Env}{W:List Addr}{e it:Addr}{x:Str}{tx:Tok}{i c:Nat}{fT:Bool}{s0 s:Shared}(h:iY G env W e it x tx i c fT s0 s):yo G env W e it x tx (i+1) fT s0 s:=by
 obtain⟨⟨T,B,U,run,fr,dM,g2,g0,g1,g3⟩,fY⟩:=h;refine⟨⟨T,B,U,run,fr,dM,g2,g0,?_⟩,fY,fun zz=>Nat.succ_pos _⟩;rw[if_neg (Nat.succ_ne_zero i)];refine g1.trans ?_
 congr 2;exact M0
theorem rL(hG:bx G)(dS:∀a∈tabs,G.Bs a=none){A:Around}{n:Nat}{env:Env}{sc:Scope}{E1:E}{x1:Expr}{yp ep:Pos}{c0:Code}{fs:List Frame}{K:Flow→Sem Fin}{H:Value→Sem Fin}{W:List Addr}{its:List (Int×Str)}{e it:Addr}{x:Str}{tx:Tok}{i c:Nat}{fT:Bool}{q:Int×Str}{s0 s:Shared}
  (hA:bY 3 (A.over c0 fs))(hs:env.scope=sc)(hk:sc.kind=.function)(ue:sc.isCoroutine=false)(hf:splitAtGen fs=none)(Zl:fs.any Frame.guarded=false)(hE:qq aI E1 sc x1)
  (hw:∀T (U:aw) (Q:V→Mu→Prop),get U 1=some (.int i)→get U 3=some (.str ⟨#[c]⟩)→Q (.tuple [.int q.1,.str q.2]) []→cC (G.gen T) bX 3 E1 U [] Q)
  (hc:env.cells=[])(hW:W=[env.locals,e,it])(Br:∀a∈W,G.Bs a=none)(hq:its[its.length-1-n]?=some q)
  (h:iY G env W e it x tx i c fT s0 s)(hK:∀di,iY G env W e it x tx i c fT di di→Seg (model G.prog G.w) A (RP W) (YP G W its) n di c0 (K .next) fs di):
  Seg (model G.prog G.w) A (RP W) (YP G W its) (n+1) s0 c0 ((exec (.Expr (.Yield (some x1) yp) ep) env).wrap K H id id) fs s:=by
 obtain⟨⟨T,B,U,run,fr,dM,g2,g0,g1,g3⟩,⟨old,he⟩,hit⟩:=h;have hi:interactive env=false:=by unfold interactive;rw[hs,hk];rfl
 refine seg_Expr_Yield hf rfl Zl (wpAny_mono (zi (G:=G.gen T) (n:=3) hG.nm hG.gl E1 hE hs (U:=U) (O:=[]) (Q:=fun v ar=>v=.tuple [.int q.1,.str q.2]∧ar=[]) (hw T U _ g1 g3 ⟨rfl,rfl⟩) _ hA B [] s run.inv fr) ?_ fun zz zz x=>x.elim) (by rw[hs];exact ue) hi
 rintro v s2 ⟨v',aZ,B2,aV,⟨rfl,rfl⟩,P2,r2⟩ EM gL;have dJ:=ft P2.inv rfl;subst dJ;have oa:=run.post P2 (fun zz m=>nomatch m);have Iy:∀a∈W,∀o,s.heap.get? a=some o→s2.heap.get? a=some o:=fun a m o eo=>P2.kept eo (fun m=>nomatch m) (fun m=>nomatch m) (run.off a m).2.1;have mid:iY G env W e it x tx i c fT s0 s2:=⟨⟨T,B2,U,oa,fr.same P2,dM,g2,g0,g1,g3⟩,⟨old,Iy e (by rw[hW];simp) _ he⟩,by
  refine aW hit ?_;clear hit;intro o eo r;exact⟨o,Iy it (by rw[hW];simp) o eo,r⟩⟩
 exact wG oa hq r2 fun di wk=>gL .none di (hK di (mid.wake dS hc hW Br wk))
theorem yr(c:Nat):((⟨#[c]⟩:Str)==Str.ofString "\\")=decide (c=92):=by
 by_cases h:c=92
 ·subst h;rfl
 ·have:((⟨#[c]⟩:Str)==Str.ofString "\\")=false:=by
   apply beq_eq_false_iff_ne.mpr;intro e;have e':(⟨#[c]⟩:Str)=⟨#[92]⟩:=e;simp at e';exact h e'
  rw[this];simp[h]
noncomputable abbrev wH(g:gm)(p:Nat→Pos)(env:Env):Flow→Sem Fin:=fun f=>match f with
 |.next=>(execs (g.tail p) env).wrap Iv (rI env) id id
 |f=>Iv f
theorem EO(hG:bx G)(dS:∀a∈tabs,G.Bs a=none){A:Around}{env:Env}{sc:Scope}{g:gm}{p:Nat→Pos}{p0:Pos}{body:List Stmt}{W:List Addr}{its:List (Int×Str)}{e it:Addr}{x:Str}{tx:Tok}
  (Lw:bY 3 (A.over (.func body env) []))(vJ:bY 4 (A.over (.forLoop g.tg (.ref e) (g.inner p) [] env) [je env (wH g p env) (rI env) id id (.func body env) p0]))
  (hs:env.scope=sc)(ok:mR sc g)(hc:env.cells=[])(hW:W=[env.locals,e,it])(Br:∀a∈W,G.Bs a=none)(Q2:e≠it)(Bt:env.locals≠e)(zP:env.locals≠it)(hx:x.cps.all (· < 128)=true):
  ∀ (cs:List Nat) (i:Nat) (fT:Bool) (n:Nat) (s0 s:Shared),i≤x.cps.size→x.cps.toList.drop i=cs→yo G env W e it x tx i fT s0 s→n=(dh i fT cs).length→its.drop (its.length-n)=dh i fT cs→n≤its.length→
   Seg (model G.prog G.w) A (RP W) (YP G W its) n s0 (.forLoop g.tg (.ref e) (g.inner p) [] env) ((model G.prog G.w).den (.forLoop g.tg (.ref e) (g.inner p) [] env)) [je env (wH g p env) (rI env) id id (.func body env) p0] s:=by
 have Ql:strIterType x="str_ascii_iterator":=by unfold strIterType;rw[if_pos hx]
 have eW:e∈W:=by rw[hW];simp
 have iW:it∈W:=by rw[hW];simp
 have LW:env.locals∈W:=by rw[hW];simp
 intro cs
 induction cs with
 |nil=>
  intro i fT n s0 s hi hd ⟨⟨T,B,U,run,fr,dM,g2,g0,g1⟩,⟨⟨old,he⟩,fY⟩,h0⟩ hn hits pP;have AD:x.cps[i]?=none:=by
   have:x.cps.toList.length≤i:=List.drop_eq_nil_iff.mp hd;simpa using this
  refine pJ (vD vJ.handled he (Ql▸fY) AD fun h' hk hh=>?_);have run':fS G T W B s0 {s with heap:=h',toks:=s.toks}:=run.raw (fun b o hb e=>hk b o (fun q=>hb (q▸iW)) e) (fun a m=>by
   by_cases q:a=it
   ·subst q;exact hh
   ·refine yU (run.off a m) ?_;intro zz zz o eo;exact⟨o,hk a o q eo⟩)
  have PU:bt (G.gen T) env B [] U h':=fr.reset dM hc (fun o e=>hk _ o zP e) (run.off _ LW).1 (fun m=>nomatch m);refine vC (EN hG (s:={s with heap:=h'}) Lw hs ok run' PU g0 g1 ?_)
  cases fT with
  |false=>
   simp only[Bool.false_eq_true,if_false];rw[hn];rfl
  |true=>
   simp only[if_true];have Zm:=h0 rfl;have en:n=1:=by rw[hn];rfl
   subst en;refine⟨rfl,?_⟩;rw[if_neg (by exact ag 1 0 (aa (ak b6 ab) (dH (ax ab b6))) (by kd_p) Zm)]
   have:(its.drop (its.length-1))[0]?=some ((i:Int)-1,Bq):=by rw[hits];rfl
   rw[List.getElem?_drop]at this;exact this
 |cons c cs ih=>
  intro i fT n s0 s hi hd ⟨⟨T,B,U,run,fr,dM,g2,g0,g1⟩,⟨⟨old,he⟩,fY⟩,h0⟩ hn hits pP;have bA:i<x.cps.size:=by
   have h1:(x.cps.toList.drop i).length=(c::cs).length:=by rw[hd]
   simp at h1;exact Ta hi h1
  have Zn:x.cps[i]?=some c:=by
   have h1:(x.cps.toList.drop i)[0]?=some c:=by rw[hd];rfl
   rw[List.getElem?_drop]at h1;simpa using h1
  have fK:x.cps.toList.drop (i+1)=cs:=by
   have:(x.cps.toList.drop i).drop 1=cs:=by rw[hd];rfl
   rw[List.drop_drop]at this;exact this
  refine pJ (wpAny_pyNext_enum_itemD (Draws.U6 (show(A.over _ _).in1.handled=none from vJ.handled) it x tx) he fY bA Q2 (by simpa using Q2) fun xv h' tk hP ho pg hT bG hk=>?_)
  refine jX hP ?_;clear hP;intro c' u xB z1;subst z1;rw[Zn]at xB;cases Option.some.inj xB;refine Gz ok.tup ?_;intro ta tb Zo EP;have elt:e<s.heap.objs.size:=Heap.lt_size he;have Zp:it<s.heap.objs.size:=by refine aW fY ?_;clear fY;intro o eo zz;exact Heap.lt_size eo
  have Lx:env.locals<s.heap.objs.size:=by refine aW fr.ns ?_;intro zz z1;obtain⟨o,_,_,eo,_⟩:=z1;intro zz;exact Heap.lt_size eo
  have go:=wpAny_letOwnedTupleGo_enum (prog:=G.prog) (w:=G.w) (A:=A.over (.forLoop g.tg (.ref e) (g.inner p) [] env) [je env (wH g p env) (rI env) id id (.func body env) p0]) (E:=bM) (s:={s with heap:=h',toks:=tk+1}) (elts:=ta) (x1:=tb) (pos:=Zo) ho (Q:=fun zz s2=>wpAny (model G.prog G.w) (A.over (.forLoop g.tg (.ref e) (g.inner p) [] env) [je env (wH g p env) (rI env) id id (.func body env) p0]) (assign g.tg env (.ref s.heap.objs.size)) (fun zz s3=>
      Seg (model G.prog G.w) A (RP W) (YP G W its) n s0 (.forLoop g.tg (.ref e) (g.inner p) [] env) ((execs (g.inner p) env).wrap (Ba g.tg (.ref e) (g.inner p) [] env) (Bb env) id id) [je env (wH g p env) (rI env) id id (.func body env) p0] s3) bM s2) fun ky Oe zQ=>?_
  ·rw[←EP]at go
   exact go
  have zQ:Heap.SameBut e h' ky:=zQ;have iQ:∀b o,b≠e→b≠it→s.heap.get? b=some o→ky.get? b=some o:=fun b o h1 h2 eo=>(zQ.2 b h1).trans (hk b o h1 h2 eo);have yt:ky.IsStrIter it (strIterType x) x tx (i+1):=by
   refine aW pg ?_;clear pg;intro o eo r;exact⟨o,(zQ.2 it (Ne.symm Q2)).trans eo,r⟩
  have Vu:ky.get? s.heap.objs.size=some (gY [.int i tk,.str ⟨#[c]⟩ u] 0):=(zQ.2 _ (Nat.ne_of_gt elt)).trans hT;have oa:fS G T W B s0 {s with heap:=ky,toks:=tk+1}:=run.raw (fun b o hb eo=>iQ b o (fun q=>hb (q▸eW)) (fun q=>hb (q▸iW)) eo) (fun a m=>by
   rw[hW]at m;simp only[List.mem_cons,List.not_mem_nil,or_false]at m;rcases m with rfl|rfl|rfl
   ·refine yU (run.off _ LW) ?_;intro zz zz o eo;exact⟨o,iQ _ o Bt zP eo⟩
   ·exact⟨_,Oe⟩
   ·refine aW yt ?_;clear yt;intro o eo zz;exact⟨o,eo⟩)
  have Iz:bt (G.gen T) env B [] U ky:=fr.reset dM hc (fun o eo=>iQ _ o Bt zP eo) (run.off _ LW).1 (fun m=>nomatch m);have BT:B s.heap.objs.size=none:=run.inv.old (Nat.le_refl _);have TT:s.heap.objs.size∉tabs:=fun m=>by
   refine aW (run.inv.tab _ m) ?_;intro o zz eo;exact Nat.lt_irrefl _ (Heap.lt_size eo)
  have I3:Inv (G.gen T) (B.add s.heap.objs.size (gY [.int i tk,.str ⟨#[c]⟩ u] 0)) [] [] ky:=oa.inv.adopt ⟨BT,(fun m=>nomatch m),TT⟩ Vu;have IA:∀a,a≠s.heap.objs.size→B.add s.heap.objs.size (gY [.int i tk,.str ⟨#[c]⟩ u] 0) a=B a:=fun a q=>by unfold ay.add;rw[if_neg q]
  have WT:∀a∈W,a≠s.heap.objs.size:=fun a m=>by
   rw[hW]at m;simp only[List.mem_cons,List.not_mem_nil,or_false]at m;rcases m with rfl|rfl|rfl
   ·exact Nat.ne_of_lt Lx
   ·exact Nat.ne_of_lt elt
   ·exact Nat.ne_of_lt Zp
  have De:fS G T W (B.add s.heap.objs.size (gY [.int i tk,.str ⟨#[c]⟩ u] 0)) s0 {s with heap:=ky,toks:=tk+1}:=⟨I3,oa.keep,oa.rest,fun a m=>⟨(IA a (WT a m)).trans (oa.off a m).1,(oa.off a m).2⟩,fun a ha=>by
   by_cases q:a=s.heap.objs.size
   ·subst q
    refine .inr ?_;cases z:s0.heap.get? s.heap.objs.size with
    |none=>rfl
    |some o=>exact absurd (Heap.lt_size (run.keep _ o (fun m=>WT _ m rfl) z)) (Nat.lt_irrefl _)
   ·rw[IA a q]at ha;exact oa.fresh a ha⟩
  have IB:bt (G.gen T) env (B.add s.heap.objs.size (gY [.int i tk,.str ⟨#[c]⟩ u] 0)) [] U ky:=Iz.reset dM hc (fun zz e=>e) ((IA _ (WT _ LW)).trans (run.off _ LW).1) (fun m=>nomatch m);have vr:VR (B.add s.heap.objs.size (gY [.int i tk,.str ⟨#[c]⟩ u] 0)) [] (.tuple [.int i,.str ⟨#[c]⟩]) (.ref s.heap.objs.size):=.newTuple (ay.c9 ..) (.cons .int (.cons .str .nil));refine wpAny_mono (HO (G:=G.gen T) (n:=3) hG.nm hG.gl (.g9 (.name dZ) (.name fk)) ok.tg hs (U:=U) (O:=[]) (R:=fun ao ar=>ao=set (set U dZ (.int i)) fk (.str ⟨#[c]⟩)∧ar=[]) (ny rfl (gw (gw ⟨rfl,rfl⟩))) _ (vJ.le (by decide)) _ [] _ (.ref s.heap.objs.size) I3 IB vr) ?_ fun zz zz x=>x
  rintro zz s4 ⟨ph,oy,B4,fy,⟨rfl,rfl⟩,P4,F4⟩;have dJ:=ft P4.inv rfl;subst dJ;have Iw:∀a∈fa (G.gen T) env bI,a∈W:=by
   rw[yq hc];intro a m;rw[List.mem_singleton.mp m];exact LW
  have IC:=De.post P4 Iw;have mid:iY G env W e it x tx i c fT s0 s4:=by
   refine⟨⟨T,B4,_,IC,F4,(dM.set .int).set .str,?_,?_,?_,?_⟩,⟨_,pO De P4 hc eW Bt Oe⟩,?_⟩
   ·rw[get_set,get_set];exact g2
   ·rw[get_set,get_set];exact g0
   ·rw[get_set,get_set];rfl
   ·rw[get_set];rfl
   ·refine aW yt ?_;clear yt;intro o eo r
    exact⟨o,pO De P4 hc iW zP eo,r⟩
  clear vr IB De I3 Iz oa;have ER:bY 3 (A.over (.forLoop g.tg (.ref e) (g.inner p) [] env) [je env (wH g p env) (rI env) id id (.func body env) p0]):=vJ.le (by decide)
  have Vv:get (set (set U dZ (.int i)) fk (.str ⟨#[c]⟩)) 0=some (.bool fT):=by rw[get_set,get_set];exact g0
  have Lo:get (set (set U dZ (.int i)) fk (.str ⟨#[c]⟩)) 3=some (.str ⟨#[c]⟩):=gs;refine seg_execs_cons (x7 (wpAny_mono (t5 (G:=G.gen T) (n:=3) hG.nm hG.gl yn ok.t1 hs (O:=[]) (Q:=fun b ar=>b=fT∧ar=[]) (tZ (bU Vv (iB ⟨rfl,rfl⟩))) _ ER B4 [] s4 P4.inv F4) ?_ fun zz zz x=>x));rintro b s5 ⟨DZ,B5,iN,⟨rfl,rfl⟩,P5⟩;have dJ:=ft P5.inv rfl;subst dJ;have ID:∀a∈W,∀o,s4.heap.get? a=some o→s5.heap.get? a=some o:=fun a m o eo=>P5.kept eo (fun m=>nomatch m) (fun m=>nomatch m) (IC.off a m).2.1;have Df:iY G env W e it x tx i c b s0 s5:=by
   obtain⟨IE,H4⟩:=mid.st.1;refine aW mid.st.2 ?_;intro o eo r;refine⟨⟨T,B5,_,IC.post P5 (fun zz m=>nomatch m),F4.same P5,(dM.set .int).set .str,?_,Vv,?_,Lo⟩,⟨IE,ID e eW _ H4⟩,o,ID it iW o eo,r⟩
   ·rw[get_set,get_set];exact g2
   ·rw[get_set,get_set];rfl
  cases b with
  |true=>
   obtain⟨m,rfl⟩:∃m,n=m+1:=⟨(dh (i+1) false cs).length,hn⟩;have ew:m=(dh (i+1) false cs).length:=by simpa[dh] using hn
   have hq:its[its.length-1-m]?=some ((i:Int),Bq++⟨#[c]⟩):=by
    have:(its.drop (its.length-(m+1)))[0]?=some ((i:Int),Bq++⟨#[c]⟩):=by rw[hits];rfl
    rw[List.getElem?_drop]at this;rw[show its.length-1-m=its.length-(m+1)+0 by exact M1 pP hn ew]
    exact this
   have Bu:its.drop (its.length-m)=dh (i+1) false cs:=by
    have:(its.drop (its.length-(m+1))).drop 1=dh (i+1) false cs:=by rw[hits];rfl
    rw[List.drop_drop]at this;rw[show its.length-m=its.length-(m+1)+1 by exact M3 pP hn ew]
    exact this
   refine seg_execs_cons (rL hG dS ER hs ok.kind ok.co rfl rfl ok.e1 (fun T' ao Q h1 h3 q=>?_) hc hW Br hq Df fun di Vw=>?_)
   ·unfold Oc
    refine tX (gj (bU h1 (gj (zd (tW (bU h3 (ja (lY.small (by decide) (by show(1:Nat)≤_;decide)) (kP ⟨.of (by simp),q⟩))))))))
   ·refine seg_execs_cons (rK hG ER hs ok.kind ok.sF hc hW Bt zP Vw fun s' L=>?_)
    exact seg_execs_nil (seg_execs_nil (seg_again rfl (ih (i+1) false m di s' (by exact F9 bA) fK L ew Bu (by exact M4 pP hn ew))))
  |false=>
   have Q3:=Df;obtain⟨⟨T6,B6,Vx,IF,Vy,Vz,k2,k0,k1,k3⟩,_⟩:=Q3;refine seg_execs_cons (x7 (wpAny_mono (t5 (G:=G.gen T6) (n:=3) hG.nm hG.gl (.cmp .Eq (.var fk) (.str "\\")) ok.t2 hs (U:=Vx) (O:=[]) (Q:=fun b ar=>b=decide (c=92)∧ar=[]) (zg (bU k3 (tW (Hp (iB ⟨yr c,rfl⟩))))) _ ER B6 [] s5 IF.inv Vy) ?_ fun zz zz x=>x));rintro b s7 ⟨PQ,B7,DM,⟨hb,rfl⟩,P7⟩;have dJ:=ft P7.inv rfl;subst dJ;have IG:∀a∈W,∀o,s5.heap.get? a=some o→s7.heap.get? a=some o:=fun a m o eo=>P7.kept eo (fun m=>nomatch m) (fun m=>nomatch m) (IF.off a m).2.1;have Of:iY G env W e it x tx i c false s0 s7:=by
    obtain⟨IE,H4⟩:=Df.st.1;refine aW Df.st.2 ?_;intro o eo r;exact⟨⟨T6,B7,_,IF.post P7 (fun zz m=>nomatch m),Vy.same P7,Vz,k2,k0,k1,k3⟩,⟨IE,IG e eW _ H4⟩,o,IG it iW o eo,r⟩
   cases b with
   |true=>
    have IH:c=92:=of_decide_eq_true hb.symm;have ee:dh i false (c::cs)=dh (i+1) true cs:=by rw[dh,if_pos IH]
    rw[ee]at hn hits;refine seg_execs_cons (rK hG ER hs ok.kind ok.sT hc hW Bt zP Of fun s' L=>?_);exact seg_execs_nil (seg_execs_nil (seg_again rfl (ih (i+1) true n s0 s' (by exact F9 bA) fK L hn hits pP)))
   |false=>
    have IH:¬ c=92:=of_decide_eq_false hb.symm;have ee:dh i false (c::cs)=((i:Int),⟨#[c]⟩)::dh (i+1) false cs:=by rw[dh,if_neg IH]
    rw[ee]at hn hits;obtain⟨m,rfl⟩:∃m,n=m+1:=⟨(dh (i+1) false cs).length,hn⟩;have ew:m=(dh (i+1) false cs).length:=by simpa using hn
    have hq:its[its.length-1-m]?=some ((i:Int),⟨#[c]⟩):=by
     have:(its.drop (its.length-(m+1)))[0]?=some ((i:Int),(⟨#[c]⟩:Str)):=by rw[hits];rfl
     rw[List.getElem?_drop]at this;rw[show its.length-1-m=its.length-(m+1)+0 by exact M1 pP hn ew]
     exact this
    have Bu:its.drop (its.length-m)=dh (i+1) false cs:=by
     have:(its.drop (its.length-(m+1))).drop 1=dh (i+1) false cs:=by rw[hits];rfl
     rw[List.drop_drop]at this;rw[show its.length-m=its.length-(m+1)+1 by exact M3 pP hn ew]
     exact this
    refine seg_execs_cons (rL hG dS ER hs ok.kind ok.co rfl rfl ok.e2 (fun T' ao Q h1 h3 q=>?_) hc hW Br hq Of fun di VA=>?_)
    ·unfold Od
     exact tX (gj (bU h1 (gj (bU h3 (kP ⟨.of (by simp),q⟩)))))
    ·exact seg_execs_nil (seg_execs_nil (seg_again rfl (ih (i+1) false m di di (by exact F9 bA) fK VA.loop ew Bu (by exact M4 pP hn ew))))
theorem Bv{n:Nat}{A:Around}{b:List Stmt}{env:Env}(hA:bY (n+1) A):bY n (A.over (.func b env) []):=
 ⟨hA.handled,by have:=hA.depth;show A.depth+0+1+n≤900;exact ag 2 0 (aa (ae (aj af (aj ab aC)) dX) (ae (aj (aj (aj af b6) aC) ab) dX)) (by kd_p) this,by have:=hA.units;show A.units+0+3+16*n≤9000;exact ag 2 0 (aa (ae (aj af (cY 16 (aj ab aC))) c7) (ae (aj (aj (aj af b6) cm) (cY 16 ab)) c7)) (by kd_p) this,by
  show pushGuards (Code.guards (.func b env)) (pushGuards [] A.guards)=some [];rw[hA.guards];rfl⟩
theorem Bw{n:Nat}{A:Around}{b:List Stmt}{env:Env}{t:Expr}{it:Value}{bd:List Stmt}{K:Flow→Sem Fin}{H:Value→Sem Fin}{p:Pos}(hA:bY (n+1) A):bY n (A.over (.forLoop t it bd [] env) [je env K H id id (.func b env) p]):=
 ⟨hA.handled,by have:=hA.depth;show A.depth+1+0+n≤900;exact ag 2 0 (aa (ae (aj af (aj ab aC)) dX) (ae (aj (aj (aj af aC) b6) ab) dX)) (by kd_p) this,by have:=hA.units;show A.units+3+0+16*n≤9000;exact ag 2 0 (aa (ae (aj af (cY 16 (aj ab aC))) c7) (ae (aj (aj (aj af cm) b6) (cY 16 ab)) c7)) (by kd_p) this,by
  show pushGuards (Code.guards (.forLoop t it bd [] env)) (pushGuards (guardsOf [(.func b env,p)]) A.guards)=some [];rw[hA.guards];rfl⟩
theorem oZ{T:Addr→Option Obj}{A:Around}{E:Value→Shared→Prop}{env:Env}{B:ay}{U:aw}{s:Shared}{x:Nat}{v:V}{u:Value}{Q:Unit→Shared→Prop}(F:bt (G.gen T) env B [] U s.heap)(hc:env.cells=[])(hk:env.kindOf (G.nm x)=some .local)(r:VR B [] v u)
  (hQ:∀h' tk,Heap.SameBut env.locals s.heap h'→bt (G.gen T) env B [] (set U x v) h'→Q () {s with heap:=h',toks:=tk}):wpAny (model G.prog G.w) A (storeName env (G.nm x) u) Q E s:=by
 refine aW F.ns ?_;intro m hn hm;refine wpAny_storeName_local hk hn (fun h' ew hs=>hQ h' _ hs ⟨F.kind,F.gl,F.bi,⟨_,ew,fun y w hy AA=>?_⟩,fun y w hy=>?_,F.cU,fun n c m=>?_,F.inj,F.all⟩) (by rw[F.kind];rfl)
 ·rw[get_set]at hy
  by_cases q:x=y
  ·subst q;rw[if_pos rfl]at hy;cases Option.some.inj hy;exact⟨u,if_pos rfl,r⟩
  ·rw[if_neg q]at hy
   refine aW (hm y w hy AA) ?_;intro z h1 h2;exact⟨z,(if_neg fun e=>q (G.inj _ _ e).symm).trans h1,h2⟩
 ·rw[get_set]at hy
  by_cases q:x=y
  ·subst q;exact .inl hk
  ·rw[if_neg q]at hy
   rcases F.cl y w hy with h|⟨_,c,z,h2,_⟩
   ·exact .inl h
   ·rw[hc]at h2;cases h2
 ·rw[hc]at m;cases m
theorem qJ{sc:Scope}{own:List Nat}{y:Nat}{env:Env}(hG:bx G)(hs:env.scope=sc)(nc:∀p∈sc.names,p.2≠.cell)(h:jT aI sc own y=true):env.kindOf (G.nm y)=some .local:=by
 have:=(fA (G:=G) (env:=env) hs hG.nm h).2;rcases this with z|z
 ·exact z
 ·have:sc.names.lookup (G.nm y)=some .cell:=by
   unfold Env.kindOf at z;rw[hs]at z;exact z
  exact absurd rfl (nc _ (mem_of_lookupK this))
theorem yu(hG:bx G){T:Addr→Option Obj}{A:Around}{env:Env}{B:ay}{U:aw}{s:Shared}{sc:Scope}{own:List Nat}{y:Nat}{i:Int}{st:Stmt}{Q:Flow→Shared→Prop}(h:mE aI (.asg (.name y) (.int i)) sc own st)(hs:env.scope=sc)(nc:∀p∈sc.names,p.2≠.cell)(hc:env.cells=[])(F:bt (G.gen T) env B [] U s.heap)
  (hQ:∀h' tk,Heap.SameBut env.locals s.heap h'→bt (G.gen T) env B [] (set U y (.int i)) h'→Q .next {s with heap:=h',toks:=tk}):wpAny (model G.prog G.w) A (exec st env) Q bM s:=by
 rw[←h.2];refine wpAny_Assign_Name (wpAny_Constant_int ?_) rfl;rw[←hG.nm];exact oZ F hc (qJ hG hs nc (aL (aL (aL h.1)))) .int hQ
theorem vK(hG:bx G){T:Addr→Option Obj}{A:Around}{env:Env}{B:ay}{U:aw}{s:Shared}{sc:Scope}{own:List Nat}{y:Nat}{i:Bool}{st:Stmt}{Q:Flow→Shared→Prop}(h:mE aI (.asg (.name y) (.bool i)) sc own st)(hs:env.scope=sc)(nc:∀p∈sc.names,p.2≠.cell)(hc:env.cells=[])(F:bt (G.gen T) env B [] U s.heap)
  (hQ:∀h' tk,Heap.SameBut env.locals s.heap h'→bt (G.gen T) env B [] (set U y (.bool i)) h'→Q .next {s with heap:=h',toks:=tk}):wpAny (model G.prog G.w) A (exec st env) Q bM s:=by
 rw[←h.2];refine wpAny_Assign_Name (wpAny_Constant_bool ?_) rfl;rw[←hG.nm];exact oZ F hc (qJ hG hs nc (aL (aL (aL h.1)))) .bool hQ
theorem ES(hG:bx G){T:Addr→Option Obj}{A:Around}{env:Env}{B:ay}{U:aw}{s:Shared}{sc:Scope}{g:gm}{x:Str}{Q:Value→Shared→Prop}(ok:mR sc g)(hs:env.scope=sc)(hc:env.cells=[])(Ly:∀a o,G.Bs a=some o→s.heap.get? a=some o)(F:bt (G.gen T) env B [] U s.heap)(hx:get U 2=some (.str x))
  (hQ:∀tx h',IsEnum h' (s.heap.objs.size+1) s.heap.objs.size 0 .none→h'.IsStrIter s.heap.objs.size (strIterType x) x tx 0→h'.objs.size=s.heap.objs.size+2→(∀b o,s.heap.get? b=some o→h'.get? b=some o)→Q (.ref (s.heap.objs.size+1)) {s with heap:=h'}):
  wpAny (model G.prog G.w) A (eval g.it env) Q bM s:=by
 rw[←ok.it.2];have he:∀pf pa p,eval (.Call (.Name (aI fD) pf) [.Name (aI eH) pa] [] p) env=(do callWith p (←eval (.Name (aI fD) pf) env) [] (backTo p (starEach [.Name (aI eH) pa] env)) (backToKw p (keywordEach [] env))):=fun zz zz zz=>rfl
 show wpAny _ _ (eval (.Call (.Name (aI fD) _) [.Name (aI eH) _] [] _) env) _ _ _;rw[he];rw[←hG.nm,←hG.nm];have kg:env.kindOf (G.nm fD)=some .globalImplicit:=by
  unfold Env.kindOf;rw[hs,hG.nm];exact nu (aL ok.it.1)
 refine wpAny_bind (Name_function_global F.kind kg (G.load (hG.gl fD _ rfl) F.gl F.bi Ly ?_) (G.odd _).1);have vL:∀pa,eG [.Name (G.nm eH) pa] env:=fun zz=>rfl;refine callWith_of (P:=fun zz=>True) (by rw[plain_any (vL _),ni _ _ _ rfl];rfl) (fun zz zz=>⟨.machine,.inr (.inl rfl),Looks.of_pure rfl⟩) (iE (kws:=[]) (vL _) rfl ?_)
 refine wpAny_items_cons ?_ rfl;refine wpAny_Name ?_ (G.odd _).1;rcases F.cl 2 _ hx with hl|⟨_,c,u,nT,_⟩
 ·refine aW F.ns ?_;intro m hn hm
  refine aW (hm 2 _ hx hl) ?_;intro u hu r;refine wpAny_loadName_local F.kind hl hn hu ?_;refine VR.fQ r ?_;intro zz;refine wpAny_items_nil (kwAll_nil ⟨trivial,?_⟩);exact call_enumerate_str fun h' a b c d=>hQ _ h' a b c d
 ·rw[hc]at nT;cases nT
theorem yv(x:Str):oS [(2,.str x)]:=fun y v e=>by
 rw[nH]at e
 by_cases q:2=y
 ·rw[if_pos q]at e;cases Option.some.inj e;exact .str
 ·rw[if_neg q,get_nil]at e;exact bk e
theorem Bx(hG:bx G)(dS:∀a∈tabs,G.Bs a=none){A:Around}{env:Env}{sc:Scope}{g:gm}{p:Nat→Pos}{x:Str}{s:Shared}{T0:Addr→Option Obj}
  (hA:bY 6 A)(hs:env.scope=sc)(ok:mR sc g)(hc:env.cells=[])(hb:oQ G s.heap)(fr:bt (G.gen T0) env G.Bs [] [(2,.str x)] s.heap)(ET:G.Bs env.locals=none)(VB:env.locals∉tabs)(hx:x.cps.all (· < 128)=true):
  Seg (model G.prog G.w) A (RP [env.locals,s.heap.objs.size+1,s.heap.objs.size]) (YP G [env.locals,s.heap.objs.size+1,s.heap.objs.size] (fO x)) (fO x).length s (.func (g.body p) env) ((model G.prog G.w).den (.func (g.body p) env)) [] s:=by
 have Lx:env.locals<s.heap.objs.size:=by refine aW fr.ns ?_;intro zz z1;obtain⟨o,_,_,eo,_⟩:=z1;intro zz;exact Heap.lt_size eo
 have I0:=oR dS hb;refine seg_func ?_;refine seg_execs_cons (qB (yu hG ok.s1 hs ok.nc hc fr fun h1 EU VC Q1=>?_));refine seg_execs_cons (qB (vK hG (s:={s with heap:=h1,toks:=EU}) ok.s2 hs ok.nc hc Q1 fun h2 IJ VD Iz=>?_))
 have iQ:∀b o,b≠env.locals→s.heap.get? b=some o→h2.get? b=some o:=fun b o hn e=>(VD.2 b hn).trans ((VC.2 b hn).trans e);have sz:h2.objs.size=s.heap.objs.size:=VD.1.trans VC.1;refine seg_execs_cons (H3 (ES hG (s:={s with heap:=h2,toks:=IJ}) (x:=x) ok hs hc (fun a o e=>iQ a o (fun q=>by rw[q,ET]at e;exact bk e) (hb.bs a o e)) Iz (by rw[get_set,get_set];rfl) fun tx h3 he hit bG hk=>?_) (fun v=>by rw[←ok.it.2];rfl))
 have he:IsEnum h3 (h2.objs.size+1) h2.objs.size 0 .none:=he;have hit:h3.IsStrIter h2.objs.size (strIterType x) x tx 0:=hit;have hk:∀b o,h2.get? b=some o→h3.get? b=some o:=hk;refine wpAny_pyIter_enum (s:={s with heap:=h3,toks:=IJ}) he fun p0=>?_
 rw[show({s with heap:=h2,toks:=IJ}:Shared).heap.objs.size=s.heap.objs.size from sz]
 rw[sz]at he hit;have Lz:∀b o,b≠env.locals→s.heap.get? b=some o→h3.get? b=some o:=fun b o hn e=>hk b o (iQ b o hn e);have IB:bt (G.gen T0) env G.Bs [] (set (set [(2,.str x)] dZ (.int 0)) gx (.bool false)) h3:=Iz.reset (((yv x).set .int).set .bool) hc (fun o e=>hk _ o e) ET (fun m=>nomatch m);obtain⟨oL,eL⟩:∃o,h3.get? env.locals=some o:=by refine aW IB.ns ?_;intro zz z1;obtain⟨o,_,_,eo,_⟩:=z1;intro zz;exact⟨o,eo⟩
 have VE:fS G s.heap.get? [env.locals] G.Bs s s:=.start dS hb fun a m=>by
  rw[List.mem_singleton.mp m];refine aW fr.ns ?_;intro zz z1;obtain⟨o,_,_,eo,_⟩:=z1;intro zz;exact⟨ET,VB,o,eo⟩
 have rJ:fS G s.heap.get? [env.locals] G.Bs s {s with heap:=h3,toks:=IJ}:=VE.raw (fun b o EV e=>Lz b o (fun q=>EV (by simp[q])) e) fun a m=>by rw[List.mem_singleton.mp m];exact⟨oL,eL⟩
 have tz:∀a∈tabs,a<s.heap.objs.size:=fun a m=>by obtain⟨o,e⟩:=hb.tb a m;exact Heap.lt_size e
 have run:fS G s.heap.get? [env.locals,s.heap.objs.size+1,s.heap.objs.size] G.Bs s {s with heap:=h3,toks:=IJ}:=⟨rJ.inv,fun b o EV e=>rJ.keep b o (fun m=>EV (by rw[List.mem_singleton.mp m];simp)) e,rJ.rest,fun a m=>by
  simp only[List.mem_cons,List.not_mem_nil,or_false]at m;rcases m with rfl|rfl|rfl
  ·exact⟨ET,VB,oL,eL⟩
  ·exact⟨I0.old (Nat.le_succ _),fun m=>Nat.lt_irrefl _ (Nat.lt_of_lt_of_le (tz _ m) (Nat.le_succ _)),_,he⟩
  ·refine aW hit ?_;clear hit;intro o e zz
   exact⟨I0.old (Nat.le_refl _),fun m=>Nat.lt_irrefl _ (tz _ m),o,e⟩,rJ.fresh⟩
 refine EO hG dS (Bv (hA.le (by decide))) (Bw (hA.le (by decide))) hs ok hc rfl (fun a m=>?_) (Nat.succ_ne_self _) (Nat.ne_of_lt (Nat.lt_succ_of_lt Lx)) (Nat.ne_of_lt Lx) hx x.cps.toList 0 false _ s _ (Nat.zero_le _) (List.drop_zero) ⟨⟨_,G.Bs,_,run,IB.reset (((yv x).set .int).set .bool) hc (fun zz e=>e) ET (fun m=>nomatch m),((yv x).set .int).set .bool,by rw[get_set,get_set];rfl,gs,by rw[get_set,get_set];rfl⟩,⟨⟨_,he⟩,hit⟩,fun h=>by exact iO h⟩ rfl (by rw[Nat.sub_self];rfl) (Nat.le_refl _)
 simp only[List.mem_cons,List.not_mem_nil,or_false]at m;rcases m with rfl|rfl|rfl
 ·exact ET
 ·exact I0.old (Nat.le_succ _)
 ·exact I0.old (Nat.le_refl _)
theorem LB{prog:Program}{w:World}{A:Around}{E:Value→Shared→Prop}{s:Shared}{a:Addr}{g n:Nat}{gs:GenState}{P:Nat→Shared→Shared→Prop}{Y:Protocol}{Q:Option Value→Shared→Prop}(hh:A.handled=none)
  (hl:s.heap.NoLimit)(Q4:A.depth<recursionLimit)(hg:s.heap.IsGen a g)(Q5:s.gens[g]?=some gs)
  (b7:gs.Goes (model prog w) A.in1 (fun n s0 r kj=>r=.ok (.ret .none)∧P n s0 kj) Y n (.send .none) (s.setGen g .running))
  (hY:∀v kj lM,lM.bare=true→Y (n-1) (s.setGen g .running) v kj (fun r' di=>match n with
    |0=>False
    |m+1=>lM.Goes (model prog w) A.in1 (fun n s0 r kj=>r=.ok (.ret .none)∧P n s0 kj) Y m r' di)→Q (some v) (kj.setGen g lM))
  (hP:∀kj,P n (s.setGen g .running) kj→∀h',(∀b o,kj.heap.get? b=some o→h'.get? b=some o)→Q none {kj.setGen g .finished with heap:=h'}):
  wpAny (model prog w) A (pyNext (.ref a)) Q E s:=by
 unfold pyNext;refine wpAny_bind (wpAny_attempt (wpAny_callSpecial?_slot (name:=Str.ofString "__next__") hg.typeIs slot_gen_next (wpAny_call_entry slot_gen_next hg.typeIs entry_gen_next ?_ (args_gen_next _))));show wpAny _ A.in1 (Builtin.Generator.genWake (.ref a) (.send .none)) _ _ s;unfold Builtin.Generator.genWake;refine wpAny_bind (wpAny_holding (wpAny_genNumber hg (wpAny_bind (wpAny_genState Q5 ?_))));cases gs with
 |running=>exact b7.elim
 |finished=>exact b7.elim
 |_=>
  refine wpAny_bind (wpAny_roomToWake hl Q4 ?_);show wpAny _ A.in1 (.resume g (.send .none) [] _) _ _ s;refine wpAny_resumeQ Q5 b7 (fun x kj hx=>?_) (fun v kj lM hb hv=>wpAny_pure ⟨v,rfl,wpAny_pure (hY v kj lM hb hv)⟩);obtain⟨rfl,hp⟩:=hx;show wpAny _ A.in1 (newExc (.type "StopIteration") [] >>= _) _ _ _;refine wpAny_bind ?_;simp only[newExc,newTuple];refine wpAny_bind (wpAny_newObj_type ?_ (by size_fits))
  refine wpAny_bind (m:=firstArgMember _ _) (wpAny_of_eq (a:=Value.none) (by first|rfl|(simp only[firstArgMember];rfl)) (wpAny_newObj_type ?_ (by size_fits)))
  simp only[raiseNew];refine wpAny_bind (wpAny_bind (wpAny_handled ?_));rw[show A.in1.handled=none from hh];refine wpAny_throw (wpAny_bind (wpAny_isInstance (T:="StopIteration") (b:=true) ⟨_,Heap.get?_push_size _ rfl,rfl⟩ isSubtype_stop ?_));exact wpAny_pure (hP kj hp _ fun b o hb=>Heap.get?_push_of_some _ (Heap.get?_push_of_some _ hb))
theorem AllBare.setGen{s:Shared}{g:Nat}{x:GenState}(h:AllBare s.gens)(hx:x.bare=true):AllBare (s.setGen g x).gens:=fun y hy=>by
 have Zq:y∈s.gens.setIfInBounds g x:=hy;rcases Array.mem_or_eq_of_mem_setIfInBounds Zq with z|z
 ·exact h y z
 ·rw[z];exact hx
theorem uF{s:Shared}{g k:Nat}{x y:GenState}(h:s.gens[k]?=some y)(hn:k≠g):(s.setGen g x).gens[k]?=some y:=by
 show(s.gens.setIfInBounds g x)[k]?=some y;rw[Array.getElem?_setIfInBounds_ne (Ne.symm hn)];exact h
theorem aG.lN{W':List Addr}{W:List Addr}{B B':ay}{Z aH:List Addr}{ar:Mu}{s s' di:Shared}(P:aG G W B Z s B' aH ar s')(hn:∀a∈W',s.heap.get? a=none)(off:∀a∈W',B' a=none∧a∉aH∧a∉tabs∧a∉W)
  (k:∀b o,b∉W'→s'.heap.get? b=some o→di.heap.get? b=some o)(hr:Rest s di):aG G W B Z s B' aH ar di:=by
 have I:=P.inv;refine⟨P.le,P.pre,⟨I.base,fun a o e=>k a o (fun q=>by rw[(off a q).1]at e;exact bk e) (I.holds a o e),I.len,fun i a xs h1 h2=>?_,fun a m=>?_,I.nodup,I.cg,
  G.hT.mono I.tab (.refl _) fun a m o e=>k a o (fun q=>(off a q).2.2.1 m) e,I.ei⟩,fun b o hb e=>?_,fun a m=>?_,hr,P.dD,P.c8⟩
 ·refine eh (I.ml i a xs h1 h2) ?_;intro e vs n g r
  exact⟨e,vs,n,k _ _ (fun q=>(off a q).2.1 (List.mem_of_getElem? h1)) g,r⟩
 ·obtain⟨o,e⟩:=I.dm a m;exact⟨o,k _ _ (fun q=>(off a q).2.1 m) e⟩
 ·exact k b o (fun q=>by rw[hn b q]at e;exact bk e) (P.keep b o hb e)
 ·obtain⟨o,e⟩:=P.bL a m;exact⟨o,k _ _ (fun q=>(off a q).2.2.2 m) e⟩
theorem bt.lN{env:Env}{B:ay}{Z:List Addr}{U:aw}{h h':Heap}{W':List Addr}(F:bt G env B Z U h)(hL:env.locals∉W')(hC:∀n c,(n,c)∈env.cells→c∉W')(k:∀b o,b∉W'→h.get? b=some o→h'.get? b=some o):bt G env B Z U h':=by
 refine aW F.ns ?_;intro m z1;obtain⟨o,es,ep,e,r⟩:=z1;intro hm;refine⟨F.kind,F.gl,F.bi,⟨m,⟨o,es,ep,k _ _ hL e,r⟩,hm⟩,fun x v hx=>?_,F.cU,fun n c hc=>?_,F.inj,F.all⟩
 ·rcases F.cl x v hx with h|⟨hk,c,u,hc,⟨o',eo,ed⟩,h2⟩
  ·exact .inl h
  ·exact .inr ⟨hk,c,u,hc,⟨o',k _ _ (hC _ c (aY hc)) eo,ed⟩,h2⟩
 ·refine cw (F.dG n c hc) ?_;intro a1 a2 a3 a4 v o' eo ed
  exact⟨a1,a2,a3,a4,v,o',k _ _ (hC n c hc) eo,ed⟩
noncomputable def VF(K:Frag)(a:Addr):Bool:=match K.lookup a with
 |some ⟨_,_,.func fd,_⟩=>zu fd.body&&codeIn K fd.code fd.qualname&&fd.closure.isEmpty&&fd.globals==mainGlobals&&fd.builtins==builtinsNs && !fd.scope.isCoroutine&&fd.scope.isGenerator&&fd.scope.kind == .function&&keepIn K (.ref a)
 |_=>false
theorem Q7(P:Params):VF (KP P) 28=true:=by kd_p
theorem LC(P:Params)(y:Value):∀S,peek (KP P) S (bindArgs (ba (KP P) 28) ⟨[y],[]⟩)=some [(aI eH,y)]:=fun S=>by kd_p
theorem VG(P:Params):jT aI (ba (KP P) 28).scope bI eH=true:=by kd_p
theorem EW(hG:bx G)(dS:∀a∈tabs,G.Bs a=none){n:Nat}{A:Around}(hA:bY (n+1) A){B:ay}{Z:List Addr}{O:Mu}{s:Shared}{x:Str}{t:Tok}{Q:Value→Shared→Prop}{E:Value→Shared→Prop}(I:Inv G B Z O s.heap)
  (hQ:∀ga env g p sc tk T0 H,sc=(ba G.K 28).scope→s.heap.get? ga=none→s.heap.get? env.locals=none→(∀b o,s.heap.get? b=some o→H.get? b=some o)→H.IsGen ga s.gens.size→env.scope=sc→mR sc g→env.cells=[]→bt (G.gen T0) env G.Bs [] [(2,.str x)] H→ga≠env.locals→s.heap.objs.size≤H.objs.size→
   Q (.ref ga) {s with gens:=s.gens.push (.fresh (.func (g.body p) env)),toks:=tk,heap:=H}):
  wpAny (model G.prog G.w) A (call (.ref 28) [.str x t] []) Q E s:=by
 obtain⟨P,hP⟩:=hG.K;have hf:=Q7 P;unfold VF at hf;split at hf
 ·rename_i oc od fd osl e
  have lE:ba (KP P) 28=fd:=by unfold ba;rw[e]
  simp only[Bool.and_eq_true,Bool.not_eq_true']at hf;obtain⟨⟨⟨⟨⟨⟨⟨⟨f1,f2⟩,f3⟩,f4⟩,f5⟩,f6⟩,f7⟩,f8⟩,f9⟩:=hf;have fq:fd.body=.stmts (du fd.body):=by
   cases q:fd.body<;>first|rfl|(rw[q]at f1;cases f1)
  have X:(KP P).In s.heap:=hP▸I.jS;have Ly:∀a o,G.Bs a=some o→s.heap.get? a=some o:=fun a o e=>I.holds a o (I.base a o e);have Zr:∀a∈tabs,∃o,s.heap.get? a=some o:=fun a m=>I.there (List.mem_append_right _ m);have ok:=Iu P;rw[lE]at ok;have zO:=Lv P;rw[lE]at zO;generalize Lu P=g at ok zO;have jD:=codeRec_of X f2;refine wpAny_call (codeAny_call_generator hA.room (X _ _ e) rfl f6 f7 fq jD ?_);have hb:=LC P (.str x t);rw[lE]at hb;refine kp_binds X hb _ _ _ _ ?_;rw[List.isEmpty_iff.mp f3,eq_of_beq f4,eq_of_beq f5];refine dp ?_;have k1:=bN s.heap {cls:=.type "frame",data:=.dict #[]};have k2:=pushCells_keeps fd.scope.names (s.heap.push {cls:=.type "frame",data:=.dict #[]});have kk:∀b o,s.heap.get? b=some o→(pushCells (s.heap.push {cls:=.type "frame",data:=.dict #[]}) fd.scope.names).get? b=some o:=fun b o e=>k2 b o (k1 b o e);have I0:Inv (G.gen s.heap.get?) G.Bs [] [] s.heap:=oR dS ⟨Ly,Zr⟩;have F:=bt.fresh (G:=G.gen s.heap.get?) (scope:=fd.scope) (cl:=[]) (fo:={cls:=.type "frame",data:=.dict #[]})
   (env:=newEnv fd.scope s.heap.objs.size mainGlobals (cellsFrom (s.heap.objs.size+1) fd.scope.names []) (fd.qualname++".<locals>.") (some 28) fd.code none builtinsNs) I0 ⟨_,rfl⟩ ⟨(fun _ _ m=>nomatch m),.nil⟩ (fun _ _=>trivial) rfl rfl rfl (eq_of_beq f8) rfl rfl
  have cj:(newEnv fd.scope s.heap.objs.size mainGlobals (cellsFrom (s.heap.objs.size+1) fd.scope.names []) (fd.qualname++".<locals>.") (some 28) fd.code none builtinsNs).cells=[]:=eN _ _ _ ok.nc;have yX:=VG P;rw[lE]at yX;have zR:=qJ hG (env:=newEnv fd.scope s.heap.objs.size mainGlobals (cellsFrom (s.heap.objs.size+1) fd.scope.names []) (fd.qualname++".<locals>.") (some 28) fd.code none builtinsNs) rfl ok.nc yX;have Zs:pushCells (s.heap.push {cls:=.type "frame",data:=.dict #[]}) fd.scope.names=s.heap.push {cls:=.type "frame",data:=.dict #[]}:=by
   have:∀ (names:List (Str×NameKind)) (h:Heap),(∀p∈names,p.2≠.cell)→pushCells h names=h:=by
    intro names
    induction names with
    |nil=>intro h _;rfl
    |cons q r ih=>
     intro h hq;obtain⟨nq,kq⟩:=q;unfold pushCells;have:(kq==NameKind.cell)=false:=by simpa using hq (nq,kq) (.head _)
     simp only[this,Bool.false_eq_true,if_false];exact ih h fun p hp=>hq p (.tail _ hp)
   exact this _ _ ok.nc
  show wpAny _ _ (forIn [(aI eH,Value.str x t)] (⟨⟩:PUnit) fun x _=>_) _ _ _;rw[List.forIn_cons];refine wpAny_bind (wpAny_bind ?_);rw[←hG.nm];refine oZ (s:={s with heap:=_}) F cj zR .str fun h1 EU sb F1=>?_
  refine wpAny_pure ?_;show wpAny _ _ (forIn [] _ _) _ _ _;rw[List.forIn_nil];refine wpAny_pure ?_;have hL:s.heap.get? s.heap.objs.size=none:=cx _;have VH:∀b o,s.heap.get? b=some o→h1.get? b=some o:=fun b o eb=>(sb.2 b (fun q=>by rw[show b=s.heap.objs.size from q,hL]at eb;exact bk eb)).trans (kk b o eb)
  have Q8:h1.objs.size=s.heap.objs.size+1:=by
   have h0:h1.objs.size=(pushCells (s.heap.push {cls:=.type "frame",data:=.dict #[]}) fd.scope.names).objs.size:=sb.1;rw[Zs,Heap.size_push]at h0;exact h0
  have nl:h1.NoLimit:=G.nolimit _ fun a o eb=>VH a o (Ly a o eb);refine⟨nl,?_⟩;have Q9:s.heap.get? h1.objs.size=none:=fz (by rw[Q8];exact Nat.le_succ _)
  have:=hQ h1.objs.size (newEnv fd.scope s.heap.objs.size mainGlobals (cellsFrom (s.heap.objs.size+1) fd.scope.names []) (fd.qualname++".<locals>.") (some 28) fd.code none builtinsNs) g (posOf g.ps) fd.scope (EU+1+1) s.heap.get?
   (h1.push {cls:=.type "generator",data:=.fields #[.int s.gens.size 0,.str fd.name EU,.str fd.qualname (EU+1)]}) (by rw[hP,lE]) Q9 hL (fun b o eb=>Heap.get?_push_of_some _ (VH b o eb)) ⟨_,_,_,Heap.get?_push_size _ rfl,rfl,rfl,rfl⟩ rfl ok cj (F1.reset (yv x) cj (fun o eo=>Heap.get?_push_of_some _ eo) F1.cU.1 (fun m=>nomatch m)) (by
    show h1.objs.size≠s.heap.objs.size;rw[Q8];exact Nat.succ_ne_self _) (by rw[Heap.size_push,Q8];exact Nat.le_succ_of_le (Nat.le_succ _))
  rw[←zO]at this;exact this
 ·exact iO hf
theorem Inv.LD{B:ay}{Z:List Addr}{O:Mu}{h:Heap}{T:Addr}{vs:List Value}{k:Nat}(I:Inv G B Z O h)(e:h.get? T=some (gY vs k))(hT:B T=none→T∉Z∧T∉tabs):∃B',ay.le B B'∧B' T=some (gY vs k)∧(∀a,B' a≠none→B a≠none∨a=T)∧Inv G B' Z O h:=by
 cases q:B T with
 |some o=>
  have:=I.holds T o q;rw[e]at this;cases Option.some.inj this;exact⟨B,.refl _,q,fun a h=>.inl h,I⟩
 |none=>
  obtain⟨h1,h2⟩:=hT q;refine⟨B.add T (gY vs k),ay.iA q,ay.c9 ..,fun a ha=>?_,I.adopt ⟨q,h1,h2⟩ e⟩
  by_cases z:a=T
  ·exact .inr z
  ·unfold ay.add at ha;rw[if_neg z]at ha;exact .inl ha
theorem bt.le{env:Env}{B B':ay}{Z:List Addr}{U:aw}{h:Heap}(F:bt G env B Z U h)(hB:ay.le B B')(hL:B' env.locals=none)(hC:∀n c,(n,c)∈env.cells→B c=none→B' c=none):bt G env B' Z U h:=by
 refine aW F.ns ?_;intro m hn hm;refine⟨F.kind,F.gl,F.bi,⟨m,hn,fun x v hx hk=>let⟨u,h1,h2⟩:=hm x v hx hk;⟨u,h1,h2.mono hB (List.prefix_refl _)⟩⟩,fun x v hx=>?_,⟨hL,F.cU.2⟩,fun n c hc=>?_,F.inj,F.all⟩
 ·rcases F.cl x v hx with h|⟨hk,c,u,hc,h1,h2⟩
  ·exact .inl h
  ·exact .inr ⟨hk,c,u,hc,h1,h2.mono hB (List.prefix_refl _)⟩
 ·obtain⟨a1,r⟩:=F.dG n c hc
  exact⟨a1.imp id (hC n c hc),r⟩
noncomputable def kK(q:Int×Str):V:=.tuple [.int q.1,.str q.2]
theorem uG{s:Shared}{g:Nat}{gs x:GenState}(h:s.gens[g]?=some gs):(s.setGen g x).gens[g]?=some x:=by
 show(s.gens.setIfInBounds g x)[g]?=some x;rw[Array.getElem?_setIfInBounds_self_of_lt (Array.getElem?_eq_some_iff.mp h).1]
inductive Zt(G:dk)(A:Around)(env:Env)(own:List Nat)(W:List Addr)(its:List (Int×Str))(ga:Addr)(gn:Nat)(T:V→aw→Mu→(Fl→aw→Mu→Prop)→Prop)(Q:Fl→aw→Mu→Prop)(B2:ay)(aV:List Addr)(s2:Shared)(k:Nat)(s':Shared):Prop
 |mk (j:Nat) (ao:aw) (ar:Mu) (B':ay) (aH:List Addr) (gs:GenState) (hj:j≤its.length) (hm:k=its.length-j) (P:aG G (fa G env own) B2 aV s2 B' aH ar s') (F:bt G env B' aH ao s'.heap) (l0:s'.heap.IsGen ga gn) (Q5:s'.gens[gn]?=some gs)
   (b7:gs.Goes (model G.prog G.w) A.in1 (RP W) (YP G W its) (its.length-j) (.send .none) (s'.setGen gn .running))(oh:∀a∈ga::W,B' a=none∧a∉aH)(hL:forL T ((its.map kK).drop j) ao ar Q)
theorem EX{n:Nat}{A:Around}(hA:bY (n+8) A){env:Env}{own:List Nat}{U:aw}{aZ:Mu}{Q:Fl→aw→Mu→Prop}{target:Expr}{body:List Stmt}{its:List (Int×Str)}{B2:ay}{aV:List Addr}{s2 s3:Shared}{ga:Addr}{gn:Nat}{W:List Addr}{Ra:GenState}{Err:Value→Shared→Prop}
  (EP:∃a b c,target=.Tuple a b c)(I2:Inv G B2 aV aZ s2.heap)(iC:∀a∈ga::W,s2.heap.get? a=none)(LF:ga∉W)(wI:∀a∈ga::W,a∉tabs)(EY:∀a∈ga::W,a∉fa G env own)(Dg:env.locals∉W)(Dh:∀n c,(n,c)∈env.cells→c∉W)
  (P3:aG G (fa G env own) B2 aV s2 B2 aV aZ s3)(F3:bt G env B2 aV U s3.heap)(Zu:s2.gens[gn]?=none)(Rb:s3.heap.IsGen ga gn)(IK:s3.gens[gn]?=some Ra)
  (Di:Ra.Goes (model G.prog G.w) A.in1 (RP W) (YP G W its) its.length (.send .none) (s3.setGen gn .running))
  (hL:forL (qZ G (n+8) env own target body) (its.map kK) U aZ Q):
  codeAny (model G.prog G.w) A (.forLoop target (.ref ga) body [] env) (fun r s'=>match r with | .ok f=>PS G env own B2 aV s2 Q f s' | .error e=>Err e s') s3:=by
 refine GL (PS G env own B2 aV s2 Q) (Zt G A env own W its ga gn (qZ G (n+8) env own target body) Q B2 aV s2) (fun zz zz x=>x) ?_ its.length
  (.mk 0 U aZ B2 aV Ra (Nat.zero_le _) rfl P3 F3 Rb IK Di (fun a m=>⟨I2.eY (iC a m),I2.fI (iC a m)⟩) hL)
 intro k s' K z hN hS;cases z with|mk j ao ar B' aH gs hj xw P' F' By Og b7 oh qc=>?_
 have I':=P'.inv;have Oh:∀k y,s2.gens[k]?=some y→k≠gn:=fun k y e q=>by rw[q,Zu]at e;exact bk e
 have restOf:∀ (s5:Shared) (y:GenState) (h':Heap),y.bare=true→Rest (s'.setGen gn .running) s5→Rest s2 {s5.setGen gn y with heap:=h'}:=fun s5 y h' hy hr=>⟨hr.os.trans P'.rest.os,fun b=>AllBare.setGen (hr.bare (AllBare.setGen (P'.rest.bare b) rfl)) hy,fun k z e=>uF (hr.gens k z (uF (P'.rest.gens k z e) (Oh k z e))) (Oh k z e)⟩
 refine LB hA.handled I'.noLimit hA.room By Og b7 (fun v s5 lM hb hv=>?_) (fun s5 hp h' gL=>?_)
 ·refine vn hv ?_;clear hv;intro q T ta tb k hq z1;subst z1;intro hT z2;obtain⟨uH,LG⟩:=z2;intro bL z3;obtain⟨Zv,VI⟩:=z3;intro wJ
  have uH:∀b o,b∉W→s'.heap.get? b=some o→s5.heap.get? b=some o:=uH;have Rc:oQ G s5.heap:=⟨fun a o e=>uH a o (fun m=>by rw[I'.base.off (oh a (.tail _ m)).1]at e;exact bk e) (I'.holds a o (I'.base a o e)),fun a m=>by
   obtain⟨o,e⟩:=I'.there (List.mem_append_right aH m);exact⟨o,uH a o (fun q=>wI a (.tail _ q) m) e⟩⟩
  by_cases qK:j<its.length
  ·obtain⟨m,hm⟩:∃m,its.length-j=m+1:=⟨its.length-j-1,by exact ag 2 0 (aa (ak ab af) (ax (bb af ab) (aj (bb (bb af ab) aC) aC))) (by kd_p) qK⟩
   rw[hm]at hq wJ;have hq:its[its.length-1-m]?=some q:=hq;have wJ:∀di,Dd G W s5 di→lM.Goes (model G.prog G.w) A.in1 (RP W) (YP G W its) m (.send .none) di:=wJ;rw[show its.length-1-m=j by exact ag 3 0 (aa (ak ab au) (aa (ax (bb au ab) (aj af aC)) (ax (bb (bb au aC) af) ab))) (by kd_p) qK hm]at hq
   have Rd:Rest s2 (s5.setGen gn lM):=restOf s5 lM s5.heap hb LG;have P6:aG G (fa G env own) B2 aV s2 B' aH ar (s5.setGen gn lM):=P'.lN (W':=W) (fun a m=>iC a (.tail _ m)) (fun a m=>⟨(oh a (.tail _ m)).1,(oh a (.tail _ m)).2,wI a (.tail _ m),EY a (.tail _ m)⟩) uH Rd;have F6:bt G env B' aH ao s5.heap:=F'.lN Dg Dh uH;refine O2 (P6.inv.LD (T:=T) (vs:=[.int q.1 ta,.str q.2 tb]) (k:=k) hT fun z=>by
    rcases VI with y|y
    ·exact absurd (I'.base.off z) y
    ·exact⟨I'.fI y,I'.i4 y⟩) ?_;intro B6 VJ VK Oi I6
   have neT:∀ {a o},s5.heap.get? a=some o→(∀vs n,o.data≠.seq vs n)→a≠T:=fun e hd z=>by
    rw[z]at e;have:some _=some _:=hT.symm.trans e;cases Option.some.inj this;exact hd _ _ rfl
   have yw:∀ {a},B' a=none→a≠T→B6 a=none:=fun{a} h1 h2=>by
    cases z:B6 a with
    |none=>rfl
    |some o=>
     rcases Oi a (by rw[z];simp) with y|y
     ·exact absurd h1 y
     ·exact absurd y h2
   have Rf:aG G (fa G env own) B2 aV s2 B6 aH ar (s5.setGen gn lM):=⟨P6.le.trans VJ,P6.pre,I6,P6.keep,P6.bL,P6.rest,fun a ha=>by
    cases z:B' a with
    |some o=>exact P6.dD a (by rw[z];simp)
    |none=>
     rcases Oi a ha with y|y
     ·exact absurd z y
     ·subst y
      rcases VI with y|y
      ·exact absurd (I'.base.off z) y
      ·exact .inr (.inr (P'.back y)),P6.c8⟩
   have Zw:bt G env B6 aH ao s5.heap:=F6.le VJ (by
    refine aW F6.ns ?_;intro zz z1;obtain⟨o,es,ep,e,hd,_⟩:=z1;intro zz;exact yw F6.cU.1 (neT e fun vs n' z=>by rw[hd]at z;cases z)) fun n' c mc hc=>by
     refine cw (F6.dG n' c mc) ?_;intro zz zz zz zz v o e hd;exact yw hc (neT e fun vs n' z=>by rw[hd]at z;cases z)
   have vr:VR B6 aH (.tuple [.int q.1,.str q.2]) (.ref T):=.tuple VK rfl (aB.cons .int (.cons .str .nil)).2;refine br By ?_;clear By;intro og Zy Zz ZA VL Rg ZC;have Dj:s5.heap.get? ga=some og:=uH ga og LF ZA;refine Gz EP ?_;clear EP;intro xa xb xc z1;subst z1;refine hS _ _ fun E hE PH PI=>?_;unfold letOwnedTupleGo;refine wpAny_bind (wpAny_load Dj ?_);rw[VL,Rg];refine wpAny_pure ?_;have Il:(its.map kK).drop j=.tuple [.int q.1,.str q.2]::(its.map kK).drop (j+1):=by
    rw[List.drop_eq_getElem_cons (by simpa using qK)]
    congr 1
    rw[List.getElem_map];rw[List.getElem?_eq_getElem qK]at hq;cases Option.some.inj hq;rfl
   rw[Il]at qc;refine wpAny_mono (qc A hA B6 aH (s5.setGen gn lM) (.ref T) I6 Zw vr) ?_ fun zz zz x=>x;rintro zz s7 ⟨GY,PQ,B7,DM,h7,P7,F7⟩;refine wpAny_mono (h7 A hA B7 DM s7 P7.inv F7) ?_ fun zz zz x=>x;rintro fl s8 ⟨r,yx,LH,B8,DN,q8,P8,F8,r8⟩;have vM:=P7.trans P8;have ZD:∀a∈ga::W,∃o,s5.heap.get? a=some o∧a≠T:=fun a m=>by
    rcases List.mem_cons.mp m with rfl|m
    ·exact⟨og,Dj,neT Dj fun vs n' z=>by rw[Rg]at z;cases z⟩
    ·obtain⟨o,e⟩:=bL a m;exact⟨o,e,fun z=>Zv (z▸m)⟩
   have Dk:∀a∈ga::W,∀o,s5.heap.get? a=some o→s8.heap.get? a=some o:=fun a m o e=>vM.kept e (EY a m) (oh a m).2 (wI a m);have VM:∀a∈ga::W,B8 a=none∧a∉DN:=fun a m=>by
    refine aW (ZD a m) ?_;intro o e ht;exact⟨vM.eY (s:=s5.setGen gn lM) e (yw (oh a m).1 ht) (oh a m).2,vM.fI (s:=s5.setGen gn lM) e (oh a m).2⟩
   have Rh:(s5.setGen gn lM).gens[gn]?=some lM:=uG (LG.gens gn .running (uG Og));have Ri:s8.gens[gn]?=some lM:=vM.rest.gens gn lM Rh;have Rj:oQ G s8.heap:=⟨fun a o e=>vM.inv.holds a o (vM.inv.base a o e),fun a m=>vM.inv.there (List.mem_append_right _ m)⟩;have next:forL (qZ G (n+8) env own (.Tuple xa xb xc) body) ((its.map kK).drop (j+1)) yx LH Q→E .next s8∧E .cont s8:=fun q9=>
    hE _ _ (by rw[xw];exact ag 3 0 (aa (ak af au) (aa (ax (bb au af) (aj ab aC)) (ak (bb au (aj af aC)) (bb au af)))) (by kd_p) qK hm) (.mk (j+1) yx LH B8 DN lM qK rfl (Rf.trans vM) F8 ⟨og,Zy,Zz,Dk ga (.head _) og Dj,VL,Rg,ZC⟩ Ri (by
     rw[show its.length-(j+1)=m by exact ag 3 0 (aa (ak af au) (aa (ax (bb au af) (aj ab aC)) (ax (bb au (aj af aC)) ab))) (by kd_p) qK hm]
     exact wJ _ ⟨fun a ma o e=>Dk a (.tail _ ma) o e,Rj⟩) VM q9)
   cases r8 with
   |next=>exact(next q8).1
   |cont=>exact(next q8).2
   |brk=>exact PH _ ⟨.next,yx,LH,B8,DN,q8,Rf.trans vM,F8,.next⟩
   |ret r=>exact PI _ _ ⟨.ret _,yx,LH,B8,DN,q8,Rf.trans vM,F8,.ret r⟩
  ·have h0:its.length-j=0:=by exact ag 2 0 (aa (ae ab af) (aa (dH (ak ab af)) (ax (bb af ab) b6))) (by kd_p) hj qK
   rw[h0]at wJ;exact(wJ s5 ⟨fun zz zz zz e=>e,Rc⟩).elim
 ·refine qa hp ?_;clear hp;intro QS uH LG
  have uH:∀b o,b∉W→s'.heap.get? b=some o→s5.heap.get? b=some o:=uH;have ZE:j=its.length:=by exact ag 2 0 (aa (ae af ab) (aa (ax (bb ab af) b6) (ax af ab))) (by kd_p) hj QS
  subst ZE;have Eh:∀b o,b∉W→s'.heap.get? b=some o→h'.get? b=some o:=fun b o hb e=>gL b o (uH b o hb e);refine hN _ ?_;rw[show(its.map kK).drop its.length=[] by rw[List.drop_eq_nil_iff];simp]at qc
  exact⟨.next,ao,ar,B',aH,qc,P'.lN (W':=W) (fun a m=>iC a (.tail _ m)) (fun a m=>⟨(oh a (.tail _ m)).1,(oh a (.tail _ m)).2,wI a (.tail _ m),EY a (.tail _ m)⟩) Eh (restOf s5 .finished h' rfl LG),F'.lN Dg Dh Eh,.next⟩
theorem EZ(hG:bx G)(dS:∀a∈tabs,G.Bs a=none){n:Nat}{env:Env}{own:List Nat}{U:aw}{O:Mu}{Q:Fl→aw→Mu→Prop}{target:Expr}{f a:Expr}{p0 pos:Pos}{body:List Stmt}{x:Str}
  (he:eval (.Call f [a] [] p0) env=(do callWith p0 (←eval f env) [] (backTo p0 (starEach [a] env)) (backToKw p0 (keywordEach [] env))))(hp:eG [a] env)(hf:∀x,foldedSetIterable (.Call f [a] [] p0) env x=pure x)(EP:∃a b c,target=.Tuple a b c)(hx:x.cps.all (· < 128)=true)
  (h:bz G (n+8) env (eval f env) U O fun fv aA=>fv=.raw (.ref 28)∧eZ G (n+8) env (spliced (backTo p0 (starEach [a] env))) U aA fun vs aZ=>vs=[.str x] ∧
   forL (qZ G (n+8) env own target body) ((fO x).map kK) U aZ Q):
  cn G (n+8) env own (exec (.For target (.Call f [a] [] p0) body [] pos) env) U O Q:=by
 intro A hA B Z s I F;refine wpAny_For ?_ hf;rw[he];refine wpAny_bind (wpAny_mono (h A hA B Z s I F) ?_ fun _ _ x=>x);rintro fx s1 ⟨fv,aA,B1,aE,⟨rfl,bf⟩,P1,r1⟩;have F1:=F.same P1;refine VR.jY r1 ?_;refine callWith_of (P:=fU G (.ref 28)) (by rw[plain_any hp,ni _ _ _ rfl];rfl) (fun _ x=>x) (iE (kws:=[]) hp rfl ?_)
 refine wpAny_mono (bf A hA B1 aE s1 P1.inv F1) ?_ fun _ _ x=>x;rintro xs s2 ⟨vs,aZ,B2,aV,⟨rfl,hL⟩,P2,r2⟩;refine kwAll_nil ⟨keeps_K (hG.keep (fun P=>by kd_p)) _ P2.inv.jS,?_⟩
 refine aB.aN r2 ?_;intro y _ ry r;refine aB.bE r ?_;refine VR.fQ ry ?_;intro _;rename_i t;have I2:=P2.inv;have F2:=F1.same P2;have DO:=P1.trans P2;refine EW hG dS (hA.le (by exact ag 1 0 (ae (nk 8) (aj ab (nk 8))) (by kd_p)):bY 8 A) I2 fun ga la g p sc tk T0 H dM Q9 Rk hk l0 hs ok hc fr e8 Oj=>?_
 refine wpAny_pyIter_gen (s:={s2 with gens:=s2.gens.push (.fresh (.func (g.body p) la)),toks:=tk,heap:=H}) l0 ?_
 refine br (id l0) ?_;intro oga nga qga ZF cga dga sga;have Ol:ga<H.objs.size:=Heap.lt_size ZF;have ZG:oQ G H:=⟨fun a o e=>hk a o (I2.holds a o (I2.base a o e)),fun a m=>by obtain⟨o,e⟩:=I2.there (List.mem_append_right _ m);exact⟨o,hk a o e⟩⟩
 have Di:(GenState.fresh (.func (g.body p) la)).Goes (model G.prog G.w) A.in1 (RP [la.locals,H.objs.size+1,H.objs.size]) (YP G [la.locals,H.objs.size+1,H.objs.size] (fO x)) (fO x).length (.send .none)
   ((({s2 with gens:=s2.gens.push (.fresh (.func (g.body p) la)),toks:=tk,heap:=H}:Shared)).setGen s2.gens.size .running):=
  ⟨rfl,Bx hG dS (A:=A.in1) (s:=(({s2 with gens:=s2.gens.push (.fresh (.func (g.body p) la)),toks:=tk,heap:=H}:Shared)).setGen s2.gens.size .running) ((hA.le (by exact ag 1 0 (ae (nk 7) (aj ab (nk 8))) (by kd_p)):bY 7 A).in1) hs ok hc ZG fr (I2.base.off (I2.eY Rk)) (I2.i4 Rk) hx⟩
 have iC:∀a∈ga::[la.locals,H.objs.size+1,H.objs.size],s2.heap.get? a=none:=fun a m=>by
  simp only[List.mem_cons,List.not_mem_nil,or_false]at m;rcases m with rfl|rfl|rfl|rfl
  ·exact Q9
  ·exact Rk
  ·exact fz (Nat.le_succ_of_le Oj)
  ·exact fz Oj
 have LF:ga∉[la.locals,H.objs.size+1,H.objs.size]:=fun m=>by
  simp only[List.mem_cons,List.not_mem_nil,or_false]at m;rcases m with rfl|rfl|rfl
  ·exact e8 rfl
  ·exact Nat.lt_irrefl _ (Nat.lt_of_succ_lt Ol)
  ·exact Nat.lt_irrefl _ Ol
 generalize [la.locals,H.objs.size+1,H.objs.size]=W at Di iC LF;have wI:∀a∈ga::W,a∉tabs:=fun a m=>I2.i4 (iC a m);have EY:∀a∈ga::W,a∉fa G env own:=fun a m q=>by obtain⟨o,e⟩:=F2.bL a q;rw[iC a m]at e;exact bk e
 have Dg:env.locals∉W:=fun m=>EY _ (.tail _ m) (.head _);have Dh:∀n c,(n,c)∈env.cells→c∉W:=fun n' c m q=>by refine cw (F2.dG n' c m) ?_;intro _ _ _ _ v o e _;rw[iC c (.tail _ q)]at e;exact bk e
 have Rl:Rest s2 {s2 with gens:=s2.gens.push (.fresh (.func (g.body p) la)),toks:=tk,heap:=H}:=⟨rfl,fun b=>b.push rfl,fun k y e=>by
  show(s2.gens.push _)[k]?=some y;rw[Array.getElem?_push,if_neg (Nat.ne_of_lt (Array.getElem?_eq_some_iff.mp e).1)];exact e⟩
 have P3:aG G (fa G env own) B2 aV s2 B2 aV aZ {s2 with gens:=s2.gens.push (.fresh (.func (g.body p) la)),toks:=tk,heap:=H}:=(aG.refl I2 F2.bL).lN (W':=[]) (fun _ m=>nomatch m) (fun _ m=>nomatch m) (fun b o _ e=>hk b o e) Rl
 have F3:bt G env B2 aV U H:=F2.lN (W':=[]) (fun m=>nomatch m) (fun _ _ _ m=>nomatch m) fun b o _ e=>hk b o e;have IK:(s2.gens.push (GenState.fresh (.func (g.body p) la)))[s2.gens.size]?=some (.fresh (.func (g.body p) la)):=by rw[Array.getElem?_push_size]
 refine codeAny_mono (EX hA (Err:=fun e s'=>cameBackBy (model G.prog G.w) A env bM e s') EP I2 iC LF wI EY Dg Dh P3 F3 (by rw[Array.getElem?_eq_none (Nat.le_refl _)]) l0 IK Di hL) fun r s' hr=>?_
 cases r with
 |ok f=>exact PS.after (DO.wide F) hr
 |error e=>exact hr
theorem uI(x:Str)(lo hi:Option Int):(fM x lo hi).length≤x.length:=by
 unfold fM;simp only[];split
 ·exact Nat.le_refl _
 ·have h1:((Builtin.Str.strSliceIndices lo hi 1 x.length).filterMap (x.cps[·]?)).length≤(Builtin.Str.strSliceIndices lo hi 1 x.length).length:=List.length_filterMap_le _ _
  have h2:=sliceIndices_le lo hi x.length;show((Builtin.Str.strSliceIndices lo hi 1 x.length).filterMap (x.cps[·]?)).toArray.size≤_
  simp only[List.size_toArray];exact ag 3 0 (aa (ae au ab) (aa (ae ab af) (ae au af))) (by kd_p) h1 h2
noncomputable def Rm:Str:=⟨#[34]⟩
noncomputable def eO(x:Str):List (Int×Str)→Int→Option Int→List Str→Int×List Str
 |[],s,_,r=>(s,r)
 |(p,c)::es,s,o,r=>if c=Rm then(match o with
   |none=>eO x es s (some p) r
   |some q=>eO x es (p+1) none (if s=q then r else r++[fM x (some s) (some q)])) else eO x es s o r
noncomputable def gQ(x:Str):Str:=if decide (34∈x.cps.toList) then
  (let r:=eO x (fO x) 0 none []
  Txt.join ⟨#[]⟩ (if r.1<x.length then r.2++[fM x (some r.1) none] else r.2)) else x
noncomputable def wK:Tg:=.g9 (.name dZ) (.name fk)
noncomputable def ZH:E:=.call (.glob dn) (.cons (.var eH) .nil)
noncomputable abbrev Om(b:Ss)(y:Stmt):Stmt:=.For (gV aI wK (sk 0 y)) (bH aI ZH (sk 1 y)) (dP aI b (sb 0 y)) [] y.pos
structure IL(sc:Scope)(B:List Stmt)(k:Nat)(pre b post:Ss)(own:List Nat):Prop where
 eq:B=dP aI pre B++Om b (B.getD k default)::dP aI post (B.drop (k+1))
 a:cW aI pre sc own B=true
 t:jA aI sc own wK (sk 0 (B.getD k default))=true
 g:bP aI (.glob dn) sc (bj 0 (sk 1 (B.getD k default)))=true
 b:cW aI b sc own (sb 0 (B.getD k default))=true
 c:cW aI post sc own (B.drop (k+1))=true
theorem wL(hG:bx G)(dS:∀a∈tabs,G.Bs a=none){n:Nat}{env:Env}{sc:Scope}{B rest:List Stmt}{k:Nat}{pre b post:Ss}{own:List Nat}{U:aw}{O:Mu}{Q:Fl→aw→Mu→Prop}{x:Str}(F:IL sc B k pre b post own)(hs:env.scope=sc)(hk:sc.kind=.function)(hx:x.cps.all (· < 128)=true)(hg:get U eH=some (.str x))
  (h:forL (fun v U O k=>qp G bX (n+8) wK v U O fun ao ar=>aX G bX (n+8) b ao ar k) ((fO x).map kK) U O (Go (G:=G) (n+8) env own rest Q)):cn G (n+8) env own (execs (Om b (B.getD k default)::rest) env) U O Q:=by
 refine j0 (cn.mono (Q:=Go (G:=G) (n+8) env own rest Q) (EZ (n:=n) (target:=gV aI wK (sk 0 (B.getD k default))) (f:=bH aI (.glob dn) (bj 0 (sk 1 (B.getD k default)))) (a:=bH aI (.var eH) (D7 (ks (sk 1 (B.getD k default))).tail)) hG dS rfl
  (eA (es:=.cons (.var eH) .nil) (xs:=(ks (sk 1 (B.getD k default))).tail)) (fun zz=>rfl) ⟨_,_,_,rfl⟩ hx ?_) fun f ao ar q=>?_)
 ·refine dE hG.nm hG.gl (.glob dn) F.g hs (wc rfl ⟨rfl,?_⟩)
  refine kR hG.nm hG.gl (.cons (.var eH) .nil) (ys:=(ks (sk 1 (B.getD k default))).tail) rfl hs ?_;refine gj (bU hg (kP ⟨rfl,?_⟩));exact lr (st':=fun v U O ZI=>gF G (n+8) env own (assign (gV aI wK (sk 0 (B.getD k default))) env) v U O fun ao ar=>cn G (n+8) env own (execs (dP aI b (sb 0 (B.getD k default))) env) ao ar ZI) (fun v U O k gL=>gF.mono (xV hG.nm hG.gl wK F.t hs gL) fun ao ar q=>eM hG.nm hG.gl b hk F.b hs q) (fun v U O k k' Eh fY=>gF.mono fY fun ao ar pg=>cn.mono pg Eh) h
 ·cases f with
  |next=>exact q
  |brk=>exact q
  |cont=>exact q
  |ret v=>exact q
theorem ZJ(P:Params):IL (ba (KP P) 35).scope (du (ba (KP P) 35).body) 4 oI uc oJ cS:=⟨by kd_p,by kd_p,by kd_p,by kd_p,by kd_p,by kd_p⟩
theorem ZK(P:Params):IL (ba (KP P) 42).scope (du (ba (KP P) 42).body) 2 oK ud oM dR:=⟨by kd_p,by kd_p,by kd_p,by kd_p,by kd_p,by kd_p⟩
theorem oi(x:Str)(p:Int)(c:Str)(es:List (Int×Str))(s:Int)(o:Option Int)(r:List Str):eO x ((p,c)::es) s o r=if c=Rm then(match o with
   |none=>eO x es s (some p) r
   |some q=>eO x es (p+1) none (if s=q then r else r++[fM x (some s) (some q)])) else eO x es s o r:=rfl
noncomputable def Oo:Option Int→V
 |none=>.none
 |some p=>.int p
theorem lO:∀ (cs:List Nat) (i:Nat) (e:Bool),(dh i e cs).length≤cs.length+1
 |[],i,e=>by unfold dh;split<;>simp
 |c::cs,i,true=>by unfold dh;have:=lO cs (i+1) false;simp;omega
 |c::cs,i,false=>by
  unfold dh;split
  ·have:=lO cs (i+1) true;simp;exact yT this
  ·have:=lO cs (i+1) false;simp;omega
theorem kl{M:Nat}:∀ (r:List Str),(∀y∈r,y.length≤M)→(r.map (·.length)).sum≤r.length*M
 |[],_=>by simp
 |y::r,h=>by
  have h1:=h y (.head _);have h2:=kl r fun z m=>h z (.tail _ m);simp only[List.map_cons,List.sum_cons,List.length_cons,Nat.add_mul,Nat.one_mul];exact ag 4 0 (aa (ae aO ab) (aa (ae au af) (ae (aj aO au) (aj af ab)))) (by kd_p) h1 h2
theorem km{its:List (Int×Str)}{i:Nat}{v:V}(h:(its.map kK)[i]?=some v):∃hi:i<its.length,v=kK its[i]:=by
 have hi:i<its.length:=by have:=(List.getElem?_eq_some_iff.mp h).1;simpa using this
 rw[List.getElem?_map,List.getElem?_eq_getElem hi]at h;exact⟨hi,by simpa using h.symm⟩
theorem E0(hG:bx G)(dS:∀a∈tabs,G.Bs a=none){n:Nat}{O:Mu}{Q:V→Mu→Prop}{x:Str}(hx:x.cps.all (· < 128)=true)(hl:x.length≤1000)(q:Q (.str (gQ x)) O):aU G (n+9) (.ref 35) [.str x] [] O Q:=by
 refine lD hG (n:=n+8) (own:=cS) [(eH,.str x)] (fun P ys ks B Z r rk=>?_) (fun P env hP hs hc zI hk=>?_)
 ·refine aB.aN r ?_;intro y zz r1 r
  refine aB.bE r ?_;refine aB.bE rk ?_;exact⟨[y],.cons r1 .nil,fun S=>by kd_p⟩
 ·have F:=ZJ P
  rw[F.eq];refine qw hG.nm hG.gl hk hs oI F.a ?_;unfold oI;k_upd;show bW G _ .NotIn (.str (⟨#[34]⟩:Str)) (.str x) _ _;refine DT ?_;rw[PySem.StrLaws.found_one];k_upd
  by_cases hq:34∈x.cps.toList
  ·rw[show(!decide (34∈x.cps.toList))=false by simp[hq]]
   k_upd;refine⟨.of (by decide),(fun zz m=>nomatch m),?_⟩
   k_upd;show cn G (n+8) env cS _ _ _ _;have es:gQ x=(let r:=eO x (fO x) 0 none []
     Txt.join ⟨#[]⟩ (if r.1<x.length then r.2++[fM x (some r.1) none] else r.2)):=by unfold gQ;rw[if_pos (by simpa using hq)]
   have LI:(fO x).length≤1001:=by
    have:=lO x.cps.toList 0 false;have h9:x.cps.toList.length=x.length:=by simp[Str.length]
    unfold fO;exact ag 3 0 (aa (ae af bw) (aa (ae au (aj ab aC)) (aa (ax ab af) (ae au (nk 1001))))) (by kd_p) hl this h9
   refine wL hG dS F hs hk hx rfl ?_;refine dy (fun i ao ar=>∃ (s:Int) (o:Option Int) (r:List Str),eO x ((fO x).drop i) s o r=eO x (fO x) 0 none []∧ar=O++[some (r.map .str)]∧get ao 2=some (.str x)∧get ao 5=some (.int s)∧get ao 7=some (Oo o)∧get ao 4=some (.ml O.length)∧r.length≤i∧∀y∈r,y.length≤x.length)
    (fun i v ao ar k hv hJ jI kF vH=>?_) (fun ao ar hJ=>?_) ⟨0,none,[],rfl,rfl,rfl,rfl,rfl,rfl,Nat.zero_le _,fun zz m=>nomatch m⟩
   ·obtain⟨hi,rfl⟩:=km hv
    refine pe hJ ?_;clear hJ;intro s o rr b7 z1;subst z1;intro g2 g5 g7 g4 pQ Bz;rw[List.drop_eq_getElem_cons hi]at b7;generalize (fO x)[i]=ev at b7;obtain⟨pp,c⟩:=ev;refine ny rfl (gw (gw ?_));have k2:get (set (set ao dZ (.int pp)) fk (.str c)) 2=some (.str x):=by rw[get_set,get_set];exact g2
    have k5:get (set (set ao dZ (.int pp)) fk (.str c)) 5=some (.int s):=by rw[get_set,get_set];exact g5
    have k7:get (set (set ao dZ (.int pp)) fk (.str c)) 7=some (Oo o):=by rw[get_set,get_set];exact g7
    have k4:get (set (set ao dZ (.int pp)) fk (.str c)) 4=some (.ml O.length):=by rw[get_set,get_set];exact g4
    have k1:get (set (set ao dZ (.int pp)) fk (.str c)) 1=some (.int pp):=by rw[get_set,get_set];rfl
    have k3:get (set (set ao dZ (.int pp)) fk (.str c)) 3=some (.str c):=gs;generalize set (set ao dZ (.int pp)) fk (.str c)=a9 at k1 k2 k3 k4 k5 k7;unfold uc;k_upd
    by_cases LJ:c=Rm
    ·rw[show(c==Str.ofString "\"")=true by rw[LJ];rfl]
     k_upd;rw[oi,if_pos LJ]at b7;cases o with
     |none=>
      change get a9 7=some .none at k7;show bW G (n+8) .Is V.none V.none _ _;k_upd;exact jI _ _ ⟨s,some pp,rr,b7,rfl,gn k2,gn k5,gs,gn k4,by exact Ax pQ,Bz⟩
     |some w=>
      change get a9 7=some (.int w) at k7;show bW G (n+8) .Is (V.int w) V.none _ _;k_upd
      by_cases ze:s=w
      ·rw[show(s !=w)=false by simp[ze]]
       k_upd;simp only[ze,if_true]at b7;exact jI _ _ ⟨pp+1,none,rr,b7,rfl,by rw[get_set,get_set];exact k2,by rw[get_set,get_set];rfl,gs,by rw[get_set,get_set];exact k4,by exact Ax pQ,Bz⟩
      ·rw[show(s !=w)=true by simp[ze]]
       simp only[ze,if_false]at b7;k_upd;refine bB (bU k4 ?_);refine⟨_,fB (xs:=rr.map V.str) (by simp),?_⟩
       k_upd;have Bo:=uI x (some s) (some w);refine Hs (.of (by exact M5 hl Bo)) ?_
       k_upd;refine fC (xs:=rr.map V.str) (by simp) (by simp;rw[sizeLine_eq];exact ag 3 0 (aa (ae af (nk 1001)) (aa (ak ab af) (aa (ae au ab) (ae au bq)))) (by kd_p) LI hi pQ) .str ?_
       k_upd;refine jI _ _ ⟨pp+1,none,rr++[fM x (some s) (some w)],b7,by simp,by rw[get_set,get_set];exact k2,by rw[get_set,get_set];rfl,gs,by rw[get_set,get_set];exact k4,by simp;omega,fun y m=>?_⟩
       rcases List.mem_append.mp m with m|m
       ·exact Bz y m
       ·rw[List.mem_singleton.mp m];exact Bo
    ·rw[show(c==Str.ofString "\"")=false by apply beq_eq_false_iff_ne.mpr;exact LJ]
     k_upd;rw[oi,if_neg LJ]at b7;exact jI _ _ ⟨s,o,rr,b7,rfl,k2,k5,k7,k4,by exact Ax pQ,Bz⟩
   ·refine pe hJ ?_;clear hJ;intro s o rr b7 z1;subst z1;intro g2 g5 g7 g4 pQ Bz
    rw[List.length_map]at b7 pQ;rw[List.drop_length]at b7;have b7:(s,rr)=eO x (fO x) 0 none []:=b7;rw[es,←b7]at q;simp only[]at q;show cn G (n+8) env cS _ _ _ _;refine eM hG.nm hG.gl oJ hk F.c hs ?_;unfold oJ;k_upd;refine zj (cp.of (by exact td hl)).ok ?_
    k_upd;have tk:∀ (ys:List Str),List.take O.length (O++[some (ys.map V.str)])=O:=fun ys=>by simp
    by_cases y6:s<(x.length:Int)
    ·rw[if_pos y6]at q
     rw[show decide (s<(x.length:Int))=true by simpa using y6]
     k_upd;refine bB (bU g4 ?_);refine⟨_,fB (xs:=rr.map V.str) (by simp),?_⟩
     k_upd;have Bo:=uI x (some s) none;refine Hs (.of (by exact M5 hl Bo)) ?_
     k_upd;refine fC (xs:=rr.map V.str) (by simp) (by simp;rw[sizeLine_eq];exact ag 2 0 (aa (ae ab (nk 1001)) (aa (ae af ab) (ae af bq))) (by kd_p) LI pQ) .str ?_
     k_upd;refine bB ?_;k_upd;refine⟨_,oE,?_⟩;k_upd;refine n6 (ys:=rr++[fM x (some s) none]) (by simp) ?_ ?_
     ·have:=kl (M:=1000) (rr++[fM x (some s) none]) fun y m=>by
       rcases List.mem_append.mp m with m|m
       ·have:=Bz y m;exact Gm hl this
       ·rw[List.mem_singleton.mp m];exact Gm hl Bo
      have e0:(Str.ofString "").length=0:=rfl;rw[e0];simp only[List.length_append,List.length_singleton]at this ⊢;have:(rr.length+1)*1000≤1002*1000:=Nat.mul_le_mul_right _ (by exact ag 2 0 (aa (ae ab (nk 1001)) (aa (ae af ab) (ae (aj af aC) (nk 1002)))) (by kd_p) LI pQ)
      exact ag 2 0 (aa (ae af (rZ (aj ab aC) 1000)) (aa (ae (rZ (aj ab aC) 1000) (cY 1002 bw)) (ae (aj af (rZ (aj ab aC) 0)) bq))) (by kd_p) (by assumption) this
     ·refine⟨_,.cl .str,?_⟩
      have:((O++[some (rr.map V.str)]).set O.length (some (rr.map V.str++[V.str (fM x (some s) none)])))=O++[some ((rr++[fM x (some s) none]).map V.str)]:=by simp
      rw[this,tk];exact q
    ·rw[if_neg y6]at q
     rw[show decide (s<(x.length:Int))=false by simpa using y6]
     k_upd;refine bB ?_;k_upd;refine⟨_,oE,?_⟩;k_upd;refine n6 (ys:=rr) (by simp) ?_ ?_
     ·have:=kl (M:=1000) rr fun y m=>by have:=Bz y m;exact Gm hl this
      have e0:(Str.ofString "").length=0:=rfl;rw[e0];have:rr.length*1000≤1001*1000:=Nat.mul_le_mul_right _ (by exact ag 2 0 (aa (ae ab (nk 1001)) (aa (ae af ab) (ae af (nk 1001)))) (by kd_p) LI pQ)
      exact ag 2 0 (aa (ae af (rZ ab 1000)) (aa (ae (rZ ab 1000) (cY 1001 bw)) (ae (aj af (rZ ab 0)) bq))) (by kd_p) (by assumption) this
     ·refine⟨_,.cl .str,?_⟩
      rw[tk];exact q
  ·rw[show(!decide (34∈x.cps.toList))=true by simp[hq]]
   k_upd;refine⟨_,.cl .str,?_⟩;rw[List.take_length];have es:gQ x=x:=by unfold gQ;rw[if_neg (by simpa using hq)]
   rw[es]at q;exact q
noncomputable def Rn:Str:=⟨#[40]⟩
noncomputable def cls:Str:=⟨#[41]⟩
noncomputable def eP:List (Int×Str)→Int→Bool
 |[],o=>o==0
 |(_,c)::es,o=>if c=Rn then eP es (o+1) else if c=cls then(if o-1<0 then false else eP es (o-1)) else eP es o
theorem vN(p:Int)(c:Str)(es:List (Int×Str))(o:Int):eP ((p,c)::es) o=if c=Rn then eP es (o+1) else if c=cls then(if o-1<0 then false else eP es (o-1)) else eP es o:=rfl
noncomputable def checkOf(x:Str):Bool:=eP (fO (gQ x)) 0
theorem E2(hG:bx G)(dS:∀a∈tabs,G.Bs a=none){n:Nat}{O:Mu}{Q:V→Mu→Prop}{x:Str}(hx:x.cps.all (· < 128)=true)(hl:x.length≤1000)(ZL:(gQ x).cps.all (· < 128)=true)(q:Q (.bool (checkOf x)) O):aU G (n+10) (.ref 42) [.str x] [] O Q:=by
 refine lD hG (n:=n+1+8) (own:=dR) [(eH,.str x)] (fun P ys ks B Z r rk=>?_) (fun P env hP hs hc zI hk=>?_)
 ·refine aB.aN r ?_;intro y zz r1 r
  refine aB.bE r ?_;refine aB.bE rk ?_;exact⟨[y],.cons r1 .nil,fun S=>by kd_p⟩
 ·have F:=ZK P
  rw[F.eq];refine qw hG.nm hG.gl hk hs oK F.a ?_;unfold oK;k_upd;refine CK hG (E0 hG dS (n:=n) hx hl ?_);k_upd;show cn G (n+1+8) env dR _ _ _ _;refine wL hG dS F hs hk ZL rfl ?_;generalize VN:fO (gQ x)=IM;have q:Q (.bool (eP IM 0)) O:=VN▸q;refine dy (fun i ao ar=>∃o:Int,eP (IM.drop i) o=eP IM 0∧ar=O∧get ao 8=some (.int o)) (fun i v ao ar k hv hJ jI kF vH=>?_) (fun ao ar hJ=>?_) ⟨0,rfl,rfl,rfl⟩
  ·obtain⟨hi,rfl⟩:=km hv
   refine gJ hJ ?_;clear hJ;intro o b7 z1;subst z1;intro g8;rw[List.drop_eq_getElem_cons hi]at b7;generalize IM[i]=ev at b7;obtain⟨pp,c⟩:=ev;refine ny rfl (gw (gw ?_));have k8:get (set (set ao dZ (.int pp)) fk (.str c)) 8=some (.int o):=by rw[get_set,get_set];exact g8
   have k3:get (set (set ao dZ (.int pp)) fk (.str c)) 3=some (.str c):=gs;generalize set (set ao dZ (.int pp)) fk (.str c)=a9 at k3 k8;rw[vN]at b7;unfold ud;k_upd
   by_cases ho:c=Rn
   ·rw[show(c==Str.ofString "(")=true by rw[ho];rfl]
    rw[if_pos ho]at b7;k_upd;exact jI _ _ ⟨o+1,b7,rfl,gs⟩
   ·rw[show(c==Str.ofString "(")=false by apply beq_eq_false_iff_ne.mpr;exact ho]
    rw[if_neg ho]at b7;k_upd
    by_cases cj:c=cls
    ·rw[show(c==Str.ofString ")")=true by rw[cj];rfl]
     rw[if_pos cj]at b7;k_upd;have i8:get (set a9 8 (.int (o-1))) 8=some (.int (o-1)):=gs
     by_cases j4:o-1<0
     ·rw[if_pos j4]at b7
      k_upd;rw[show decide (o-1<0)=true by simpa using j4]
      k_upd;refine vH _ _ _ ⟨_,.cl .bool,?_⟩;rw[List.take_length,b7];exact q
     ·rw[if_neg j4]at b7
      k_upd;rw[show decide (o-1<0)=false by simpa using j4]
      k_upd;exact jI _ _ ⟨o-1,b7,rfl,i8⟩
    ·rw[show(c==Str.ofString ")")=false by apply beq_eq_false_iff_ne.mpr;exact cj]
     rw[if_neg cj]at b7;k_upd;exact jI _ _ ⟨o,b7,rfl,k8⟩
  ·refine gJ hJ ?_;clear hJ;intro o b7 z1;subst z1;intro g8
   rw[List.length_map,List.drop_length]at b7;show cn G (n+1+8) env dR _ _ _ _;refine eM hG.nm hG.gl oM hk F.c hs ?_;unfold oM;k_upd;refine⟨_,.cl .bool,?_⟩;rw[List.take_length];have b7:(o==0)=eP IM 0:=b7;rw[b7];exact q
noncomputable def gC:List Nat→List Int→Nat→Nat→Nat→List Int×Nat×Nat×Nat
 |[],cs,b,n,nt=>(cs,b,n,nt)
 |c::r,cs,b,n,nt=>if c=32 then gC r cs (b+1) (n+1) nt else if c=9 then
   (let IP:=if cs.length≤b then cs++List.replicate (b-cs.length+1) 0 else cs
   gC r (IP.set b (IP.getD b 0+1)) 0 (n+1) (nt+1)) else(cs,b,n,nt)
theorem o3(c:Nat)(r:List Nat)(cs:List Int)(b n nt:Nat):gC (c::r) cs b n nt=if c=32 then gC r cs (b+1) (n+1) nt else if c=9 then
   (let IP:=if cs.length≤b then cs++List.replicate (b-cs.length+1) 0 else cs
   gC r (IP.set b (IP.getD b 0+1)) 0 (n+1) (nt+1)) else(cs,b,n,nt):=rfl
noncomputable def zS(s:Str):List V:=match gC s.cps.toList [] 0 0 0 with
 |(cs,b,n,nt)=>[.str s,.int n,.int nt,.tuple [.tuple (cs.map .int),.int b],.bool (decide ((cs.length:Int)≤1))]
noncomputable def sY(K:Frag)(nm s:Str):Bool:=match typeIn K (.ref 173) with
 |some mc=>readsIn K 173 mc&&(match findCls K (.ref 173) mc nm with|some (.val (.str x _))=>x==s|_=>false)
 |none=>false
theorem VO(P:Params):sY (KP P) "S" " "=true:=by kd_p
theorem VP(P:Params):sY (KP P) "T" "\t"=true:=by kd_p
theorem wM(hG:bx G){n:Nat}{O:Mu}{Q:V→Mu→Prop}{nm s:Str}(hc:∀P,sY (KP P) nm s=true)(q:Q (.str s) O):sP G n nm (.raw (.ref 173)) O Q:=by
 obtain⟨P,hP⟩:=hG.K;intro A hA B Z st x I r;refine VR.jY r ?_;have X:(KP P).In st.heap:=hP▸I.jS;have h:=hc P;unfold sY at h;split at h
 ·rename_i mc hm
  simp only[Bool.and_eq_true]at h;obtain⟨h1,h2⟩:=h;split at h2
  ·rename_i y t hf
   have:=eq_of_beq h2;subst this;exact cls_value X h1 hf rfl (PV.here I .str q)
  ·exact iO h2
 ·exact iO h
noncomputable abbrev IQ:S:=.kz [46,47] (.tup (.cons (.attr (.glob 50) "S") (.cons (.attr (.glob 50) "T") .nil)))
noncomputable abbrev IS:S:=.asg (.name 48) (.list true .nil)
noncomputable abbrev Ro:S:=.CR (.name 18) (.name 21) (.name 49) (.int 0)
noncomputable abbrev wN(nm:Str)(e:E)(y:Stmt):Stmt:=.Assign [.Attribute (.Name (aI dF) (bj 0 (sk 1 y)).pos) nm (sk 1 y).pos] (bH aI e (sk 0 y)) y.pos
noncomputable abbrev forA(b:Ss)(y:Stmt):Stmt:=.For (gV aI (.name fk) (sk 0 y)) (.Attribute (.Name (aI dF) (bj 0 (sk 1 y)).pos) "raw" (sk 1 y).pos) (dP aI b (sb 0 y)) [] y.pos
noncomputable abbrev cc(K:Frag)(i:Nat):Stmt:=(du (ba K 128).body).getD i default
theorem VQ(P:Params):du (ba (KP P) 128).body=[wN "raw" (.var rj) (cc (KP P) 0),pB aI IQ (cc (KP P) 1),pB aI IS (cc (KP P) 2),pB aI Ro (cc (KP P) 3),forA kU (cc (KP P) 4),wN "n" (.var jV) (cc (KP P) 5),wN "nt" (.var HV) (cc (KP P) 6),wN "norm" mH (cc (KP P) 7),wN "is_simple" jC (cc (KP P) 8)]:=by kd_p
theorem VS(P:Params):(tR aI IQ (ba (KP P) 128).scope dg (cc (KP P) 1)&&tR aI IS (ba (KP P) 128).scope dg (cc (KP P) 2)&&tR aI Ro (ba (KP P) 128).scope dg (cc (KP P) 3) &&
 bP aI mH (ba (KP P) 128).scope (sk 0 (cc (KP P) 7))&&bP aI jC (ba (KP P) 128).scope (sk 0 (cc (KP P) 8))&&jT aI (ba (KP P) 128).scope dg fk&&cW aI kU (ba (KP P) 128).scope dg (sb 0 (cc (KP P) 4)))=true:=by kd_p
theorem pR(c d:Nat):((⟨#[c]⟩:Str)==⟨#[d]⟩)=decide (c=d):=by
 by_cases h:c=d
 ·subst h;simp
 ·have:((⟨#[c]⟩:Str)==⟨#[d]⟩)=false:=by
   apply beq_eq_false_iff_ne.mpr;intro e;simp at e;exact h e
  rw[this];simp[h]
structure rM(x:Addr)(O:Mu)(ao:aw)(ar:Mu)(cs:List Int)(b n nt j:Nat):Prop where
 ml:(ar[j]?:Option (Option (List V)))=some (some (cs.map .int))
 jl:O.length≤j
 tk:ar.take O.length=O
 self:get ao 45=some (.raw (.ref x))
 S:get ao 46=some (.str ⟨#[32]⟩)
 T:get ao 47=some (.str ⟨#[9]⟩)
 c:get ao 48=some (.ml j)
 b':get ao 18=some (.int b)
 n':get ao 21=some (.int n)
 VT:get ao 49=some (.int nt)
theorem yy{ar O:Mu}{j:Nat}{a:Option (List V)}(h:ar.take O.length=O)(hj:O.length≤j):(ar.set j a).take O.length=O:=by
 rw[List.take_set_of_le hj];exact h
theorem vO{ar O:Mu}{a:Option (List V)}(h:ar.take O.length=O):(ar++[a]).take O.length=O:=by
 have hl:O.length≤ar.length:=by
  have:=congrArg List.length h;simp at this;exact Gn this
 rw[List.take_append_of_le_length hl];exact h
theorem BA{n:Nat}{x:Addr}{O ar:Mu}{ao:aw}{cs:List Int}{b m nt j c:Nat}{k:Fl→aw→Mu→Prop}(W:rM x O ao ar cs b m nt j)(hb:b≤1000)(cj:cs.length≤2000)
  (h1:c=32→∀a9,rM x O a9 ar cs (b+1) (m+1) nt j→k .next a9 ar)
  (h2:c≠32→c=9→∀a9 aA j1,rM x O a9 aA ((if cs.length≤b then cs++List.replicate (b-cs.length+1) 0 else cs).set b ((if cs.length≤b then cs++List.replicate (b-cs.length+1) 0 else cs).getD b 0+1)) 0 (m+1) (nt+1) j1→k .next a9 aA)
  (h3:c≠32→c≠9→∀a9,rM x O a9 ar cs b m nt j→k .brk a9 ar):aX G bX n kU (set ao 3 (.str ⟨#[c]⟩)) ar k:=by
 have zF:(2:Int) ^ 63=9223372036854775808:=by decide
 have Ek:(2:Nat) ^ 24=16777216:=by decide
 have W1:rM x O (set ao 3 (.str ⟨#[c]⟩)) ar cs b m nt j:=⟨W.ml,W.jl,W.tk,gn W.self,gn W.S,gn W.T,gn W.c,gn W.b',gn W.n',gn W.VT⟩;have g3:get (set ao 3 (.str ⟨#[c]⟩)) 3=some (.str ⟨#[c]⟩):=gs;generalize set ao 3 (.str ⟨#[c]⟩)=U at W1 g3;obtain⟨w1,w2,w3,w4,w5,w6,w7,w8,w9,Rp⟩:=W1;unfold kU;k_upd;rw[pR]
 by_cases hc:c=32
 ·rw[show decide (c=32)=true by simpa using hc]
  k_upd;have i18:get (set U 21 (.int ((m:Int)+1))) 18=some (.int b):=gn w8;k_upd;refine h1 hc _ ⟨w1,w2,w3,?_,?_,?_,?_,?_,?_,?_⟩
  ·rw[get_set,get_set];exact w4
  ·rw[get_set,get_set];exact w5
  ·rw[get_set,get_set];exact w6
  ·rw[get_set,get_set];exact w7
  ·rw[get_set];rfl
  ·rw[get_set,get_set];rfl
  ·rw[get_set,get_set];exact Rp
 ·rw[show decide (c=32)=false by simpa using hc]
  k_upd;rw[pR]
  by_cases IT:c=9
  ·rw[show decide (c=9)=true by simpa using IT]
   k_upd;have ZM:get (set U 21 (.int ((m:Int)+1))) 49=some (.int nt):=gn Rp;k_upd;generalize rN:set (set U 21 (.int ((m:Int)+1))) 49 (.int ((nt:Int)+1))=b9;have VU:get b9 45=some (.raw (.ref x)):=by rw[←rN,get_set,get_set];exact w4
   have VV:get b9 46=some (.str ⟨#[32]⟩):=by rw[←rN,get_set,get_set];exact w5
   have VW:get b9 47=some (.str ⟨#[9]⟩):=by rw[←rN,get_set,get_set];exact w6
   have ZN:get b9 48=some (.ml j):=by rw[←rN,get_set,get_set];exact w7
   have VX:get b9 18=some (.int b):=by rw[←rN,get_set,get_set];exact w8
   have VY:get b9 21=some (.int ((m+1:Nat):Int)):=by rw[←rN,get_set,get_set];rfl
   have VZ:get b9 49=some (.int ((nt+1:Nat):Int)):=by rw[←rN,get_set];rfl
   clear ZM rN;have tail:∀ (gG:aw) (dK:Mu) (ds:List Int) (j3:Nat),get gG 45=some (.raw (.ref x))→get gG 46=some (.str ⟨#[32]⟩)→get gG 47=some (.str ⟨#[9]⟩)→get gG 48=some (.ml j3)→get gG 18=some (.int b)→get gG 21=some (.int ((m+1:Nat):Int))→get gG 49=some (.int ((nt+1:Nat):Int))→
     (dK[j3]?:Option (Option (List V)))=some (some (ds.map .int))→O.length≤j3→dK.take O.length=O→b<ds.length→ds.length≤5000→(∀a9 aA j1,rM x O a9 aA (ds.set b (ds.getD b 0+1)) 0 (m+1) (nt+1) j1→k .next a9 aA)→
     aX G bX n (.cons (.asg (.sub (.var 48) (.var 18)) (.bin .Add (.sub (.var 48) (.var 18)) (.int 1))) (.cons (.asg (.name 18) (.int 0)) .nil)) gG dK fun f a9 aA=>match f with
      |.next=>aX G bX n .nil a9 aA fun f a9 aA=>match f with | .next=>aX G bX n .nil a9 aA k|f=>k f a9 aA
      |f=>match f with | .next=>aX G bX n .nil a9 aA k|f=>k f a9 aA:=by
    intro gG dK ds j3 ZO ZP ZQ ZR a18 ZS ZT Rq IU ZU nV V0 hk;have hv:(ds.map V.int)[cE ((b:Nat):Int) (ds.map V.int).length]?=some (.int (ds.getD b 0)):=by
     unfold cE;rw[if_neg (by exact ag 1 0 (aa (ae ab bw) (dH (aM (az ab) aJ))) (by kd_p) hb)]
     simp[nV]
    k_upd;refine xO Rq hv (by exact ag 2 0 (aa (ae ab bw) (ai (cH (az af)) (az ab))) (by kd_p) hb) (.of (by simp;exact M6 V0)) ?_
    k_upd;refine xP Rq (by exact Int.natCast_nonneg _) (by simp;omega) (.of (by simp;exact M6 V0)) .int ?_
    k_upd;refine hk _ _ j3 ⟨?_,IU,yy ZU IU,?_,?_,?_,?_,?_,?_,?_⟩
    ·have bA:j3<dK.length:=(List.getElem?_eq_some_iff.mp Rq).1
     rw[List.getElem?_set_self bA,List.map_set]
     rfl
    ·rw[get_set];exact ZO
    ·rw[get_set];exact ZP
    ·rw[get_set];exact ZQ
    ·rw[get_set];exact ZR
    ·rw[get_set];rfl
    ·rw[get_set];exact ZS
    ·rw[get_set];exact ZT
   k_upd;refine fh w1 (cp.of (by simp;exact Gp cj)).ok ?_
   k_upd;rw[List.length_map]
   by_cases hle:cs.length≤b
   ·rw[show decide ((cs.length:Int)≤(b:Int))=true by simp;omega]
    k_upd;refine⟨.of (by simp),bK ?_⟩
    k_upd;refine fh w1 (cp.of (by simp;exact Gp cj)).ok ?_
    k_upd;rw[List.length_map];refine lq ⟨by exact ag 2 0 (aa (ae ab af) (ai (cH (zk (2 ^ 63))) (bh (bR (az af) (az ab)) bV))) (by kd_p) hle,by exact ag 2 0 (aa (ae af bw) (aa (ae ab (nk 2000)) (aM (bh (bR (az af) (az ab)) bV) (zk (2 ^ 63))))) (by kd_p) hb cj,by simp;exact ag 2 0 (aa (ae af bw) (aa (ae ab (nk 2000)) (ai (bh (bR (az af) (az ab)) bV) (zk 16777216)))) (by kd_p) hb cj⟩ ?_
    rw[eK,show((b:Int)-(cs.length:Int)+1).toNat=b-cs.length+1 by exact ag 2 0 (aa (ae ab af) (ax (dz (bh (bR (az af) (az ab)) bV)) (aj (bb af ab) aC))) (by kd_p) hle]
    show cB G n .Add (.ml j) (.list (List.replicate (b-cs.length+1) (V.int 0))) ar _;refine Hj w1 (fun y m=>by rw[List.eq_of_mem_replicate m];exact .int) (by simp;rw[sizeLine_eq];exact ag 2 0 (aa (ae ab bw) (aa (ae af ab) (ae (aj af (aj (bb ab af) aC)) bq))) (by kd_p) hb hle) ?_
    refine eB ?_;have V1:O.length≤ar.length:=by
     have:=congrArg List.length w3;simp at this;exact Gn this
    refine tail _ _ (cs++List.replicate (b-cs.length+1) 0) ar.length ?_ ?_ ?_ ?_ ?_ ?_ ?_ (by simp) V1 (vO w3) (by simp;exact ag 2 0 (aa (ae ab af) (ak af (aj ab (aj (bb af ab) aC)))) (by kd_p) hle) (by simp;exact ag 2 0 (aa (ae ab bw) (aa (ae af ab) (ae (aj af (aj (bb ab af) aC)) (nk 5000)))) (by kd_p) hb hle) fun a9 aA j1 w=>h2 hc IT a9 aA j1 (by rw[if_pos hle];exact w)
    ·rw[get_set];exact VU
    ·rw[get_set];exact VV
    ·rw[get_set];exact VW
    ·rw[get_set];rfl
    ·rw[get_set];exact VX
    ·rw[get_set];exact VY
    ·rw[get_set];exact VZ
   ·rw[show decide ((cs.length:Int)≤(b:Int))=false by simp;exact M7 hle]
    refine eB ?_;exact tail _ _ cs j VU VV VW ZN VX VY VZ w1 w2 w3 (by exact M7 hle) (by exact ag 1 0 (aa (ae ab (nk 2000)) (ae ab (nk 5000))) (by kd_p) cj) fun a9 aA j1 w=>h2 hc IT a9 aA j1 (by rw[if_neg hle];exact w)
  ·rw[show decide (c=9)=false by simpa using IT]
   k_upd;exact h3 hc IT _ ⟨w1,w2,w3,w4,w5,w6,w7,w8,w9,Rp⟩
theorem mS:∀ (l:List Nat) (cs:List Int) (b n nt M:Nat),b≤M→cs.length≤M+1→(gC l cs b n nt).1.length≤M+l.length+1∧(gC l cs b n nt).2.1≤M+l.length
 |[],cs,b,n,nt,M,h1,h2=>⟨by simp[gC];omega,by simp[gC];omega⟩
 |c::r,cs,b,n,nt,M,h1,h2=>by
  rw[o3]
  by_cases h:c=32
  ·rw[if_pos h]
   have:=mS r cs (b+1) (n+1) nt (M+1) (by exact FZ h1) (by exact yT h2)
   simp only[List.length_cons];exact M8 this
  ·rw[if_neg h]
   by_cases h':c=9
   ·rw[if_pos h']
    simp only[];have:=mS r ((if cs.length≤b then cs++List.replicate (b-cs.length+1) 0 else cs).set b ((if cs.length≤b then cs++List.replicate (b-cs.length+1) 0 else cs).getD b 0+1)) 0 (n+1) (nt+1) (M+1) (by exact Nat.zero_le _) (by
     rw[List.length_set];split
     ·simp;exact M9 h1 (by assumption)
     ·exact yT h2)
    simp only[List.length_cons];exact M8 this
   ·rw[if_neg h']
    simp only[List.length_cons];exact⟨by exact ag 3 0 (aa (ae au (aj af aC)) (ae au (aj (aj af (aj ab aC)) aC))) (by kd_p) h2,by exact ag 3 0 (aa (ae au af) (ae au (aj af (aj ab aC)))) (by kd_p) h1⟩
noncomputable def iL(st:Str)(cs:List Int)(b n nt:Nat):List (Str×V):=[("is_simple",.bool (decide ((cs.length:Int)≤1))),("norm",.tuple [.tuple (cs.map .int),.int b]),("nt",.int nt),("n",.int n),("raw",.str st)]
theorem BB(hG:bx G){n:Nat}{env:Env}{x dx:Addr}{O:Mu}{st:Str}{Q:Fl→aw→Mu→List (Str×V)→Prop}{P:Params}(hs:env.scope=(ba (KP P) 128).scope)(hk:(ba (KP P) 128).scope.kind=.function)(fY:st.length≤900)
  (q:∀ao ar cs b m nt,(cs,b,m,nt)=gC st.cps.toList [] 0 0 0→ar.take O.length=O→Q .next ao ar (iL st cs b m nt)):
  x9 G n env dg x dx (execs (du (ba (KP P) 128).body) env) (bc [] [(dF,.raw (.ref x)),(rj,.str st)]) O [] Q:=by
 have c:=VS P;have d1:=aL (aL (aL (aL (aL (aL c)))));have d2:=aR (aL (aL (aL (aL (aL c)))));have d3:=aR (aL (aL (aL (aL c))));have l7:=aR (aL (aL (aL c)));have l8:=aR (aL (aL c));have f3:=aR (aL c);have f4:=aR c;have Rr:aI dF=G.nm dF:=(hG.nm _).symm;rw[VQ P];unfold wN forA;rw[Rr];refine jf (um hG rfl (by simp[fNames]) (by simp) (by simp) (dE hG.nm hG.gl (.var rj) (y:=sk 0 (cc (KP P) 0)) rfl hs (bU rfl ⟨.str,?_⟩)) (dq rfl _ _ _))
 refine jf (C8 (sX hG.nm hG.gl IQ hk d1 hs ?_));k_upd;refine wM hG VO ?_;k_upd;refine wM hG VP ?_;k_upd;refine⟨.of (by simp),?_⟩
 k_upd;refine jf (C8 (sX hG.nm hG.gl IS hk d2 hs ?_));k_upd;refine⟨.of (by simp),(fun zz m=>nomatch m),?_⟩
 k_upd;refine jf (C8 (sX hG.nm hG.gl Ro hk d3 hs ?_));k_upd;refine jf (QJ (t:=st) hG rfl (by simp[fNames]) (by simp) rfl (fun zz zz=>rfl) ?_)
 generalize hw:gC st.cps.toList [] 0 0 0=w;have hlen:st.cps.toList.length=st.length:=by simp[Str.length]
 have fin:∀ao ar cs b m nt j,rM x O ao ar cs b m nt j→(cs,b,m,nt)=w→cs.length≤2000→
   x9 G n env dg x dx (execs [.Assign [.Attribute (.Name (G.nm dF) (bj 0 (sk 1 (cc (KP P) 5))).pos) "n" (sk 1 (cc (KP P) 5)).pos] (bH aI (.var jV) (sk 0 (cc (KP P) 5))) (cc (KP P) 5).pos,.Assign [.Attribute (.Name (G.nm dF) (bj 0 (sk 1 (cc (KP P) 6))).pos) "nt" (sk 1 (cc (KP P) 6)).pos] (bH aI (.var HV) (sk 0 (cc (KP P) 6))) (cc (KP P) 6).pos,.Assign [.Attribute (.Name (G.nm dF) (bj 0 (sk 1 (cc (KP P) 7))).pos) "norm" (sk 1 (cc (KP P) 7)).pos] (bH aI mH (sk 0 (cc (KP P) 7))) (cc (KP P) 7).pos,.Assign [.Attribute (.Name (G.nm dF) (bj 0 (sk 1 (cc (KP P) 8))).pos) "is_simple" (sk 1 (cc (KP P) 8)).pos] (bH aI jC (sk 0 (cc (KP P) 8))) (cc (KP P) 8).pos] env) ao ar [("raw",.str st)] Q:=by
  intro ao ar cs b m nt j W vA cj;refine jf (um hG W.self (by simp[fNames]) (by simp only[List.map_cons,List.map_nil];decide) (by simp) (dE hG.nm hG.gl (.var jV) (y:=sk 0 (cc (KP P) 5)) rfl hs (bU W.n' ⟨.int,?_⟩)) (dq rfl _ _ _))
  refine jf (um hG W.self (by simp[fNames]) (by simp only[List.map_cons,List.map_nil];decide) (by simp) (dE hG.nm hG.gl (.var HV) (y:=sk 0 (cc (KP P) 6)) rfl hs (bU W.VT ⟨.int,?_⟩)) (dq rfl _ _ _))
  have w1:=W.ml;have w7:=W.c;have w8:=W.b';refine jf (um hG W.self (by simp[fNames]) (by simp only[List.map_cons,List.map_nil];decide) (by simp) (dE hG.nm hG.gl mH l7 hs ?_) (dq rfl _ _ _))
  unfold mH;k_upd;refine Ej w1 (by simp;rw[sizeLine_eq];exact ag 1 0 (aa (ae ab (nk 2000)) (ae ab bq)) (by kd_p) cj) ?_
  k_upd;refine⟨.of (by simp),.tuple,?_⟩
  refine jf (um hG W.self (by simp[fNames]) (by simp only[List.map_cons,List.map_nil];decide) (by simp) (dE hG.nm hG.gl jC l8 hs ?_) (dq rfl _ _ _))
  unfold jC;k_upd;refine fh w1 (cp.of (by simp;exact Gp cj)).ok ?_
  k_upd;refine⟨.bool,QI ?_⟩;rw[List.length_map];exact q ao ar cs b m nt (hw▸vA) W.tk
 refine dy (fun i ao ar=>∃cs b m nt j,rM x O ao ar cs b m nt j∧gC (st.cps.toList.drop i) cs b m nt=w∧b≤i∧cs.length≤i+1) (fun i v ao ar k hv hJ jI kF vH=>?_) (fun ao ar hJ=>?_)
  ⟨[],0,0,0,O.length,⟨by simp,Nat.le_refl _,by simp,rfl,rfl,rfl,rfl,rfl,rfl,rfl⟩,hw,Nat.le_refl _,by simp⟩
 ·refine tj hJ ?_;clear hJ;intro cs b m nt j W b7 hb cj
  have hi:i<st.cps.toList.length:=by have:=(List.getElem?_eq_some_iff.mp hv).1;simpa using this
  have ZV:v=.str ⟨#[st.cps.toList[i]]⟩:=by
   rw[List.getElem?_map,List.getElem?_eq_getElem hi]at hv;simpa using hv.symm
  subst ZV;rw[List.drop_eq_getElem_cons hi,o3]at b7;generalize st.cps.toList[i]=c at b7;refine xV hG.nm hG.gl (.name fk) (y:=sk 0 (cc (KP P) 4)) f3 hs (gw ?_);refine eM hG.nm hG.gl kU hk f4 hs ?_;refine BA W (by exact ag 4 0 (aa (ae au dX) (aa (ax af au) (aa (ae aO ab) (aa (ak ab af) (ae aO bw))))) (by kd_p) fY hlen hb hi) (by exact Na fY hlen cj hi) (fun h a9 W'=>?_) (fun h h' a9 aA j1 W'=>?_) (fun h h' a9 W'=>?_)
  ·rw[if_pos h]at b7
   exact jI _ _ ⟨cs,b+1,m+1,nt,j,W',b7,by exact FZ hb,by exact yT cj⟩
  ·rw[if_neg h,if_pos h']at b7
   refine jI _ _ ⟨_,0,m+1,nt+1,j1,W',b7,by exact Nat.zero_le _,?_⟩
   rw[List.length_set];split
   ·simp;exact M9 hb (by assumption)
   ·exact yT cj
  ·rw[if_neg h,if_neg h']at b7
   exact kF _ _ (fin _ _ cs b m nt j W' b7 (by exact Na fY hlen cj hi))
 ·refine tj hJ ?_;clear hJ;intro cs b m nt j W b7 hb cj
  rw[List.length_map]at b7 hb cj;rw[List.drop_length]at b7;exact fin _ _ cs b m nt j W b7 (by exact ag 3 0 (aa (ae af dX) (aa (ax ab af) (aa (ae au (aj ab aC)) (ae au (nk 2000))))) (by kd_p) fY hlen cj)
theorem E3(P:Params):makesIn (KP P) 173=true:=by kd_p
theorem IV(P:Params):findIn (KP P) (.ref 173) "__init__"=some (some (.ref 128)):=by kd_p
theorem Rt(P:Params):typeIn (KP P) (.ref 128)=some (.type "function"):=by kd_p
theorem LK(P:Params):vz (KP P) 128=true:=by kd_p
theorem IW(P:Params)(y z:Value):∀S,peek (KP P) S (bindArgs (ba (KP P) 128) ⟨[y,z],[]⟩)=some [(aI dF,y),(aI rj,z)]:=fun S=>by kd_p
theorem Ru(P:Params):[dF,rj].all (jT aI (ba (KP P) 128).scope dg)=true:=by kd_p
theorem E4{n:Nat}{A:Around}(hA:bY (n+1) A)(C:Addr)(rest:List Value):bY n (A.under (.builtin "type.__call__" ⟨.ref C::rest,[]⟩)):=by
 refine⟨hA.handled,?_,?_,?_⟩
 ·have:=hA.depth
  show A.depth+Code.weight (.builtin "type.__call__" ⟨.ref C::rest,[]⟩)+n≤900;have:Code.weight (.builtin "type.__call__" ⟨.ref C::rest,[]⟩)=1:=rfl;exact ag 3 0 (aa (ae (aj au (aj ab aC)) dX) (aa (ax af aC) (ae (aj (aj au af) ab) dX))) (by kd_p) (by assumption) this
 ·have:=hA.units
  show A.units+Code.cUnits (.builtin "type.__call__" ⟨.ref C::rest,[]⟩)+16*n≤9000;have:Code.cUnits (.builtin "type.__call__" ⟨.ref C::rest,[]⟩)≤4:=Nat.le_of_ble_eq_true rfl;exact ag 3 0 (aa (ae (aj au (cY 16 (aj ab aC))) c7) (aa (ae af (nk 4)) (ae (aj (aj au af) (cY 16 ab)) c7))) (by kd_p) (by assumption) this
 ·show pushGuards (Code.guards (.builtin "type.__call__" ⟨.ref C::rest,[]⟩)) A.guards=some []
  rw[hA.guards];rfl
theorem uJ(hG:bx G){n:Nat}{O:Mu}{Q:V→Mu→Prop}{st:Str}(fY:st.length≤900)(q:Q (.obj (zS st)) O):aU G (n+3) (.ref 173) [.str st] [] O Q:=by
 intro A hA B Z s xs ks I rv rk;refine aB.aN rv ?_;intro y _ r1 r;refine aB.bE r ?_;refine aB.bE rk ?_;refine VR.fQ r1 ?_;intro _;rename_i t;obtain⟨P,hP⟩:=hG.K;have X:(KP P).In s.heap:=hP▸I.jS;obtain⟨h,g,d,tk,os⟩:=s;refine wpAny_call (make_core (init:=.ref 128) (kw:=[]) (makes_of X (E3 P)) (looks_findIn X (IV P)) (fun self=>bind_fn X self (Rt P)) (.inl rfl) ?_);have Lw:bY (n+2) (A.under (.builtin "type.__call__" ⟨[.ref 173,.str st t],[]⟩)):=E4 hA 173 [.str st t];have k0:∀b o,h.get? b=some o→((h.push emptyDict).push (instObj 173 h.objs.size)).get? b=some o:=fun b o e=>Heap.get?_push_of_some _ (Heap.get?_push_of_some _ e);have ex:((h.push emptyDict).push (instObj 173 h.objs.size)).get? (h.objs.size+1)=some (instObj 173 h.objs.size):=by
  have:=Heap.get?_push_size (h.push emptyDict) (o:=instObj 173 h.objs.size) rfl;rw[Heap.size_push]at this;exact this
 have ed:((h.push emptyDict).push (instObj 173 h.objs.size)).get? h.objs.size=some (dictOf [] 0):=Heap.get?_push_of_some _ (Heap.get?_push_size _ rfl);generalize hH:(h.push emptyDict).push (instObj 173 h.objs.size)=H at k0 ex ed;generalize V2:h.objs.size=dx at ex ed hH;have IX:h.get? dx=none:=by rw[←V2];exact cx h
 have nx:h.get? (dx+1)=none:=by rw[←V2];exact fz (Nat.le_succ _)
 have Ih:Inv G B Z O h:=I;have I1:Inv G B Z O H:=Ih.keeps k0;have I2:Inv G (B.add (dx+1) (instObj 173 dx)) Z O H:=I1.adopt ⟨Ih.eY nx,Ih.fI nx,Ih.i4 nx⟩ ex;have leB:ay.le B (B.add (dx+1) (instObj 173 dx)):=ay.iA (Ih.eY nx);have V3:(B.add (dx+1) (instObj 173 dx)) dx=none:=by unfold ay.add;rw[if_neg (Nat.ne_of_lt (Nat.lt_succ_self dx))];exact Ih.eY IX
 have X1:(KP P).In H:=hP▸I2.jS;have hf:=LK P;unfold vz at hf;split at hf
 ·rename_i oc od fd osl e
  have lE:ba (KP P) 128=fd:=by unfold ba;rw[e]
  simp only[Bool.and_eq_true,Bool.not_eq_true']at hf;obtain⟨⟨⟨⟨⟨⟨⟨f1,f2⟩,f3⟩,f4⟩,f5⟩,f6⟩,f7⟩,f8⟩:=hf;have fq:fd.body=.stmts (du fd.body):=by
   cases q:fd.body<;>first|rfl|(rw[q]at f1;cases f1)
  have hk:fd.scope.kind=.function:=eq_of_beq f8;have hb:=IW P (.ref (dx+1)) (.str st t);rw[lE]at hb;refine codeAny_call_function (s:=⟨H,g,d,tk,os⟩) Lw.room (X1 _ _ e) rfl f6 f7 fq (codeRec_of X1 f2) (kp_binds (s:=⟨H,g,d,tk,os⟩) X1 hb _ _ _ _ ?_);rw[List.isEmpty_iff.mp f3,eq_of_beq f4,eq_of_beq f5];refine dp ?_;have k1:=bN H {cls:=.type "frame",data:=.dict #[]};have k2:=pushCells_keeps fd.scope.names (H.push {cls:=.type "frame",data:=.dict #[]});have k:∀b o,H.get? b=some o→(pushCells (H.push {cls:=.type "frame",data:=.dict #[]}) fd.scope.names).get? b=some o:=fun b o e=>k2 b o (k1 b o e);have F:=bt.fresh (scope:=fd.scope) (cl:=[]) (fo:={cls:=.type "frame",data:=.dict #[]})
   (env:=newEnv fd.scope H.objs.size mainGlobals (cellsFrom (H.objs.size+1) fd.scope.names []) (fd.qualname++".<locals>.") (some 128) fd.code none builtinsNs) I2 ⟨_,rfl⟩ ⟨(fun _ _ m=>nomatch m),.nil⟩ (fun _ _=>trivial) rfl rfl rfl hk rfl rfl
  have si:=Ru P;rw[lE]at si;have V4:∀p∈[(dF,V.raw (.ref (dx+1))),(rj,.str st)],nR G (newEnv fd.scope H.objs.size mainGlobals (cellsFrom (H.objs.size+1) fd.scope.names []) (fd.qualname++".<locals>.") (some 128) fd.code none builtinsNs) dg p.1:=fun p hp=>by
   refine fA (G:=G) rfl hG.nm (List.all_eq_true.mp si p.1 ?_);simp only[List.mem_cons,List.not_mem_nil,or_false]at hp;rcases hp with rfl|rfl<;>simp
  have kF:fZ (G:=G) (B.add (dx+1) (instObj 173 dx)) Z [(aI dF,.ref (dx+1)),(aI rj,.str st t)] [(dF,V.raw (.ref (dx+1))),(rj,.str st)]:=by
   rw[←hG.nm,←hG.nm];exact .cons .raw (.cons .str .nil)
  refine jm (s:={(⟨H,g,d,tk,os⟩:Shared) with heap:=_}) kF V4 (I2.keeps k) F ?_
  intro bf EU F1 P1;refine⟨P1.inv.noLimit,codeAny_func ?_⟩;have V5:∀ {a o},H.get? a=some o→a<H.objs.size:=fun e=>Heap.lt_size e;have V6:∀a∈fa G (newEnv fd.scope H.objs.size mainGlobals (cellsFrom (H.objs.size+1) fd.scope.names []) (fd.qualname++".<locals>.") (some 128) fd.code none builtinsNs) dg,H.get? a=none:=fun a' m=>by
   rcases eu m with e|⟨n',ew⟩
   ·rw[e];exact cx _
   ·have m':(n',a')∈cellsFrom (H.objs.size+1) fd.scope.names []:=mem_of_lookup ew
    have ok:=cJ fd.scope.names (H.push {cls:=.type "frame",data:=.dict #[]}) (H.objs.size+1) [] [] (fun _ _ m=>nomatch m) (fun _ _ m=>nomatch m) .nil (by rw[Heap.size_push];exact Nat.le_refl _)
    rw[Heap.size_push]at ok;rcases ok.1 n' a' m' with z|z
    ·cases z
    ·exact fz (by omega)
  have V7:∀n' c,(n',c)∈(newEnv fd.scope H.objs.size mainGlobals (cellsFrom (H.objs.size+1) fd.scope.names []) (fd.qualname++".<locals>.") (some 128) fd.code none builtinsNs).cells→c≠dx:=fun n' c m z=>by
   have m':(n',c)∈cellsFrom (H.objs.size+1) fd.scope.names []:=m;have ok:=cJ fd.scope.names (H.push {cls:=.type "frame",data:=.dict #[]}) (H.objs.size+1) [] [] (fun _ _ m=>nomatch m) (fun _ _ m=>nomatch m) .nil (by rw[Heap.size_push];exact Nat.le_refl _)
   rw[Heap.size_push]at ok;rcases ok.1 n' c m' with y|y
   ·cases y
   ·have h2:=V5 ed
    have h3:H.objs.size+1≤c:=y.2;rw[z]at h3;exact Nat.lt_irrefl _ (Nat.lt_of_lt_of_le h2 (Nat.le_of_succ_le h3))
  have vP:uk G (newEnv fd.scope H.objs.size mainGlobals (cellsFrom (H.objs.size+1) fd.scope.names []) (fd.qualname++".<locals>.") (some 128) fd.code none builtinsNs) dg (B.add (dx+1) (instObj 173 dx)) Z (dx+1) dx:=
   ⟨ay.c9 ..,V3,Ih.fI IX,Ih.i4 IX,(fun m=>by have:=V6 dx m;rw[ed]at this;exact fe this),(fun z=>Nat.lt_irrefl _ (show H.objs.size<H.objs.size from by have h9:=V5 ed;rw[←show H.objs.size=dx from z]at h9;exact h9)),V7⟩
  have V8:bf.get? dx=some (dictOf [] 0):=P1.kept (k _ _ ed) vP.f vP.a vP.t;have ii:kG (B.add (dx+1) (instObj 173 dx)) Z bf dx []:=⟨[],0,V8,(fun _ m=>nomatch m),Nat.le_refl _,(fun _ m=>nomatch m),fun _ _=>rfl⟩;have body:=BB hG (n:=n+1) (env:=newEnv fd.scope H.objs.size mainGlobals (cellsFrom (H.objs.size+1) fd.scope.names []) (fd.qualname++".<locals>.") (some 128) fd.code none builtinsNs) (x:=dx+1) (dx:=dx) (O:=O) (st:=st) (P:=P)
   (Q:=fun r ao ar L=>r=.next∧ar.take O.length=O∧∃cs b m nt,(cs,b,m,nt)=gC st.cps.toList [] 0 0 0∧L=iL st cs b m nt) (by rw[lE];rfl) (by rw[lE];exact hk) fY (fun ao ar cs b m nt hw ht=>⟨rfl,ht,cs,b,m,nt,hw,rfl⟩)
  rw[lE]at body;refine wpAny_mono (body _ (Lw.deeper _) _ Z _ P1.inv F1 vP ii) ?_ fun _ _ x=>x.elim;rintro fl s' ⟨r,ao,ar,L,B',aH,⟨rfl,ht,cs,b,m,nt,hw,rfl⟩,P',F',i',r'⟩;cases r';have P:=(P1.more (k _ _ ed) vP.f vP.a vP.t).trans P';have len:Z.length=O.length:=I.len;have ZW:∀a∈dx::fa G (newEnv fd.scope H.objs.size mainGlobals (cellsFrom (H.objs.size+1) fd.scope.names []) (fd.qualname++".<locals>.") (some 128) fd.code none builtinsNs) dg,h.get? a=none:=fun a m=>by
   rcases List.mem_cons.mp m with rfl|m
   ·exact IX
   ·have:=V6 a m
    cases z:h.get? a with
    |none=>rfl
    |some o=>rw[k0 a o z]at this;exact fe this
  have out:=aG.outside (s:=⟨h,g,d,tk,os⟩) I.ei.1 (fun b o eb=>k b o (k0 b o eb)) .heap P ZW;rw[len,ht]at out;refine mq i'.ex ?_;intro es kk e2 hsk hl h1 h2;have ZX:B' (dx+1)=some (instObj 173 dx):=P.le _ _ (ay.c9 ..);have V9:B' dx=none:=P.eY (k _ _ ed) V3 vP.a;have I3:Inv G (B'.add dx (dictOf es kk)) Z O s'.heap:=out.inv.adopt ⟨V9,vP.a,vP.t⟩ e2;have E5:ay.le B' (B'.add dx (dictOf es kk)):=ay.iA V9;refine gJ (h1 ("raw",.str st) (by simp[iL])) ?_;intro u0 a0 v0 c0
  refine gJ (h1 ("n",.int m) (by simp[iL])) ?_;intro u1 a1 v1 c1
  refine gJ (h1 ("nt",.int nt) (by simp[iL])) ?_;intro u2 a2 v2 c2
  refine gJ (h1 ("norm",.tuple [.tuple (cs.map .int),.int b]) (by simp[iL])) ?_;intro u3 a3 v3 c3
  refine gJ (h1 ("is_simple",.bool (decide ((cs.length:Int)≤1))) (by simp[iL])) ?_;intro u4 a4 v4 c4
  have ZY:Cl (.tuple [.tuple (cs.map .int),.int b]):=.tuple fun x m=>by
   simp only[List.mem_cons,List.not_mem_nil,or_false]at m;rcases m with rfl|rfl
   ·exact .tuple fun y hy=>by refine aW (List.mem_map.mp hy) ?_;intro i _ z1;subst z1;exact .int
   ·exact .int
  have ZZ:zS st=[.str st,.int m,.int nt,.tuple [.tuple (cs.map .int),.int b],.bool (decide ((cs.length:Int)≤1))]:=by unfold zS;rw[←hw]
  have vr:VR (B'.add dx (dictOf es kk)) Z (.obj (zS st)) (.ref (dx+1)):=by
   rw[ZZ];have ne:dx+1≠dx:=Nat.succ_ne_self dx;have fx:(B'.add dx (dictOf es kk)) (dx+1)=some (instObj 173 dx):=by unfold ay.add;rw[if_neg ne];exact ZX
   have all:aB (B'.add dx (dictOf es kk)) Z [.str st,.int m,.int nt,.tuple [.tuple (cs.map .int),.int b],.bool (decide ((cs.length:Int)≤1))] [u0,u1,u2,u3,u4]:=
    .cons ((v0.mono E5 (List.prefix_refl _)).clean .str Z) (.cons ((v1.mono E5 (List.prefix_refl _)).clean .int Z) (.cons ((v2.mono E5 (List.prefix_refl _)).clean .int Z) (.cons ((v3.mono E5 (List.prefix_refl _)).clean ZY Z) (.cons ((v4.mono E5 (List.prefix_refl _)).clean .bool Z) .nil))))
   refine .obj (es:=es) (vs:=[u0,u1,u2,u3,u4]) fx (ay.c9 ..) ⟨fun i nm hi=>?_,fun nm hm=>h2 nm ?_⟩ rfl all.2
   ·match i,hi with
    |0,hi=>cases hi;exact⟨u0,rfl,a0,c0⟩
    |1,hi=>cases hi;exact⟨u1,rfl,a1,c1⟩
    |2,hi=>cases hi;exact⟨u2,rfl,a2,c2⟩
    |3,hi=>cases hi;exact⟨u3,rfl,a3,c3⟩
    |4,hi=>cases hi;exact⟨u4,rfl,a4,c4⟩
    |i+5,hi=>cases hi
   ·simp only[iL,List.map_cons,List.map_nil]
    simp only[sO,List.mem_cons,List.not_mem_nil,or_false]at hm;rcases hm with rfl|rfl|rfl<;>decide
  have Wa:aG G [] B Z ⟨h,g,d,tk,os⟩ (B'.add dx (dictOf es kk)) Z O s':=⟨(leB.trans out.le).trans E5,List.prefix_refl _,I3,out.keep,out.bL,out.rest,fun a ha=>by
   by_cases z:a=dx
   ·subst z;exact .inr (.inr IX)
   ·have Bg:B' a≠none:=by unfold ay.add at ha;rw[if_neg z]at ha;exact ha
    rcases out.dD a Bg with y|y
    ·by_cases z2:a=dx+1
     ·subst z2;exact .inr (.inr nx)
     ·exact .inl (by unfold ay.add at y;rw[if_neg z2]at y;exact y)
    ·exact .inr y,out.c8⟩
  exact⟨rfl,.obj (zS st),O,_,Z,q,Wa,vr⟩
 ·exact iO hf
structure mT where
 raw:Str
 n:Int
 nt:Int
 cs:List Int
 b:Int
 s:Bool
noncomputable def mT.v(w:mT):List V:=[.str w.raw,.int w.n,.int w.nt,.tuple [.tuple (w.cs.map .int),.int w.b],.bool w.s]
structure mT.Ok(w:mT):Prop where
 cl:w.cs.length≤950
 c0:∀c∈w.cs,0≤c∧c≤1000
 b0:0≤w.b∧w.b≤950
 Z0:0≤w.nt∧w.nt≤1000
noncomputable def mT.long(w:mT):Int:=max ((w.cs.length:Int)-1) w.b
noncomputable def mU(cs:List Int)(ts:Nat):Nat→Int
 |0=>0
 |k+1=>mU cs ts k+(((ts+k)/ts:Nat):Int)*cs.getD (ts+k) 0
noncomputable def mT.ind(w:mT)(ts:Nat):Int:=w.b+ts*(mU w.cs ts (w.cs.length-ts)+w.nt)
theorem rO{cs:List Int}{ts:Nat}(Wb:1≤ts)(h:∀c∈cs,0≤c∧c≤1000):∀k,ts+k≤1001→0≤mU cs ts k∧mU cs ts k≤k*1001000
 |0,_=>⟨Int.le_refl _,by simp[mU]⟩
 |k+1,hk=>by
  obtain⟨i1,i2⟩:=rO Wb h k (by exact Nb hk)
  have h1:(ts+k)/ts≤1001:=Nat.le_trans (Nat.div_le_self _ _) (by exact Nb hk)
  have h2:0≤cs.getD (ts+k) 0∧cs.getD (ts+k) 0≤1000:=by
   rw[List.getD_eq_getElem?_getD];cases q:cs[ts+k]? with
   |none=>simp
   |some c=>exact h c (List.mem_of_getElem? q)
  have h3:(((ts+k)/ts:Nat):Int)*cs.getD (ts+k) 0≤1001*1000:=Int.mul_le_mul (by exact_mod_cast h1) h2.2 h2.1 (by decide)
  have h4:0≤(((ts+k)/ts:Nat):Int)*cs.getD (ts+k) 0:=Int.mul_nonneg (Int.natCast_nonneg _) h2.1;unfold mU;generalize (((ts+k)/ts:Nat):Int)*cs.getD (ts+k) 0=z at h3 h4;constructor
  ·exact ag 2 2 (aa (ae aC af) (aa (ae (aj af (aj ab aC)) (nk 1001)) (aa (ai aJ aK) (aa (ai aK (OS (az ab) 1001000)) (aa (ai aq (xr 1001 (zk 1000))) (aa (ai aJ aq) (ai aJ (bh aK aq)))))))) (by kd_p) Wb hk i1 i2 h3 h4
  ·have:(((k+1:Nat)):Int)*1001000=k*1001000+1001000:=by rw[Int.natCast_add,Int.add_mul];rfl
   exact ag 1 2 (aa (ai aK (OS (az ab) 1001000)) (aa (ai aq (xr 1001 (zk 1000))) (aa (ai aJ aq) (ai (bh aK aq) (OS (az (aj ab aC)) 1001000))))) (by kd_p) i2 h3 h4
theorem rP(hG:bx G){n:Nat}{O:Mu}{Q:V→Mu→Prop}{w:mT}(hw:w.Ok)(q:Q (.int w.long) O):aU G (n+1) (.ref 135) [.obj w.v] [] O Q:=by
 refine fN hG (st:=fR) (own:=kB) [(dF,.obj w.v)] (fun P ys ks B Z r rk=>?_) ?_
 ·refine aB.aN r ?_;intro y zz r1 r
  refine aB.bE r ?_;refine aB.bE rk ?_;exact⟨[y],.cons r1 .nil,fun S=>by kd_p⟩
 ·unfold fR
  k_upd;refine fE hG 3 rfl rfl ?_;k_upd;have:=hw.cl;refine n5 (cp.of (by simp;exact Gq this)).ok ?_
  k_upd;refine zl ?_;refine⟨.int,?_⟩;rw[List.take_length,List.length_map];exact q
theorem uK(hG:bx G){n:Nat}{O:Mu}{Q:V→Mu→Prop}{w:mT}{ts:Nat}(hw:w.Ok)(h1:1≤ts)(h2:ts≤1000)(q:Q (.int (w.ind ts)) O):aU G (n+1) (.ref 142) [.obj w.v,.int ts] [] O Q:=by
 refine fN hG (st:=lZ) (own:=se) [(dF,.obj w.v),(A1,.int ts)] (fun P ys ks B Z r rk=>?_) ?_
 ·refine aB.aN r ?_;intro y zz r1 r
  refine aB.aN r ?_;intro z zz r2 r;refine aB.bE r ?_;refine aB.bE rk ?_;exact⟨[y,z],.cons r1 (.cons r2 .nil),fun S=>by kd_p⟩
 ·have cj:=hw.cl
  unfold lZ;k_upd;refine fE hG 3 rfl rfl ?_;k_upd;try refine gN ?_
  k_upd;refine n5 (cp.of (by simp;exact Gq cj)).ok ?_
  k_upd;rw[List.length_map];refine oD ?_;refine⟨_,Iter.gE (eJ (by exact ag 1 0 (aa (ae aC ab) (aa (ae ab bw) (ai (zk (-1000000)) (az ab)))) (by kd_p) h1 h2) (by exact ag 1 0 (aa (ae aC ab) (aa (ae ab bw) (ai (az ab) (zk 1000000)))) (by kd_p) h1 h2) (by exact ag 1 0 (aa (ae ab (nk 950)) (ai (zk (-1000000)) (az ab))) (by kd_p) cj) (by exact ag 1 0 (aa (ae ab (nk 950)) (ai (az ab) (zk 1000000))) (by kd_p) cj)),?_⟩
  refine dy (fun i ao ar=>ar=O∧get ao 55=some (.int (mU w.cs ts i))∧get ao 54=some (.int ts)∧get ao 48=some (.tuple (w.cs.map .int))∧get ao 53=some (.int w.b)∧get ao 45=some (.obj w.v)) (fun i x ao ar k hx hJ jI kF vH=>?_) (fun ao ar hJ=>?_) ⟨rfl,rfl,rfl,rfl,rfl,rfl⟩
  ·refine sJ hJ ?_;clear hJ;intro z1;subst z1;intro Rv Wc Wd We IY
   have hi:i<(cI (ts:Int) (w.cs.length:Int)).length:=(List.getElem?_eq_some_iff.mp hx).1;have hlen:(cI (ts:Int) (w.cs.length:Int)).length=w.cs.length-ts:=by simp[cI]<;>omega
   have yk:x=.int ((ts+i:Nat):Int):=by
    unfold cI at hx;rw[List.getElem?_map]at hx;rw[List.getElem?_range (by unfold cI at hi;simpa using hi)]at hx
    simp at hx;rw[←hx];simp
   subst yk;rw[hlen]at hi;have k56:get (set ao 56 (.int ((ts+i:Nat):Int))) 56=some (.int ((ts+i:Nat):Int)):=gs;have k55:get (set ao 56 (.int ((ts+i:Nat):Int))) 55=some (.int (mU w.cs ts i)):=gn Rv;have Z1:get (set ao 56 (.int ((ts+i:Nat):Int))) 54=some (.int ts):=gn Wc;have Z2:get (set ao 56 (.int ((ts+i:Nat):Int))) 48=some (.tuple (w.cs.map .int)):=gn Wd;have Z3:get (set ao 56 (.int ((ts+i:Nat):Int))) 53=some (.int w.b):=gn We;have LL:get (set ao 56 (.int ((ts+i:Nat):Int))) 45=some (.obj w.v):=gn IY;first|show aX _ _ _ _ _ _ _|show d8 _ _ _ _ _ _ _|skip
   generalize set ao 56 (.int ((ts+i:Nat):Int))=a9 at *;k_upd;have Wf:((ts:Int)).natAbs.log2<9000:=by
    rw[Int.natAbs_natCast];have:=(Nat.log2_lt (by exact ag 1 0 (aa (ae aC ab) (aa (ae ab bw) (FV ab b6))) (by kd_p) h1 h2:ts≠0)).mpr (show ts<2 ^ 10 by exact ag 1 0 (aa (ae aC ab) (aa (ae ab bw) (ak ab (nk (2 ^ 10))))) (by kd_p) h1 h2)
    exact ag 1 0 (aa (ak ab fb) (ak ab c7)) (by kd_p) this
   refine dO ⟨by exact ag 1 0 (aa (ae aC ab) (aa (ae ab bw) (fH (az ab) aJ))) (by kd_p) h1 h2,Wf⟩ ?_
   rw[show((ts+i:Nat):Int).fdiv (ts:Int)=(((ts+i)/ts:Nat):Int) by rw[Int.fdiv_eq_ediv_of_nonneg _ (by exact Int.natCast_nonneg _)];simp]
   k_upd;have hv:(w.cs.map V.int)[((ts+i:Nat):Int).toNat]?=some (.int (w.cs.getD (ts+i) 0)):=by
    rw[Int.toNat_natCast];have:ts+i<w.cs.length:=by exact ag 4 0 (aa (ak au (bb af aO)) (aa (ax ab (bb af aO)) (ak (aj aO au) af))) (by kd_p) hi hlen
    simp[this]
   refine jw hv (by exact Int.natCast_nonneg _) (.of (by simp;exact Gq cj)) ?_
   have hd:(ts+i)/ts≤1001:=Nat.le_trans (Nat.div_le_self _ _) (by exact ag 4 0 (aa (ae af (nk 950)) (aa (ak au (bb af aO)) (aa (ax ab (bb af aO)) (ae (aj aO au) (nk 1001))))) (by kd_p) cj hi hlen)
   have IZ:0≤w.cs.getD (ts+i) 0∧w.cs.getD (ts+i) 0≤1000:=by
    rw[List.getD_eq_getElem?_getD];cases q:w.cs[ts+i]? with
    |none=>simp
    |some c=>exact hw.c0 c (List.mem_of_getElem? q)
   refine gg (gZ.sz (j:=10) (k:=10) (kH (m:=1002) (Int.lt_of_lt_of_le (by decide) (Int.natCast_nonneg _)) (by exact_mod_cast Nat.lt_succ_of_le hd) (by decide)) (kH (m:=1001) (by exact ag 0 1 (aa (aT (ai aJ aq) (ai aq (zk 1000))) (aM (cH (az (nk 1001))) aq)) (by kd_p) IZ) (by exact ag 0 1 (aa (aT (ai aJ aq) (ai aq (zk 1000))) (aM aq (az (nk 1001)))) (by kd_p) IZ) (by decide)) (by decide)) ?_
   k_upd;exact jI _ _ ⟨rfl,gs,gn Z1,gn Z2,gn Z3,gn LL⟩
  ·refine sJ hJ ?_;clear hJ;intro z1;subst z1;intro Rv Wc Wd We IY
   have hlen:(cI (ts:Int) (w.cs.length:Int)).length=w.cs.length-ts:=by simp[cI]<;>omega
   rw[hlen]at Rv;k_upd;refine fE hG 2 rfl rfl ?_;k_upd;have Wg:=hw.Z0;obtain⟨b1,b2⟩:0≤mU w.cs ts (w.cs.length-ts)∧mU w.cs ts (w.cs.length-ts)≤1001*1001000:=by
    by_cases hle:ts≤w.cs.length
    ·obtain⟨a,b⟩:=rO h1 hw.c0 (w.cs.length-ts) (by exact ag 2 0 (aa (ae ab (nk 950)) (aa (ae af ab) (ae (aj af (bb ab af)) (nk 1001)))) (by kd_p) cj hle)
     refine⟨a,Int.le_trans b (Int.mul_le_mul_of_nonneg_right (by exact ag 2 0 (aa (ae aC ab) (aa (ae ab bw) (aa (ae af (nk 950)) (aa (ae ab af) (ai (az (bb af ab)) (zk 1001)))))) (by kd_p) h1 h2 cj hle) (by decide))⟩
    ·rw[show w.cs.length-ts=0 by exact ag 3 0 (aa (ax ab (bb au af)) (aa (dH (ae af au)) (ax (bb au af) b6))) (by kd_p) hlen hle];exact⟨Int.le_refl _,by simp[mU]⟩
   refine gg (gZ.sz (j:=10) (k:=40) (kH (m:=1001) (by exact ag 1 0 (aa (ae aC ab) (aa (ae ab bw) (aM (cH (az (nk 1001))) (az ab)))) (by kd_p) h1 h2) (by exact ag 1 0 (aa (ae aC ab) (aa (ae ab bw) (aM (az ab) (az (nk 1001))))) (by kd_p) h1 h2) (by decide)) (kH (m:=1099511627776) (by exact ag 0 2 (aa (aT (ai aJ aq) (ai aq (zk 1000))) (aa (ai aJ aK) (aa (ai aK (xr 1001 (zk 1001000))) (aM (cH (az (nk 1099511627776))) (bh aK aq))))) (by kd_p) Wg b1 b2) (by exact ag 0 2 (aa (aT (ai aJ aq) (ai aq (zk 1000))) (aa (ai aJ aK) (aa (ai aK (xr 1001 (zk 1001000))) (aM (bh aK aq) (az (nk 1099511627776)))))) (by kd_p) Wg b1 b2) (by decide)) (by decide)) ?_
   k_upd;refine⟨.int,?_⟩;rw[List.take_length];exact q
noncomputable def sy(s:Str):mT:=match gC s.cps.toList [] 0 0 0 with
 |(cs,b,n,nt)=>⟨s,n,nt,cs,b,decide ((cs.length:Int)≤1)⟩
theorem qL:∀ (l:List Nat) (cs:List Int) (b n nt M:Nat),b≤M→nt≤M→(∀c∈cs,0≤c∧c≤M)→(∀c∈(gC l cs b n nt).1,0≤c∧c≤((M+l.length:Nat):Int))∧(gC l cs b n nt).2.1≤M+l.length∧(gC l cs b n nt).2.2.2≤M+l.length
 |[],cs,b,n,nt,M,h1,h2,h3=>⟨h3,h1,h2⟩
 |c::r,cs,b,n,nt,M,h1,h2,h3=>by
  rw[o3];have e:M+(c::r).length=(M+1)+r.length:=by simp;exact ag 2 0 (ax (aj af (aj ab aC)) (aj (aj af aC) ab)) (by kd_p)
  rw[e]
  by_cases h:c=32
  ·rw[if_pos h]
   exact qL r cs (b+1) (n+1) nt (M+1) (by exact FZ h1) (by exact Ax h2) fun c m=>by have:=h3 c m;exact Nc this
  ·rw[if_neg h]
   by_cases h':c=9
   ·rw[if_pos h']
    simp only[];refine qL r _ 0 (n+1) (nt+1) (M+1) (by exact Nat.zero_le _) (by exact FZ h2) fun d m=>?_
    have I4:∀d∈(if cs.length≤b then cs++List.replicate (b-cs.length+1) 0 else cs),0≤d∧d≤(M:Int):=by
     intro d m;split at m
     ·rcases List.mem_append.mp m with m|m
      ·exact h3 d m
      ·rw[List.eq_of_mem_replicate m];exact ag 1 0 (aT (ai aJ aJ) (ai aJ (az ab))) (by kd_p)
     ·exact h3 d m
    generalize (if cs.length≤b then cs++List.replicate (b-cs.length+1) 0 else cs)=ds at m I4
    have hg:0≤ds.getD b 0∧ds.getD b 0≤(M:Int):=by
     rw[List.getD_eq_getElem?_getD];cases q:ds[b]? with
     |none=>simp
     |some c=>exact I4 c (List.mem_of_getElem? q)
    rcases List.mem_or_eq_of_mem_set m with m|m
    ·have:=I4 d m;exact Nc this
    ·rw[m];exact ag 1 2 (aa (aT (ai aJ aK) (ai aK (az ab))) (aa (aS aq (bh aK bV)) (aT (ai aJ (bh aK bV)) (ai (bh aK bV) (az (aj ab aC)))))) (by kd_p) hg m
   ·rw[if_neg h']
    exact⟨fun d m=>by have:=h3 d m;exact ag 2 1 (aa (aT (ai aJ aq) (ai aq (az af))) (aT (ai aJ aq) (ai aq (az (aj (aj af aC) ab))))) (by kd_p) this,by simp only[];exact Nd h1,by simp only[];exact Nd h2⟩
theorem Dl{s:Str}(h:s.length≤900):(sy s).Ok:=by
 have hl:s.cps.toList.length=s.length:=by simp[Str.length]
 have h1:=mS s.cps.toList [] 0 0 0 0 (Nat.le_refl _) (by simp)
 have h2:=qL s.cps.toList [] 0 0 0 0 (Nat.le_refl _) (Nat.le_refl _) (fun zz m=>nomatch m);unfold sy;generalize gC s.cps.toList [] 0 0 0=w at h1 h2;obtain⟨cs,b,n,nt⟩:=w;simp only[]at h1 h2;exact⟨by show cs.length≤950;exact ag 4 0 (aa (ae au dX) (aa (ax af au) (aa (aT (ae aO (aj (aj b6 af) aC)) (ae ab (aj b6 af))) (ae aO (nk 950))))) (by kd_p) h hl h1,fun c m=>by have:=h2.1 c m;exact ag 2 1 (aa (ae af dX) (aa (ax ab af) (aa (aT (ai aJ aq) (ai aq (az (aj b6 ab)))) (aT (ai aJ aq) (ai aq (zk 1000)))))) (by kd_p) h hl this,⟨by show(0:Int)≤(b:Int);exact Int.natCast_nonneg _,by show(b:Int)≤950;exact ag 4 0 (aa (ae au dX) (aa (ax af au) (aa (aT (ae ab (aj (aj b6 af) aC)) (ae aO (aj b6 af))) (ai (az aO) (zk 950))))) (by kd_p) h hl h1⟩,⟨by show(0:Int)≤(nt:Int);exact Int.natCast_nonneg _,by show(nt:Int)≤1000;omega⟩⟩
noncomputable def pS(u w:mT):Bool:=if w.n≤u.n then false else if u.s&&w.s then decide (u.nt≤w.nt) else(List.range (max u.long w.long).toNat).all fun j=>decide (u.ind (2+j)<w.ind (2+j))
theorem I5(hG:bx G){n:Nat}{O:Mu}{Q:V→Mu→Prop}{u w:mT}(hu:u.Ok)(hw:w.Ok)(q:Q (.bool (pS u w)) O):aU G (n+2) (.ref 163) [.obj u.v,.obj w.v] [] O Q:=by
 refine fN hG (n:=n+1) (st:=CU) (own:=K9) [(dF,.obj u.v),(zp,.obj w.v)] (fun P ys ks B Z r rk=>?_) ?_
 ·refine aB.aN r ?_;intro y zz r1 r
  refine aB.aN r ?_;intro z zz r2 r;refine aB.bE r ?_;refine aB.bE rk ?_;exact⟨[y,z],.cons r1 (.cons r2 .nil),fun S=>by kd_p⟩
 ·have ul:=hu.cl
  have wl:=hw.cl;have ub:=hu.b0;have wb:=hw.b0;unfold CU;k_upd;refine fE hG 1 rfl rfl ?_;k_upd;refine fE hG 1 rfl rfl ?_;k_upd;unfold pS at q
  by_cases hn:w.n≤u.n
  ·rw[show decide (w.n≤u.n)=true by simpa using hn]
   rw[if_pos hn]at q;k_upd;exact⟨.bool,by rw[List.take_length];exact q⟩
  ·rw[show decide (w.n≤u.n)=false by simpa using hn]
   rw[if_neg hn]at q;k_upd;refine fE hG 4 rfl rfl ?_;have rest:(if(u.s&&w.s)=true then True else aX G bX (n+1) (.cons (.asg (.name 21) (.bin .Add (.call (.glob 52) (.cons (.cA (.var 45) "longest_run_of_spaces" .nil) (.cons (.cA (.var 59) "longest_run_of_spaces" .nil) .nil))) (.int 1))) (.cons (.for 58 (.call (.glob 57) (.cons (.int 2) (.cons (.bin .Add (.var 21) (.int 1)) .nil))) (.cons (.iff (.cmp .GtE (.cA (.var 45) "indent_level" (.cons (.var 58) .nil)) (.cA (.var 59) "indent_level" (.cons (.var 58) .nil))) (.cons (.ret (.bool false)) .nil) .nil) .nil)) (.cons (.ret (.bool true)) .nil)))
     (bc [] [(dF,.obj u.v),(zp,.obj w.v)]) O (qz O Q)):=by
    by_cases Rw:(u.s&&w.s)=true
    ·rw[if_pos Rw];trivial
    ·rw[if_neg Rw]
     rw[if_neg Rw]at q;k_upd;refine bB ?_;k_upd;refine⟨_,kX hG (p:=(Str.ofString "longest_run_of_spaces",135)) (by simp[lH]),?_⟩
     k_upd;refine rP hG hu ?_;k_upd;refine bB ?_;k_upd;refine⟨_,kX hG (p:=(Str.ofString "longest_run_of_spaces",135)) (by simp[lH]),?_⟩
     k_upd;refine rP hG hw ?_;k_upd;refine zl ?_;k_upd;have hM:0≤max u.long w.long∧max u.long w.long≤950:=by unfold mT.long;exact ag 2 2 (aa (ae af (nk 950)) (aa (ae ab (nk 950)) (aa (aT (ai aJ aK) (ai aK (zk 950))) (aa (aT (ai aJ aq) (ai aq (zk 950))) (aT (ai aJ (xq (xq (bR (az af) bV) aK) (xq (bR (az ab) bV) aq))) (ai (xq (xq (bR (az af) bV) aK) (xq (bR (az ab) bV) aq)) (zk 950))))))) (by kd_p) ul wl ub wb
     generalize max u.long w.long=M at hM q;try refine gN ?_
     k_upd;refine oD ?_;refine⟨_,Iter.gE (eJ (by decide) (by decide) (by exact ag 0 1 (aa (aT (ai aJ aq) (ai aq (zk 950))) (ai (zk (-1000000)) (bh (bh aq bV) bV))) (by kd_p) hM) (by exact ag 0 1 (aa (aT (ai aJ aq) (ai aq (zk 950))) (ai (bh (bh aq bV) bV) (zk 1000000))) (by kd_p) hM)),?_⟩
     have hlen:(cI 2 (M+1+1)).length=M.toNat:=by simp[cI]<;>exact ag 0 1 (aa (aT (ai aJ aq) (ai aq (zk 950))) (ax (dz (bR (bh (bh aq bV) bV) jQ)) (dz aq))) (by kd_p) hM
     refine dy (fun i ao ar=>ar=O∧(∀j,j<i→u.ind (2+j)<w.ind (2+j))∧get ao 45=some (.obj u.v)∧get ao 59=some (.obj w.v)) (fun i x ao ar k hx hJ jI kF vH=>?_) (fun ao ar hJ=>?_) ⟨rfl,fun j h=>(nomatch h),rfl,rfl⟩
     ·refine vW hJ ?_;clear hJ;intro z1;subst z1;intro lW IY Wh
      have hi:i<(cI 2 (M+1+1)).length:=(List.getElem?_eq_some_iff.mp hx).1;have yk:x=.int ((2+i:Nat):Int):=by
       unfold cI at hx;rw[List.getElem?_map,List.getElem?_range (by unfold cI at hi;simpa using hi)]at hx
       simp at hx;rw[←hx];simp
      subst yk;rw[hlen]at hi;have k58:get (set ao 58 (.int ((2+i:Nat):Int))) 58=some (.int ((2+i:Nat):Int)):=gs;have LL:get (set ao 58 (.int ((2+i:Nat):Int))) 45=some (.obj u.v):=gn IY;have Wi:get (set ao 58 (.int ((2+i:Nat):Int))) 59=some (.obj w.v):=gn Wh;first|show aX _ _ _ _ _ _ _|show d8 _ _ _ _ _ _ _|skip
      generalize set ao 58 (.int ((2+i:Nat):Int))=a9 at *;k_upd;refine bB (bU LL ?_);refine⟨_,kX hG (p:=(Str.ofString "indent_level",142)) (by simp[lH]),?_⟩
      k_upd;refine uK hG hu (by exact Nf) (by exact Ng hM hi) ?_
      k_upd;refine bB (bU Wi ?_);refine⟨_,kX hG (p:=(Str.ofString "indent_level",142)) (by simp[lH]),?_⟩
      k_upd;refine uK hG hw (by exact Nf) (by exact Ng hM hi) ?_
      k_upd
      by_cases bA:w.ind (2+i)≤u.ind (2+i)
      ·rw[show decide (w.ind (2+i)≤u.ind (2+i))=true by simpa using bA]
       k_upd;refine vH _ _ _ ⟨.bool,?_⟩;rw[List.take_length];have:((List.range M.toNat).all fun j=>decide (u.ind (2+j)<w.ind (2+j)))=false:=by
        rw[List.all_eq_false];exact⟨i,List.mem_range.mpr hi,by simp;omega⟩
       rw[this]at q;exact q
      ·rw[show decide (w.ind (2+i)≤u.ind (2+i))=false by simpa using bA]
       k_upd;refine jI _ _ ⟨rfl,fun j hj=>?_,LL,Wi⟩;rcases Nat.lt_succ_iff_lt_or_eq.mp hj with h|rfl
       ·exact lW j h
       ·exact ag 0 2 (aa (dH (ai aq aK)) (aM aK aq)) (by kd_p) bA
     ·refine vW hJ ?_;clear hJ;intro z1;subst z1;intro lW IY Wh
      rw[hlen]at lW;k_upd;refine⟨.bool,?_⟩;rw[List.take_length];have:((List.range M.toNat).all fun j=>decide (u.ind (2+j)<w.ind (2+j)))=true:=by
       rw[List.all_eq_true];intro j hj;simpa using lW j (List.mem_range.mp hj)
      rw[this]at q;exact q
   cases Rx:u.s with
   |false=>
    rw[Rx]at rest;simp only[Bool.false_and,Bool.false_eq_true,if_false]at rest;refine iB (eB rest)
   |true=>
    refine iB ?_;k_upd;refine fE hG 4 rfl rfl ?_;cases lP:w.s with
    |false=>
     rw[Rx,lP]at rest;simp only[Bool.and_false,Bool.false_eq_true,if_false]at rest;refine iB (eB rest)
    |true=>
     rw[Rx,lP]at q;simp only[Bool.and_self,if_true]at q;refine iB ?_;k_upd;refine fE hG 2 rfl rfl ?_;k_upd;refine fE hG 2 rfl rfl ?_;k_upd;exact⟨.bool,by rw[List.take_length];exact q⟩
noncomputable def iZ(low l:Int):Str:=Txt.mul (Str.ofString " ") (low+l)++Str.ofString "\t"
noncomputable def gR(col:List Int)(low blanks:Int):Str:=Txt.join (Str.ofString "") (col.map (iZ low))++Txt.mul (Str.ofString " ") blanks++Str.ofString "x\t "
theorem BD{low l:Int}(h1:0≤low∧low≤10)(h2:0≤l∧l≤10):(iZ low l).length≤21:=by
 unfold iZ;rw[strLen_append];have:(Txt.mul (Str.ofString " ") (low+l)).length=(low+l).toNat:=kY 32 (low+l);rw[this];have:(Str.ofString "\t").length=1:=rfl;exact ag 1 2 (aa (aT (ai aJ aK) (ai aK (zk 10))) (aa (aT (ai aJ aq) (ai aq (zk 10))) (aa (ax ab aC) (ae (aj (dz (bh aK aq)) ab) (nk 21))))) (by kd_p) h1 h2 this
theorem LM(s:Str):Cl (.obj (zS s)):=by
 refine .obj fun x m=>?_;unfold zS at m;generalize gC s.cps.toList [] 0 0 0=w at m;obtain⟨cs,b,n,nt⟩:=w;simp only[List.mem_cons,List.not_mem_nil,or_false]at m;rcases m with rfl|rfl|rfl|rfl|rfl
 ·exact .str
 ·exact .int
 ·exact .int
 ·refine .tuple fun y hy=>?_
  simp only[List.mem_cons,List.not_mem_nil,or_false]at hy;rcases hy with rfl|rfl
  ·exact .tuple fun z hz=>by refine aW (List.mem_map.mp hz) ?_;intro i zz z1;subst z1;exact .int
  ·exact .int
 ·exact .bool
theorem pT(hG:bx G){n:Nat}{O:Mu}{Q:V→Mu→Prop}{col:List Int}{low blanks:Int}(uL:0≤low∧low≤10)(nV:0≤blanks∧blanks≤20)(hc:∀l∈col,0≤l∧l≤10)(cj:col.length≤10)(qK:(Txt.join (Str.ofString "") (col.map (iZ low))).length≤300)
  (q:Q (.obj (zS (gR col low blanks))) O):aU G (n+4) (.ref 196) [.list (col.map .int),.int low,.int blanks] [] O Q:=by
 refine fN hG (n:=n+3) (st:=rm) (own:=zq) [(El,.list (col.map .int)),(Qm,.int low),(Em,.int blanks)] (fun P ys ks B Z r rk=>?_) ?_
 ·refine aB.aN r ?_;intro y zz r1 r
  refine aB.aN r ?_;intro z zz r2 r;refine aB.aN r ?_;intro u zz r3 r;refine aB.bE r ?_;refine aB.bE rk ?_;exact⟨[y,z,u],.cons r1 (.cons r2 (.cons r3 .nil)),fun S=>by kd_p⟩
 ·unfold rm
  k_upd;refine bB ?_;k_upd;refine⟨_,oE,?_⟩;k_upd;refine dC ?_;k_upd;refine⟨_,Iter.list,?_⟩
  let g:V→List V:=fun v=>match v with | .int l=>[.str (iZ low l)]|_=>[]
  refine kh (J:=fun ao=>get ao 70=some (.int low)) (M:=col.length) g (fun x=>by cases x<;>simp[g]) (fun x hx ao acc K hJ hM hK=>?_) rfl (by simp) (fun ao hJ=>?_)
  ·refine aW (List.mem_map.mp hx) ?_;intro l hl z1;subst z1
   have Ry:=hc l hl;have k71:get (set ao 71 (.int l)) 71=some (.int l):=gs;have Z4:get (set ao 71 (.int l)) 70=some (.int low):=gn hJ;first|show aX _ _ _ _ _ _ _|show d8 _ _ _ _ _ _ _|skip
   generalize set ao 71 (.int l)=a9 at *;refine cQ ?_;k_upd;refine sQ (tN.small (by decide) (by exact ag 0 2 (aa (aT (ai aJ aK) (ai aK (zk 10))) (aa (aT (ai aJ aq) (ai aq (zk 10))) (ai (zk (-1000)) (bh aK aq)))) (by kd_p) uL Ry) (by exact ag 0 2 (aa (aT (ai aJ aK) (ai aK (zk 10))) (aa (aT (ai aJ aq) (ai aq (zk 10))) (ai (bh aK aq) (zk 1000)))) (by kd_p) uL Ry)) ?_
   k_upd;have hm:(Txt.mul (Str.ofString " ") (low+l)).length=(low+l).toNat:=kY 32 (low+l);refine ja (lY.small (by exact ag 1 2 (aa (aT (ai aJ aK) (ai aK (zk 10))) (aa (aT (ai aJ aq) (ai aq (zk 10))) (aa (ax ab (dz (bh aK aq))) (ae ab aQ)))) (by kd_p) uL Ry hm) (by decide)) ?_
   exact⟨.of (by exact ag 2 0 (aa (ae ab fb) (aa (ak af ab) (ae (aj af aC) aQ))) (by kd_p) cj hM),hK a9 Z4⟩
  ·refine bK ?_
   have e:([]:List V)++(col.map V.int).flatMap g=(col.map (iZ low)).map .str:=by
    rw[List.nil_append,List.flatMap_map,List.map_map];clear qK q cj hc
    induction col with
    |nil=>rfl
    |cons l r ih=>rw[List.flatMap_cons,List.map_cons,ih];rfl
   rw[e];k_upd;have hs:=kl (M:=21) (col.map (iZ low)) fun y m=>by refine aW (List.mem_map.mp m) ?_;intro l hl z1;subst z1;exact BD uL (hc l hl)
   refine A0 (ys:=col.map (iZ low)) (by
    have e0:(Str.ofString "").length=0:=rfl;rw[e0];rw[List.length_map]at hs ⊢;have:col.length*21≤10*21:=Nat.mul_le_mul_right _ cj;exact ag 2 0 (aa (ae ab fb) (aa (ae af (rZ ab 21)) (ae (aj af (rZ ab 0)) bq))) (by kd_p) cj hs) ?_
   k_upd;refine sQ (tN.small (by decide) (by exact ag 0 1 (aa (aT (ai aJ aq) (ai aq dA)) (ai (zk (-1000)) aq)) (by kd_p) nV) (by exact ag 0 1 (aa (aT (ai aJ aq) (ai aq dA)) (ai aq (zk 1000))) (by kd_p) nV)) ?_
   have gP:(Txt.mul (Str.ofString " ") blanks).length=blanks.toNat:=kY 32 blanks;refine ja (lY.small (by exact Cy qK) (by exact ag 1 1 (aa (aT (ai aJ aq) (ai aq dA)) (aa (ax ab (dz aq)) (ae ab aQ))) (by kd_p) nV gP)) ?_
   k_upd;refine ja (lY.small (by rw[strLen_append];exact ag 2 1 (aa (aT (ai aJ aq) (ai aq dA)) (aa (ae af cR) (aa (ax ab (dz aq)) (ae (aj af ab) aQ)))) (by kd_p) nV qK gP) (by decide)) ?_
   k_upd;refine CK hG (uJ hG (n:=n) (st:=gR col low blanks) ?_ ?_)
   ·unfold gR
    rw[strLen_append,strLen_append];have:(Str.ofString "x\t ").length=3:=rfl;exact ag 3 1 (aa (aT (ai aJ aq) (ai aq dA)) (aa (ae au cR) (aa (ax af (dz aq)) (aa (ax ab cm) (ae (aj (aj au af) ab) dX))))) (by kd_p) nV qK gP this
   ·exact⟨LM _,by rw[List.take_length];exact q⟩
noncomputable def qM:Ss:=(.cons (.asg (.g9 (.name 83) (.name 82)) (.tup (.cons (.sub (.sub (.var 86) (.sub (.var 76) (.bin .Sub (.var 75) (.int 1)))) (.bin .FloorDiv (.var 80) (.int 3))) (.cons (.sub (.sub (.var 86) (.sub (.var 76) (.var 75))) (.bin .Mod (.var 80) (.int 3))) .nil)))) (.cons (.asg (.name 81) (.cA (.sub (.var 84) (.bin .FloorDiv (.var 80) (.int 3))) "less" (.cons (.sub (.var 85) (.bin .Mod (.var 80) (.int 3))) .nil))) (.cons (.iff (.cmp .IsNot (.var 81) (.cmp .Eq (.ey false (.var 56) 56 (.call (.glob 57) (.cons (.call (.glob 6) (.cons (.var 82) .nil)) .nil)) (.cons (.cmp .Gt (.sub (.var 83) (.var 56)) (.sub (.var 82) (.var 56))) .nil) [83,82] [56]) (.list false .nil))) (.cons (.ret (.list false .nil)) .nil) .nil) (.cons (.iff (.val (.var 81)) (.cons (.expr (.cA (.var 79) "append" (.cons (.tup (.cons (.var 83) (.cons (.var 82) .nil))) .nil))) .nil) .nil) .nil))))
noncomputable def gp:List (List (List Int)):=[[],[[1],[2],[3]],[[1,2],[1,3],[2,3]]]
noncomputable def gS:V:=.list (gp.map fun cs=>.list (cs.map fun c=>.list (c.map .int)))
noncomputable def bo(a i:Nat):List Int:=(gp.getD a []).getD i []
noncomputable def fu(l r:List Int):Bool:=(List.range r.length).all fun i=>decide (l.getD i 0≤r.getD i 0)
structure da(U:aw)(low blanks extra:Int)(ah:List Nat)(F:V):Prop where
 c:get U 86=some gS
 l:get U 76=some (.list (ah.map fun(n:Nat)=>V.int n))
 lo:get U 70=some (.int low)
 bl:get U 73=some (.int blanks)
 ex:get U 88=some (.int extra)
 f:get U 74=some F
theorem da.set{U:aw}{low blanks extra:Int}{ah:List Nat}{F:V}(h:da U low blanks extra ah F){x:Nat}{v:V}(hx:x=75∨x=89∨x=84∨x=85∨x=79∨x=80∨x=83∨x=82∨x=81):da (bg.set U x v) low blanks extra ah F:=by
 rcases hx with rfl|rfl|rfl|rfl|rfl|rfl|rfl|rfl|rfl<;>exact⟨gn h.c,gn h.l,gn h.lo,gn h.bl,gn h.ex,gn h.f⟩
theorem gT{τ:Type}(xs:List τ)(i:Nat):xs[cE (i:Int) xs.length]?=xs[i]?:=by
 unfold cE;rw[if_neg (by exact xt)]
 rfl
theorem I7(xs:List Int):dN 50 (.list (xs.map .int)) (.list [])=some (decide (xs=[])):=by
 cases xs with
 |nil=>rfl
 |cons x r=>unfold dN;simp
theorem jK{ah:List Nat}{i a:Nat}(h:ah[i]?=some a):(ah.map fun(n:Nat)=>V.int n)[cE (i:Int) (ah.map fun(n:Nat)=>V.int n).length]?=some (.int (a:Nat)):=by
 rw[gT,List.getElem?_map,h];rfl
theorem mV{a:Nat}(ha:a=1∨a=2):(gp.map fun cs=>V.list (cs.map fun c=>.list (c.map .int)))[cE (a:Int) (gp.map fun cs=>V.list (cs.map fun c=>.list (c.map .int))).length]?=some (.list ((gp.getD a []).map fun c=>.list (c.map .int))):=by
 rcases ha with rfl|rfl<;>rfl
theorem Dm{a i:Nat}(ha:a=1∨a=2)(hi:i<3):((gp.getD a []).map fun c=>V.list (c.map .int))[cE (i:Int) ((gp.getD a []).map fun c=>V.list (c.map .int)).length]?=some (.list ((bo a i).map .int)):=by
 match i,hi with
 |0,_=>rcases ha with rfl|rfl<;>rfl
 |1,_=>rcases ha with rfl|rfl<;>rfl
 |2,_=>rcases ha with rfl|rfl<;>rfl
theorem jL{a i:Nat}(ha:a=1∨a=2)(hi:i<3):(bo a i).length=a:=by
 match i,hi with
 |0,_=>rcases ha with rfl|rfl<;>rfl
 |1,_=>rcases ha with rfl|rfl<;>rfl
 |2,_=>rcases ha with rfl|rfl<;>rfl
theorem wO{a:Nat}(ha:a=1∨a=2):(gp.getD a []).length=3:=by rcases ha with rfl|rfl<;>rfl
theorem BE(hG:bx G){n:Nat}{U:aw}{O:Mu}{K:Fl→aw→Mu→Prop}{low blanks extra:Int}{ah:List Nat}{F:V}{j a b k m:Nat}{eX dU:List mT}{fits:List V}
  (hF:da U low blanks extra ah F)(Z5:get U 75=some (.int ((j+1:Nat):Int)))(ha:ah[j]?=some a)(hb:ah[j+1]?=some b)(mW:a=1∨a=2)(jW:b=1∨b=2)(uM:b≤a)(hlen:ah.length≤100)
  (Z6:get U 84=some (.list (eX.map fun w=>.obj w.v)))(Z7:get U 85=some (.list (dU.map fun w=>.obj w.v)))(Z8:get U 79=some (.ml m))(hm:(O[m]?:Option (Option (List V)))=some (some fits))(yz:fits.length≤100)
  (hk:k<9){u w:mT}(hu:eX[k/3]?=some u)(hw:dU[k%3]?=some w)(ym:eX.length≤10)(pQ:dU.length≤10)(ou:u.Ok)(ow:w.Ok)(Rz:pS u w=fu (bo a (k/3)) (bo b (k%3)))
  (hK:∀ao,da ao low blanks extra ah F→get ao 75=some (.int ((j+1:Nat):Int))→get ao 84=some (.list (eX.map fun w=>.obj w.v))→get ao 85=some (.list (dU.map fun w=>.obj w.v))→get ao 79=some (.ml m)→
   K .next ao (if fu (bo a (k/3)) (bo b (k%3)) then O.set m (some (fits++[.tuple [.list ((bo a (k/3)).map .int),.list ((bo b (k%3)).map .int)]])) else O)):
  aX G bX (n+2) qM (set U 80 (.int k)) O K:=by
 have Lz:k/3<3:=by exact Nh hk
 have Wj:k%3<3:=by exact Ni
 have BF:da (set U 80 (.int k)) low blanks extra ah F:=hF.set (by simp)
 have Z9:get (set U 80 (.int k)) 80=some (.int k):=gs;have RA:get (set U 80 (.int k)) 75=some (.int ((j+1:Nat):Int)):=gn Z5;have k84:get (set U 80 (.int k)) 84=some (.list (eX.map fun w=>.obj w.v)):=gn Z6;have k85:get (set U 80 (.int k)) 85=some (.list (dU.map fun w=>.obj w.v)):=gn Z7;have k79:get (set U 80 (.int k)) 79=some (.ml m):=gn Z8;generalize set U 80 (.int k)=a9 at *;have f1:=BF.c;have f2:=BF.l;have oj:cp (ah.map fun(n:Nat)=>V.int n).length:=.of (by simp;exact Gb hlen)
 have e3:((k:Int)).fdiv 3=((k/3:Nat):Int):=by rw[Int.fdiv_eq_ediv_of_nonneg _ (by decide)];rfl
 have m3:((k:Int)).fmod 3=((k%3:Nat):Int):=by rw[Int.fmod_eq_emod_of_nonneg _ (by decide)];rfl
 have ej:((j+1:Nat):Int)-1=(j:Int):=by exact Nj
 unfold qM;k_upd;rw[ej];refine V_at (jK ha) (by exact vU) oj ?_
 show gf _ _ gS _ _ _;refine V_at (mV mW) (by rcases mW with rfl|rfl<;>decide) (.of (by decide)) ?_
 k_upd;refine dO ⟨by decide,by decide +kernel⟩ ?_
 rw[e3];refine V_at (Dm mW Lz) (by exact Nk hk e3 m3) (.of (by rw[List.length_map,wO mW];decide)) ?_
 k_upd;refine V_at (jK hb) (by exact Gr) oj ?_
 show gf _ _ gS _ _ _;refine V_at (mV jW) (by rcases jW with rfl|rfl<;>decide) (.of (by decide)) ?_
 k_upd;refine dB (by decide) ?_
 rw[m3];refine V_at (Dm jW Wj) (by exact Nl e3 m3) (.of (by rw[List.length_map,wO jW];decide)) ?_
 k_upd;refine⟨.of (by simp),?_⟩
 k_upd;generalize hl:bo a (k/3)=left at *;generalize hr:bo b (k%3)=right at *;have ll:left.length=a:=by rw[←hl];exact jL mW Lz
 have rl:right.length=b:=by rw[←hr];exact jL jW Wj
 have BG:da (set (set a9 83 (.list (left.map .int))) 82 (.list (right.map .int))) low blanks extra ah F:=(BF.set (by simp)).set (by simp)
 have i83:get (set (set a9 83 (.list (left.map .int))) 82 (.list (right.map .int))) 83=some (.list (left.map .int)):=by rw[get_set,get_set];rfl
 have i82:get (set (set a9 83 (.list (left.map .int))) 82 (.list (right.map .int))) 82=some (.list (right.map .int)):=gs;have i80:get (set (set a9 83 (.list (left.map .int))) 82 (.list (right.map .int))) 80=some (.int k):=by rw[get_set,get_set];exact Z9
 have RB:get (set (set a9 83 (.list (left.map .int))) 82 (.list (right.map .int))) 75=some (.int ((j+1:Nat):Int)):=by rw[get_set,get_set];exact RA
 have i84:get (set (set a9 83 (.list (left.map .int))) 82 (.list (right.map .int))) 84=some (.list (eX.map fun w=>.obj w.v)):=by rw[get_set,get_set];exact k84
 have i85:get (set (set a9 83 (.list (left.map .int))) 82 (.list (right.map .int))) 85=some (.list (dU.map fun w=>.obj w.v)):=by rw[get_set,get_set];exact k85
 have i79:get (set (set a9 83 (.list (left.map .int))) 82 (.list (right.map .int))) 79=some (.ml m):=by rw[get_set,get_set];exact k79
 generalize set (set a9 83 (.list (left.map .int))) 82 (.list (right.map .int))=b9 at *;refine bB ?_;k_upd;refine dO ⟨by decide,by decide +kernel⟩ ?_
 rw[e3];refine V_at (v:=.obj u.v) (by rw[gT,List.getElem?_map,hu];rfl) (by exact Nk hk e3 m3) (.of (by simp;exact vV ym)) ?_
 refine⟨_,kX hG (p:=(Str.ofString "less",163)) (by simp[lH]),?_⟩
 k_upd;refine dB (by decide) ?_
 rw[m3];refine V_at (v:=.obj w.v) (by rw[gT,List.getElem?_map,hw];rfl) (by exact Nl e3 m3) (.of (by simp;exact vV pQ)) ?_
 k_upd;refine I5 hG ou ow ?_;rw[Rz];k_upd;have yA:da (set b9 81 (.bool (fu left right))) low blanks extra ah F:=BG.set (by simp)
 have Wl:get (set b9 81 (.bool (fu left right))) 81=some (.bool (fu left right)):=gs;have j83:get (set b9 81 (.bool (fu left right))) 83=some (.list (left.map .int)):=gn i83;have j82:get (set b9 81 (.bool (fu left right))) 82=some (.list (right.map .int)):=gn i82;have LN:get (set b9 81 (.bool (fu left right))) 75=some (.int ((j+1:Nat):Int)):=gn RB;have LO:get (set b9 81 (.bool (fu left right))) 84=some (.list (eX.map fun w=>.obj w.v)):=gn i84;have Wm:get (set b9 81 (.bool (fu left right))) 85=some (.list (dU.map fun w=>.obj w.v)):=gn i85;have RC:get (set b9 81 (.bool (fu left right))) 79=some (.ml m):=gn i79;generalize set b9 81 (.bool (fu left right))=gG at *;k_upd;refine dC ?_;k_upd;refine cM (cp.of (by simp;exact Nm jW rl)).ok ?_
 k_upd;refine dY ?_;rw[List.length_map];refine⟨_,Iter.gE (eJ (by decide) (by decide) (by exact ag 2 0 (aa (ax af ab) (ai (zk (-1000000)) (az af))) (by kd_p) rl) (by exact ag 2 0 (aa (lpo (ax ab aC) (ax ab gU)) (aa (ax af ab) (ai (az af) (zk 1000000)))) (by kd_p) jW rl)),?_⟩
 let g:V→List V:=fun v=>match v with | .int i=>if right.getD i.toNat 0<left.getD i.toNat 0 then[.int i] else[]|_=>[]
 have Iq:cz gG [83,82]=[(83,.list (left.map .int)),(82,.list (right.map .int))]:=by unfold cz;rw[j83];simp only[];unfold cz;rw[j82];rfl
 refine kh (J:=fun ao=>get ao 83=some (.list (left.map .int))∧get ao 82=some (.list (right.map .int))) (M:=10) g (fun x=>?_) (fun x hx ao acc K' hJ hM fP=>?_) (by rw[Iq];exact⟨rfl,rfl⟩) (by simp[cI];exact ag 2 0 (aa (lpo (ax ab aC) (ax ab gU)) (aa (ax af ab) (ae af fb))) (by kd_p) jW rl) (fun ao hJ=>?_)
 ·cases x<;>simp only[g,List.length_nil,Nat.zero_le]
  split<;>simp
 ·unfold cI at hx
  refine aW (List.mem_map.mp hx) ?_;intro i hi z1;subst z1;have hi:i<right.length:=by have:=List.mem_range.mp hi;exact ag 3 0 (aa (ax af ab) (aa (ak au (dz (bR (az af) aJ))) (ak au af))) (by kd_p) rl this
  simp only[Int.zero_add]at *;have Wn:get (set ao 56 (.int (i:Int))) 83=some (.list (left.map .int)):=gn hJ.1;have Wo:get (set ao 56 (.int (i:Int))) 82=some (.list (right.map .int)):=gn hJ.2;have l56:get (set ao 56 (.int (i:Int))) 56=some (.int (i:Int)):=gs;first|show aX _ _ _ _ _ _ _|show d8 _ _ _ _ _ _ _|skip
  generalize set ao 56 (.int (i:Int))=ph at *;refine kQ ?_;k_upd;have hil:i<left.length:=by exact ag 5 0 (aa (ae au af) (aa (ax aO af) (aa (ax ab au) (aa (ak dc ab) (ak dc aO))))) (by kd_p) uM ll rl hi
  refine V_at (v:=.int (left.getD i 0)) (by rw[gT];simp[hil]) (by exact vU) (.of (by simp;exact ag 3 0 (aa (lpo (ax af aC) (ax af gU)) (aa (lpo (ax ab aC) (ax ab gU)) (aa (ax au af) (ae au aQ)))) (by kd_p) mW jW ll)) ?_
  k_upd;refine V_at (v:=.int (right.getD i 0)) (by rw[gT];simp[hi]) (by exact vU) (.of (by simp;exact Nm jW rl)) ?_
  k_upd
  by_cases sC:right.getD i 0<left.getD i 0
  ·rw[show decide (right.getD i 0<left.getD i 0)=true by simpa using sC]
   k_upd;refine⟨.of (by exact ag 1 0 (aa (ak ab fb) (ae (aj ab aC) aQ)) (by kd_p) hM),?_⟩
   have:=fP ph ⟨Wn,Wo⟩;simp only[g,Int.toNat_natCast,if_pos sC]at this;exact this
  ·rw[show decide (right.getD i 0<left.getD i 0)=false by simpa using sC]
   have:=fP ph ⟨Wn,Wo⟩;simp only[g,Int.toNat_natCast,if_neg sC,List.append_nil]at this;exact this
 ·refine bK ?_
  have el:([]:List V)++(cI 0 (right.length:Int)).flatMap g=((List.range right.length).filterMap fun i=>if right.getD i 0<left.getD i 0 then some (i:Int) else none).map .int:=by
   rw[List.nil_append];unfold cI;rw[show((right.length:Int)-0).toNat=right.length by exact ag 2 0 (aa (ax af ab) (ax (dz (bR (az af) aJ)) af)) (by kd_p) rl]
   generalize right.length=z
   induction z with
   |zero=>rfl
   |succ z ih=>
    rw[List.range_succ,List.map_append,List.flatMap_append,ih,List.filterMap_append,List.map_append]
    congr 1
    simp only[List.map_cons,List.map_nil,List.flatMap_cons,List.flatMap_nil,List.append_nil,Int.zero_add,g,Int.toNat_natCast,List.filterMap_cons,List.filterMap_nil]
    by_cases sC:right.getD z 0<left.getD z 0
    ·rw[if_pos sC,if_pos sC];rfl
    ·rw[if_neg sC,if_neg sC];rfl
  rw[el];k_upd;refine⟨.of (by simp),bK ?_⟩
  refine AP (I7 _) ?_;have eb:decide ((List.range right.length).filterMap (fun i=>if right.getD i 0<left.getD i 0 then some (i:Int) else none)=[])=fu left right:=by
   unfold fu
   by_cases lW:((List.range right.length).all fun i=>decide (left.getD i 0≤right.getD i 0))=true
   ·rw[lW]
    simp only[decide_eq_true_eq,List.filterMap_eq_nil_iff];intro i hi;have:=List.all_eq_true.mp lW i hi;rw[if_neg (by simpa using this)]
   ·rw[show((List.range right.length).all fun i=>decide (left.getD i 0≤right.getD i 0))=false by simpa using lW]
    simp only[decide_eq_false_iff_not,List.filterMap_eq_nil_iff];intro hn;apply lW;rw[List.all_eq_true];intro i hi;have:=hn i hi
    by_cases sC:right.getD i 0<left.getD i 0
    ·rw[if_pos sC]at this;exact fe this
    ·simpa using sC
  rw[eb];k_upd;rw[show(fu left right !=fu left right)=false by simp]
  k_upd;cases hle:fu left right with
  |true=>
   rw[hle]at hK Wl;k_upd;refine bB (bU RC ?_);refine⟨_,fB hm,?_⟩;k_upd;refine⟨.of (by simp),?_⟩
   k_upd;refine fC hm (by rw[sizeLine_eq];exact Nn yz) (.tuple fun y hy=>?_) ?_
   ·simp only[List.mem_cons,List.not_mem_nil,or_false]at hy
    rcases hy with rfl|rfl<;>exact jG _
   ·k_upd
    exact hK _ yA LN LO Wm RC
  |false=>
   rw[hle]at hK Wl;k_upd;exact hK _ yA LN LO Wm RC
theorem dW{τ:Type}{turn:V→aw→Mu→List V→(aw→Mu→List V→Prop)→Prop}{J:aw→Prop}{O:Mu}{M:Nat}(f:τ→V)(h:τ→List V):
  ∀ {ys:List τ} (step:∀y∈ys,∀U acc k,J U→acc.length+(h y).length≤M→(∀ao,J ao→k ao O (acc++h y))→turn (f y) U O acc k) {U:aw} {acc:List V} {k:aw→Mu→List V→Prop},J U→acc.length+(ys.flatMap h).length≤M→(∀ao,J ao→k ao O (acc++ys.flatMap h))→cb turn (ys.map f) U O acc k
 |[],_,U,acc,k,hJ,_,hk=>by
  have:=hk U hJ;rw[List.flatMap_nil,List.append_nil]at this;exact this
 |y::ys,step,U,acc,k,hJ,hM,hk=>by
  rw[List.flatMap_cons,List.length_append]at hM;refine step y (.head _) U acc _ hJ (by exact ag 4 0 (aa (ae (aj aO (aj au ab)) af) (ae (aj aO au) af)) (by kd_p) hM) fun ao QW=>?_
  refine dW f h (fun y hy=>step y (.tail _ hy)) QW ?_ fun fJ Io=>?_
  ·rw[List.length_append];exact ag 4 0 (aa (ae (aj aO (aj au af)) ab) (ae (aj (aj aO au) af) ab)) (by kd_p) hM
  ·have:=hk fJ Io
   rw[List.flatMap_cons,←List.append_assoc]at this;exact this
theorem pU(k:Nat)(a b:Int):dN (k+1) (.int a) (.int b)=some (decide (a=b)):=rfl
theorem wQ(xs ys:List Int):dN 50 (.list (xs.map .int)) (.list (ys.map .int))=some (decide (xs=ys)):=by
 have z:∀ (xs ys:List Int),xs.length=ys.length→gv (List.zipWith (dN 49) (xs.map .int) (ys.map .int))=some (decide (xs=ys)):=by
  intro xs
  induction xs with
  |nil=>intro ys h;cases ys with
   |nil=>rfl
   |cons _ _=>cases h
  |cons x xs ih=>intro ys h;cases ys with
   |nil=>cases h
   |cons y ys=>
    have h':xs.length=ys.length:=by simpa using h
    rw[List.map_cons,List.map_cons,List.zipWith_cons_cons,pU];have:=ih ys h';generalize List.zipWith (dN 49) (xs.map V.int) (ys.map V.int)=l at *
    by_cases r7:x=y
    ·simp[gv,this,r7]
    ·simp[gv,this,r7]
 unfold dN;simp only[List.length_map]
 by_cases h:xs.length=ys.length
 ·rw[if_pos h];exact z xs ys h
 ·rw[if_neg h]
  have:xs≠ys:=fun e=>h (by rw[e])
  simp[this]
noncomputable def kL(a b k:Nat):List (List Int×List Int):=(List.range k).filterMap fun k=>if fu (bo a (k/3)) (bo b (k%3)) then some (bo a (k/3),bo b (k%3)) else none
noncomputable def hO(p:List Int×List Int):V:=.tuple [.list (p.1.map .int),.list (p.2.map .int)]
noncomputable def I8(F:List (List (List Int)))(a b:Nat):List (List (List Int)):=F.flatMap fun f=>(kL a b 9).flatMap fun p=>if p.1=f.getLastD [] then[f++[p.2]] else[]
noncomputable def b5:List Nat→Nat→List (List (List Int))
 |ah,0=>(gp.getD (ah.getD 0 0) []).map fun c=>[c]
 |ah,j+1=>I8 (b5 ah j) (ah.getD j 0) (ah.getD (j+1) 0)
noncomputable def cF(F:List (List (List Int))):V:=.list (F.map cG)
noncomputable def Dn(a b i:Nat)(low blanks extra:Int):Str:=gR (bo b i++List.replicate (a-b) 4) low (blanks+extra)
def wR(low blanks extra:Int):Prop:=∀a<3,∀b<3,1≤b→b≤a→∀i<3,∀j<3,pS (sy (gR (bo a i) low blanks)) (sy (Dn a b j low blanks extra))=fu (bo a i) (bo b j)
theorem zT(a b k:Nat):kL a b (k+1)=kL a b k++(if fu (bo a (k/3)) (bo b (k%3)) then[(bo a (k/3),bo b (k%3))] else[]):=by
 unfold kL;rw[List.range_succ,List.filterMap_append]
 congr 1
 by_cases h:fu (bo a (k/3)) (bo b (k%3))=true
 ·simp[h]
 ·simp[h]
theorem uN(a b k:Nat):(kL a b k).length≤k:=by
 unfold kL;refine Nat.le_trans (List.length_filterMap_le _ _) ?_;simp
theorem I9:∀low∈[(1:Int),2],∀a<3,∀b<3,∀i<3,1≤b→b≤a→(Txt.join (Str.ofString "") ((bo b i++List.replicate (a-b) 4).map (iZ low))).length≤60:=by decide +kernel
theorem BH:∀a<3,∀b<3,∀i<3,1≤b→b≤a→((bo b i++List.replicate (a-b) 4).all fun l=>decide (0≤l∧l≤10))=true:=by decide +kernel
theorem zU{b:Nat}(hb:1≤b)(o4:b<3):gp.getD b []=(List.range 3).map (bo b):=by
 have:∀b<3,1≤b→gp.getD b []=(List.range 3).map (bo b):=by decide +kernel
 exact this b o4 hb
theorem uO{col:List Int}{low blanks:Int}(h:(Txt.join (Str.ofString "") (col.map (iZ low))).length≤60)(hb:blanks≤20):(gR col low blanks).length≤900:=by
 unfold gR;rw[strLen_append,strLen_append];have:(Str.ofString "x\t ").length=3:=rfl;have gP:(Txt.mul (Str.ofString " ") blanks).length=blanks.toNat:=kY 32 blanks;exact ag 3 1 (aa (ae au (nk 60)) (aa (ai aq dA) (aa (ax ab cm) (aa (ax af (dz aq)) (ae (aj (aj au af) ab) dX))))) (by kd_p) h hb this gP
theorem sE(n:Nat):List.replicate n (V.int 4)=(List.replicate n (4:Int)).map V.int:=by rw[List.map_replicate]
noncomputable def qN:Ss:=(.cons (.asg (.name 89) (.bin .Mult (.list false (.cons (.int 4) .nil)) (.bin .Sub (.sub (.var 76) (.bin .Sub (.var 75) (.int 1))) (.sub (.var 76) (.var 75))))) (.cons (.asg (.name 84) (.ey false (.call (.glob 87) (.cons (.var 72) (.cons (.var 70) (.cons (.var 73) .nil)))) 72 (.sub (.var 86) (.sub (.var 76) (.bin .Sub (.var 75) (.int 1)))) .nil [70,73] [72])) (.cons (.asg (.name 85) (.ey false (.call (.glob 87) (.cons (.bin .Add (.var 72) (.var 89)) (.cons (.var 70) (.cons (.bin .Add (.var 73) (.var 88)) .nil)))) 72 (.sub (.var 86) (.sub (.var 76) (.var 75))) .nil [89,70,73,88] [72])) (.cons (.asg (.name 79) (.list true .nil)) (.cons (.for 80 (.call (.glob 57) (.cons (.int 9) .nil)) qM) (.sa 79 (.cons (.asg (.name 74) (.tQ false (.bin .Add (.var 77) (.list false (.cons (.sub (.var 78) (.int 1)) .nil))) 77 (.var 74) .nil 78 (.var 79) (.cons (.cmp .Eq (.sub (.var 78) (.int 0)) (.sub (.var 77) (.neg (.int 1)))) .nil) [79] [77,78])) .nil)))))))
noncomputable def zV:Ss:=(.cons (.asg (.name 86) (.list false (.cons (.list false .nil) (.cons (.list false (.cons (.list false (.cons (.int 1) .nil)) (.cons (.list false (.cons (.int 2) .nil)) (.cons (.list false (.cons (.int 3) .nil)) .nil)))) (.cons (.list false (.cons (.list false (.cons (.int 1) (.cons (.int 2) .nil))) (.cons (.list false (.cons (.int 1) (.cons (.int 3) .nil))) (.cons (.list false (.cons (.int 2) (.cons (.int 3) .nil))) .nil)))) .nil))))) (.cons (.asg (.name 74) (.ey false (.list false (.cons (.var 72) .nil)) 72 (.sub (.var 86) (.sub (.var 76) (.int 0))) .nil [] [72])) (.cons (.for 75 (.call (.glob 57) (.cons (.int 1) (.cons (.call (.glob 6) (.cons (.var 76) .nil)) .nil))) qN) (.cons (.ret (.var 74)) .nil))))
theorem qO{xs:List V}{O:Mu}{Q:V→Mu→Prop}(c:∀x∈xs,Cl x)(q:Q (.ml O.length) (O++[some xs])):de true Q O xs:=⟨c,q⟩
theorem wU{U:aw}{O:Mu}{K:aw→Mu→List V→Prop}{turn:V→aw→Mu→List V→(aw→Mu→List V→Prop)→Prop}{J:aw→Prop}{b:Nat}{g:List Int→mT}(hb:1≤b)(o4:b<3)
  (step:∀i<3,∀ (U:aw) (acc:List V) (K:aw→Mu→List V→Prop),J U→acc.length≤3→(∀ao,J ao→K ao O (acc++[.obj (g (bo b i)).v]))→turn (.list ((bo b i).map .int)) U O acc K)
  (h0:J U)(hK:∀ao,J ao→K ao O (((List.range 3).map fun i=>g (bo b i)).map fun w=>V.obj w.v)):cb turn ((gp.getD b []).map fun c=>V.list (c.map .int)) U O [] K:=by
 rw[zU hb o4,List.map_map];refine dW (J:=J) (M:=3) ((fun c=>V.list (c.map .int))∘bo b) (fun i=>[.obj (g (bo b i)).v]) (fun i hi ao acc K' hJ hM fP=>?_) h0 ?_ (fun ao hJ=>?_)
 ·exact step i (List.mem_range.mp hi) ao acc K' hJ (by simp at hM;exact ag 1 0 (aa (ae ab gU) (ae ab cm)) (by kd_p) hM) fP
 ·simp[List.range,List.range.loop]
 ·exact hK ao hJ
structure lQ(low blanks extra:Int):Prop where
 lo:low=1∨low=2
 bl:0≤blanks∧blanks≤2
 ex:1≤extra∧extra≤4
 less:wR low blanks extra
theorem lQ.mem{low blanks extra:Int}(h:lQ low blanks extra):low∈[(1:Int),2]:=by
 rcases h.lo with h|h<;>simp[h]
theorem lQ.join{low blanks extra:Int}(h:lQ low blanks extra){a b i:Nat}(ha:a<3)(hb:b<3)(hi:i<3)(h1:1≤b)(h2:b≤a):(Txt.join (Str.ofString "") ((bo b i++List.replicate (a-b) 4).map (iZ low))).length≤60:=I9 low h.mem a ha b hb i hi h1 h2
theorem lQ.Ja{low blanks extra:Int}(h:lQ low blanks extra){b i:Nat}(hb:b<3)(hi:i<3)(h1:1≤b):(Txt.join (Str.ofString "") ((bo b i).map (iZ low))).length≤60:=by
 have:=h.join (a:=b) hb hb hi h1 (Nat.le_refl _);simpa using this
def Oq(l:List Int):Prop:=∀x∈l,0≤x∧x≤10
theorem zW{a b i:Nat}(ha:a<3)(hb:b<3)(hi:i<3)(h1:1≤b)(h2:b≤a):Oq (bo b i++List.replicate (a-b) 4):=by
 have:=BH a ha b hb i hi h1 h2;intro x m;simpa using List.all_eq_true.mp this x m
theorem E6{b i:Nat}(hb:b<3)(hi:i<3)(h1:1≤b):Oq (bo b i):=by
 have:=zW (a:=b) hb hb hi h1 (Nat.le_refl _);simpa using this
theorem BI(hG:bx G){n:Nat}{U:aw}{O:Mu}{K:Fl→aw→Mu→Prop}{low blanks extra:Int}{ah:List Nat}{j a b:Nat}
  (hF:da U low blanks extra ah (cF (b5 ah j)))(ha:ah[j]?=some a)(hb:ah[j+1]?=some b)(mW:1≤a)(pV:a<3)(jW:1≤b)(uM:b≤a)(hlen:ah.length≤10)(hU:lQ low blanks extra)
  (G6:∀f∈b5 ah j,f≠[]∧f.length≤10)(hf2:(b5 ah (j+1)).length≤100)
  (hK:∀ao,da ao low blanks extra ah (cF (b5 ah (j+1)))→∀o,K .next ao (O++[o])):
  aX G bX (n+4) qN (set U 75 (.int ((j+1:Nat):Int))) O K:=by
 have o4:b<3:=by exact ag 2 0 (aa (ae aC ab) (aa (ak ab cm) (aa (ae af ab) (ak af cm)))) (by kd_p) mW pV uM
 have LP:a=1∨a=2:=by exact Np mW pV
 have Bk:b=1∨b=2:=by exact Np jW o4
 have uL:0≤low∧low≤10:=by rcases hU.lo with h|h<;>(first|exact ag 0 1 (aa (aS aq bV) (aT (ai aJ aq) (ai aq (zk 10)))) (by kd_p) h|exact ag 0 1 (aa (aS aq jQ) (aT (ai aJ aq) (ai aq (zk 10)))) (by kd_p) h)
 have nV:=hU.bl;have hex:=hU.ex;have BF:da (set U 75 (.int ((j+1:Nat):Int))) low blanks extra ah (cF (b5 ah j)):=hF.set (by simp)
 have RA:get (set U 75 (.int ((j+1:Nat):Int))) 75=some (.int ((j+1:Nat):Int)):=gs;generalize set U 75 (.int ((j+1:Nat):Int))=a9 at *;have f1:=BF.c;have f2:=BF.l;have oj:cp (ah.map fun(n:Nat)=>V.int n).length:=.of (by simp;exact vV hlen)
 have ej:((j+1:Nat):Int)-1=(j:Int):=by exact Nj
 unfold qN;k_upd;refine⟨.of (by simp),bK ?_⟩
 k_upd;rw[ej];refine V_at (jK ha) (by exact vU) oj ?_
 k_upd;refine V_at (jK hb) (by exact Gr) oj ?_
 k_upd;refine lq ⟨by exact ag 2 0 (aa (ae ab af) (ai (cH (zk (2 ^ 63))) (bR (az af) (az ab)))) (by kd_p) uM,by exact ag 2 0 (aa (ae aC af) (aa (ak af cm) (aa (ae aC ab) (aa (ak ab cm) (aM (bR (az af) (az ab)) (zk (2 ^ 63))))))) (by kd_p) mW pV jW o4,by simp;exact ag 2 0 (aa (ae aC af) (aa (ak af cm) (aa (ae aC ab) (aa (ak ab cm) (ae af (aj bq ab)))))) (by kd_p) mW pV jW o4⟩ ?_
 rw[show(a:Int)-(b:Int)=((a-b:Nat):Int) by exact ag 2 0 (aa (ae ab af) (aS (bR (az af) (az ab)) (az (bb af ab)))) (by kd_p) uM,eK,Int.toNat_natCast,sE]
 generalize Jb:List.replicate (a-b) (4:Int)=iz;k_upd;have BG:da (set a9 89 (.list (iz.map .int))) low blanks extra ah (cF (b5 ah j)):=BF.set (by simp)
 have RB:get (set a9 89 (.list (iz.map .int))) 75=some (.int ((j+1:Nat):Int)):=gn RA;have i89:get (set a9 89 (.list (iz.map .int))) 89=some (.list (iz.map .int)):=gs;generalize set a9 89 (.list (iz.map .int))=b9 at *;have g1:=BG.c;have g2:=BG.l;refine dC ?_;k_upd;rw[ej];refine V_at (jK ha) (by exact vU) oj ?_
 show gf _ _ gS _ _ _;refine V_at (mV LP) (by rcases LP with rfl|rfl<;>decide) (.of (by decide)) ?_
 refine⟨_,Iter.list,?_⟩;have ec1:cz b9 [70,73]=[(70,.int low),(73,.int blanks)]:=by unfold cz;rw[BG.lo];simp only[];unfold cz;rw[BG.bl];rfl
 refine wU (g:=fun c=>sy (gR c low blanks)) (J:=fun ao=>get ao 70=some (.int low)∧get ao 73=some (.int blanks)) mW pV (fun i hi ao acc K' hJ hM fP=>?_) (by rw[ec1];exact⟨rfl,rfl⟩) (fun ao hJ=>?_)
 ·have RD:get (set ao 72 (.list ((bo a i).map .int))) 70=some (.int low):=gn hJ.1
  have RE:get (set ao 72 (.list ((bo a i).map .int))) 73=some (.int blanks):=gn hJ.2;have l72:get (set ao 72 (.list ((bo a i).map .int))) 72=some (.list ((bo a i).map .int)):=gs;first|show aX _ _ _ _ _ _ _|show d8 _ _ _ _ _ _ _|skip
  generalize set ao 72 (.list ((bo a i).map .int))=ph at *;refine cQ ?_;k_upd;refine CK hG (pT hG (n:=n) uL ⟨nV.1,by exact Nq nV⟩ (E6 pV hi mW) (by rw[jL LP hi];exact ag 1 0 (aa (ae aC ab) (aa (ak ab cm) (ae ab fb))) (by kd_p) mW pV) (Nat.le_trans (hU.Ja pV hi mW) (by decide)) ?_)
  exact⟨.of (by exact Gh hM),fP ph ⟨RD,RE⟩⟩
 refine bK ?_;generalize ym:(List.range 3).map (fun i=>sy (gR (bo a i) low blanks))=eX;k_upd;have yA:da (set b9 84 (.list (eX.map fun w=>V.obj w.v))) low blanks extra ah (cF (b5 ah j)):=BG.set (by simp)
 have LN:get (set b9 84 (.list (eX.map fun w=>V.obj w.v))) 75=some (.int ((j+1:Nat):Int)):=gn RB;have j89:get (set b9 84 (.list (eX.map fun w=>V.obj w.v))) 89=some (.list (iz.map .int)):=gn i89;have LO:get (set b9 84 (.list (eX.map fun w=>V.obj w.v))) 84=some (.list (eX.map fun w=>V.obj w.v)):=gs;generalize set b9 84 (.list (eX.map fun w=>V.obj w.v))=gG at *;have h1:=yA.c;have h2:=yA.l;refine dC ?_;k_upd;refine V_at (jK hb) (by exact Gr) oj ?_
 show gf _ _ gS _ _ _;refine V_at (mV Bk) (by rcases Bk with rfl|rfl<;>decide) (.of (by decide)) ?_
 refine⟨_,Iter.list,?_⟩;have ec2:cz gG [89,70,73,88]=[(89,.list (iz.map .int)),(70,.int low),(73,.int blanks),(88,.int extra)]:=by unfold cz;rw[j89];simp only[];unfold cz;rw[yA.lo];simp only[];unfold cz;rw[yA.bl];simp only[];unfold cz;rw[yA.ex];rfl
 refine wU (g:=fun c=>sy (gR (c++iz) low (blanks+extra))) (J:=fun ao=>get ao 89=some (.list (iz.map .int))∧get ao 70=some (.int low)∧get ao 73=some (.int blanks)∧get ao 88=some (.int extra)) jW o4 (fun i hi ao acc K' hJ hM fP=>?_) (by rw[ec2];exact⟨rfl,rfl,rfl,rfl⟩) (fun ao hJ=>?_)
 ·have l89:get (set ao 72 (.list ((bo b i).map .int))) 89=some (.list (iz.map .int)):=gn hJ.1
  have RD:get (set ao 72 (.list ((bo b i).map .int))) 70=some (.int low):=gn hJ.2.1;have RE:get (set ao 72 (.list ((bo b i).map .int))) 73=some (.int blanks):=gn hJ.2.2.1;have l88:get (set ao 72 (.list ((bo b i).map .int))) 88=some (.int extra):=gn hJ.2.2.2;have l72:get (set ao 72 (.list ((bo b i).map .int))) 72=some (.list ((bo b i).map .int)):=gs;first|show aX _ _ _ _ _ _ _|show d8 _ _ _ _ _ _ _|skip
  generalize set ao 72 (.list ((bo b i).map .int))=ph at *;refine cQ ?_;k_upd;have Ot:iz.length≤2:=by rw[←Jb,List.length_replicate];exact ag 2 0 (aa (ae aC af) (aa (ak af cm) (aa (ae aC ab) (aa (ae ab af) (aa (ak ab cm) (ae (bb af ab) gU)))))) (by kd_p) mW pV jW uM o4
  refine sS ⟨by rw[sizeLine_eq];simp;rw[jL Bk hi];exact ag 2 0 (aa (ae aC af) (aa (ak af cm) (aa (ae ab gU) (ae (aj af ab) bq)))) (by kd_p) jW o4 Ot⟩ ?_
  rw[←List.map_append];k_upd;refine CK hG (pT hG (n:=n) uL ⟨by exact ag 0 2 (aa (aT (ai aJ aK) (ai aK jQ)) (aa (aT (ai bV aq) (ai aq (zk 4))) (ai aJ (bh aK aq)))) (by kd_p) nV hex,by exact Nr nV hex⟩ (by rw[←Jb];exact zW pV o4 hi jW uM) (by rw[List.length_append,jL Bk hi];exact ag 2 0 (aa (ae aC af) (aa (ak af cm) (aa (ae ab gU) (ae (aj af ab) fb)))) (by kd_p) jW o4 Ot) (by rw[←Jb];exact Nat.le_trans (hU.join pV o4 hi jW uM) (by decide)) ?_)
  exact⟨.of (by exact Gh hM),fP ph ⟨l89,RD,RE,l88⟩⟩
 refine bK ?_;generalize pQ:(List.range 3).map (fun i=>sy (gR (bo b i++iz) low (blanks+extra)))=dU;k_upd;have hF4:da (set gG 85 (.list (dU.map fun w=>V.obj w.v))) low blanks extra ah (cF (b5 ah j)):=yA.set (by simp)
 have m75:get (set gG 85 (.list (dU.map fun w=>V.obj w.v))) 75=some (.int ((j+1:Nat):Int)):=gn LN;have m84:get (set gG 85 (.list (dU.map fun w=>V.obj w.v))) 84=some (.list (eX.map fun w=>V.obj w.v)):=gn LO;have m85:get (set gG 85 (.list (dU.map fun w=>V.obj w.v))) 85=some (.list (dU.map fun w=>V.obj w.v)):=gs;generalize set gG 85 (.list (dU.map fun w=>V.obj w.v))=E7 at *;refine⟨.of (by simp),qO (fun x m=>nomatch m) ?_⟩
 k_upd;have hF5:da (set E7 79 (.ml O.length)) low blanks extra ah (cF (b5 ah j)):=hF4.set (by simp)
 have n75:get (set E7 79 (.ml O.length)) 75=some (.int ((j+1:Nat):Int)):=gn m75;have n84:get (set E7 79 (.ml O.length)) 84=some (.list (eX.map fun w=>V.obj w.v)):=gn m84;have n85:get (set E7 79 (.ml O.length)) 85=some (.list (dU.map fun w=>V.obj w.v)):=gn m85;have n79:get (set E7 79 (.ml O.length)) 79=some (.ml O.length):=gs;generalize set E7 79 (.ml O.length)=Vx at *;try refine gN ?_
 k_upd;refine dY ?_;refine⟨_,Iter.gE (by decide),?_⟩
 refine dy (fun i ao ar=>ar=O++[some ((kL a b i).map hO)]∧da ao low blanks extra ah (cF (b5 ah j))∧get ao 75=some (.int ((j+1:Nat):Int))∧get ao 84=some (.list (eX.map fun w=>V.obj w.v))∧get ao 85=some (.list (dU.map fun w=>V.obj w.v))∧get ao 79=some (.ml O.length)) (fun i x ao ar k hx hJ jI kF vH=>?_) (fun ao ar hJ=>?_) ⟨by simp[kL],hF5,n75,n84,n85,n79⟩
 ·refine sJ hJ ?_;clear hJ;intro z1;subst z1;intro q0 Wq Wr Ws RF
  obtain⟨hi,rfl⟩:=uq (m:=9) x hx;have RG:i/3<3:=by exact Nh hi
  have RH:i%3<3:=by exact Ni
  have Wt:eX.length=3:=by rw[←ym];simp
  have Wu:dU.length=3:=by rw[←pQ];simp
  refine BE hG (n:=n+2) (fits:=(kL a b i).map hO) q0 Wq ha hb LP Bk uM (by exact Nt hlen) Wr Ws RF (by simp) (by rw[List.length_map];have:=uN a b i;exact ag 2 0 (aa (ak ab (nk 9)) (aa (ae af ab) (ae af cy))) (by kd_p) hi this) hi (u:=sy (gR (bo a (i/3)) low blanks)) (w:=sy (gR (bo b (i%3)++iz) low (blanks+extra)))
   (by rw[←ym];simp[RG]) (by rw[←pQ];simp[RH]) (by exact Nu Wt) (by exact Nu Wu) (Dl (uO (hU.Ja pV RG mW) (by exact Nq nV))) (Dl (uO (by rw[←Jb];exact hU.join pV o4 RH jW uM) (by exact Nr nV hex))) (by rw[←Jb];exact hU.less a pV b o4 jW uM _ RG _ RH) (fun fJ p0 p75 p84 p85 p79=>?_)
  refine jI _ _ ⟨?_,p0,p75,p84,p85,p79⟩;rw[zT,List.map_append];cases fu (bo a (i/3)) (bo b (i%3)) with
  |true=>simp[hO]
  |false=>simp
 ·refine sJ hJ ?_;clear hJ;intro z1;subst z1;intro q0 Wq Wr Ws RF
  have e9:(cI 0 9).length=9:=rfl;rw[e9];generalize Wv:kL a b 9=fits;have yz:fits.length≤9:=by rw[←Wv];exact uN a b 9
  refine nz RF (xs:=fits.map hO) (by simp) ?_
  have q1:da (set ao 79 (.list (fits.map hO))) low blanks extra ah (cF (b5 ah j)):=q0.set (by simp)
  have r79:get (set ao 79 (.list (fits.map hO))) 79=some (.list (fits.map hO)):=gs;first|show aX _ _ _ _ _ _ _|show d8 _ _ _ _ _ _ _|skip
  generalize set ao 79 (.list (fits.map hO))=GY at *;have rf:=q1.f;unfold cF at rf;k_upd;refine zf ?_;k_upd;refine⟨_,Iter.list,?_⟩;have ec:cz GY [79]=[(79,.list (fits.map hO))]:=by unfold cz;rw[r79];rfl
  rw[ec];have fY:b5 ah (j+1)=(b5 ah j).flatMap fun f=>fits.flatMap fun p=>if p.1=f.getLastD [] then[f++[p.2]] else[]:=by
   rw[←Wv];show I8 (b5 ah j) (ah.getD j 0) (ah.getD (j+1) 0)=_;rw[List.getD_eq_getElem?_getD,List.getD_eq_getElem?_getD,ha,hb]
   rfl
  let h:List (List Int)→List V:=fun f=>fits.flatMap fun p=>if p.1=f.getLastD [] then[cG (f++[p.2])] else[]
  have heq:(b5 ah j).flatMap h=(b5 ah (j+1)).map cG:=by
   rw[fY,List.map_flatMap]
   congr 1
   funext f
   rw[List.map_flatMap];show fits.flatMap _=_
   congr 1
   funext p
   by_cases c:p.1=f.getLastD []
   ·rw[if_pos c,if_pos c];rfl
   ·rw[if_neg c,if_neg c];rfl
  refine dW (M:=100) (J:=fun ao=>get ao 79=some (.list (fits.map hO))) cG h (fun f hf yx acc K' hJ hM fP=>?_) rfl (by rw[heq,List.length_map];simp;omega) (fun yx hJ=>?_)
  ·have hf:=G6 f hf
   have s79:get (set yx 77 (cG f)) 79=some (.list (fits.map hO)):=gn hJ;have s77:get (set yx 77 (cG f)) 77=some (.list (f.map fun c=>.list (c.map .int))):=gs;first|show aX _ _ _ _ _ _ _|show d8 _ _ _ _ _ _ _|skip
   generalize set yx 77 (cG f)=LQ at *;refine cQ ?_;k_upd;refine⟨_,Iter.list,?_⟩;refine dW (M:=100) (J:=fun ao=>get ao 77=some (.list (f.map fun c=>.list (c.map .int)))∧get ao 79=some (.list (fits.map hO))) hO (fun p=>if p.1=f.getLastD [] then[cG (f++[p.2])] else[]) (fun p hp zX Ww K2 Jc BJ E8=>?_) ⟨s77,s79⟩ hM (fun zX Jc=>fP _ Jc.2)
   have Wx:get (set zX 78 (hO p)) 79=some (.list (fits.map hO)):=gn Jc.2;have Wy:get (set zX 78 (hO p)) 77=some (.list (f.map fun c=>.list (c.map .int))):=gn Jc.1;have t78:get (set zX 78 (hO p)) 78=some (.tuple [.list (p.1.map .int),.list (p.2.map .int)]):=gs;first|show aX _ _ _ _ _ _ _|show d8 _ _ _ _ _ _ _|skip
   generalize set zX 78 (hO p)=Ou at *;refine kQ ?_;k_upd;refine jw (v:=.list (p.1.map .int)) rfl (by decide) (.of (by simp)) ?_
   k_upd;have BK:f.getLast?=some (f.getLastD []):=by
    rw[List.getLast?_eq_some_getLast hf.1,List.getLastD_eq_getLast?,List.getLast?_eq_some_getLast hf.1];rfl
   have aaf:0<f.length:=List.length_pos_iff.mpr hf.1;refine V_at (v:=.list ((f.getLastD []).map .int)) (by
    unfold cE;rw[if_pos (by decide),List.length_map,show(-1+(f.length:Int)).toNat=f.length-1 by omega,List.getElem?_map,←List.getLast?_eq_getElem?,BK];rfl) (by rw[List.length_map];omega) (.of (by simp;omega)) ?_
   refine AP (wQ _ _) ?_
   by_cases c:p.1=f.getLastD []
   ·rw[decide_eq_true c]
    k_upd;refine jw (v:=.list (p.2.map .int)) rfl (by decide) (.of (by simp)) ?_
    k_upd;refine⟨.of (by simp),bK ?_⟩
    refine sS ⟨by rw[sizeLine_eq];simp;omega⟩ ?_
    rw[if_pos c]at BJ E8;have:=E8 Ou ⟨Wy,Wx⟩;refine⟨.of (by simp at BJ;exact Nv BJ),?_⟩
    have e:cG (f++[p.2])=.list ((f.map fun c=>V.list (c.map .int))++[.list (p.2.map .int)]):=by unfold cG;rw[List.map_append];rfl
    rw[←e];exact this
   ·rw[decide_eq_false c]
    refine iB ?_;rw[if_neg c]at BJ E8;have:=E8 Ou ⟨Wy,Wx⟩;rw[List.append_nil]at this;exact this
  ·refine bK ?_
   rw[heq,List.nil_append];k_upd;have Wz:da (set GY 74 (.list ((b5 ah (j+1)).map cG))) low blanks extra ah (cF (b5 ah (j+1))):=⟨gn q1.c,gn q1.l,gn q1.lo,gn q1.bl,gn q1.ex,gs⟩;have:=hK _ Wz none;simpa using this
structure Dp(ah:List Nat):Prop where
 ne:0<ah.length
 le:ah.length≤5
 h0:1≤ah.getD 0 0∧ah.getD 0 0<3
 pair:∀j,j+1<ah.length→1≤ah.getD j 0∧ah.getD j 0<3∧1≤ah.getD (j+1) 0∧ah.getD (j+1) 0≤ah.getD j 0
 fs:∀j<ah.length,(∀f∈b5 ah j,f≠[]∧f.length≤10)∧(b5 ah j).length≤100
noncomputable def fillAll(ah:List Nat):List (List (List Int)):=b5 ah (ah.length-1)
theorem qP(hG:bx G){n:Nat}{O:Mu}{Q:V→Mu→Prop}{low blanks extra:Int}{ah:List Nat}(hl:Dp ah)(hU:lQ low blanks extra)
  (q:Q (cF (fillAll ah)) O):aU G (n+5) (.ref 201) [.list (ah.map fun(n:Nat)=>V.int n),.int low,.int blanks,.int extra] [] O Q:=by
 refine x6 hG (n:=n+4) (st:=zV) (own:=sg) [(76,.list (ah.map fun(n:Nat)=>V.int n)),(70,.int low),(73,.int blanks),(88,.int extra)] (fun P ys ks B Z r rk=>?_) ?_
 ·refine aB.aN r ?_;intro y zz r1 r
  refine aB.aN r ?_;intro z zz r2 r;refine aB.aN r ?_;intro u zz r3 r;refine aB.aN r ?_;intro t zz r4 r;refine aB.bE r ?_;refine aB.bE rk ?_;exact⟨[y,z,u,t],.cons r1 (.cons r2 (.cons r3 (.cons r4 .nil))),fun S=>by kd_p⟩
 ·have a76:get (bc [] [(76,.list (ah.map fun(n:Nat)=>V.int n)),(70,.int low),(73,.int blanks),(88,.int extra)]) 76=some (.list (ah.map fun(n:Nat)=>V.int n)):=rfl
  have a70:get (bc [] [(76,.list (ah.map fun(n:Nat)=>V.int n)),(70,.int low),(73,.int blanks),(88,.int extra)]) 70=some (.int low):=rfl;have a73:get (bc [] [(76,.list (ah.map fun(n:Nat)=>V.int n)),(70,.int low),(73,.int blanks),(88,.int extra)]) 73=some (.int blanks):=rfl;have a88:get (bc [] [(76,.list (ah.map fun(n:Nat)=>V.int n)),(70,.int low),(73,.int blanks),(88,.int extra)]) 88=some (.int extra):=rfl;generalize bc [] [(76,.list (ah.map fun(n:Nat)=>V.int n)),(70,.int low),(73,.int blanks),(88,.int extra)]=mu at *;have oj:cp (ah.map fun(n:Nat)=>V.int n).length:=.of (by have:=hl.le;simp;exact ag 1 0 (aa (ae ab (nk 5)) (ae ab aQ)) (by kd_p) this)
  have RI:∀ {j:Nat},j<ah.length→ah[j]?=some (ah.getD j 0):=by
   intro j h;rw[List.getD_eq_getElem?_getD,List.getElem?_eq_getElem h];rfl
  have RJ:=hl.h0;unfold zV;repeat(first|kd_in|refine⟨gM.of (by decide),bK ?_⟩)
  rw[show V.list [V.list [],V.list [V.list [V.int 1],V.list [V.int 2],V.list [V.int 3]],V.list [V.list [V.int 1,V.int 2],V.list [V.int 1,V.int 3],V.list [V.int 2,V.int 3]]]=gS from rfl];have b86:get (set mu 86 gS) 86=some gS:=gs;have b76:get (set mu 86 gS) 76=some (.list (ah.map fun(n:Nat)=>V.int n)):=gn a76;have QR:get (set mu 86 gS) 70=some (.int low):=gn a70;have b73:get (set mu 86 gS) 73=some (.int blanks):=gn a73;have b88:get (set mu 86 gS) 88=some (.int extra):=gn a88;generalize set mu 86 gS=a9 at *;k_upd;refine dC ?_;k_upd;refine V_at (i:=((0:Nat):Int)) (jK (RI hl.ne)) (by exact ag 1 0 (ai (cH (az ab)) (az b6)) (by kd_p)) oj ?_
  show gf _ _ gS _ _ _;refine V_at (mV (by exact ag 1 0 (aa (aT (ae aC ab) (ak ab cm)) (lpo (ax ab aC) (ax ab gU))) (by kd_p) RJ)) (by unfold gp;simp) (.of (by decide)) ?_
  refine⟨_,Iter.list,?_⟩;refine dW (M:=3) (J:=fun zz=>True) (fun c=>.list (c.map .int)) (fun c=>[cG [c]]) (fun c hc ao acc K' hJ hM fP=>?_) trivial ?_ (fun ao hJ=>?_)
  ·have s72:get (set ao 72 (.list (c.map .int))) 72=some (.list (c.map .int)):=gs
   first|show aX _ _ _ _ _ _ _|show d8 _ _ _ _ _ _ _|skip
   generalize set ao 72 (.list (c.map .int))=LQ at *;refine cQ ?_;k_upd;refine⟨.of (by simp),bK ?_⟩
   exact⟨.of (by simp at hM;exact ag 1 0 (aa (ae ab gU) (ae (aj ab aC) aQ)) (by kd_p) hM),fP LQ trivial⟩
  ·rw[zU RJ.1 RJ.2];simp[List.range,List.range.loop]
  refine bK ?_;have e0:(V.list ([]++(gp.getD (ah.getD 0 0) []).flatMap fun c=>[cG [c]]))=cF (b5 ah 0):=by
   unfold cF b5;rw[List.nil_append,List.map_map]
   congr 1
   generalize gp.getD (ah.getD 0 0) []=l
   induction l with
   |nil=>rfl
   |cons x r ih=>rw[List.flatMap_cons,ih];rfl
  rw[e0];k_upd;have hF:da (set a9 74 (cF (b5 ah 0))) low blanks extra ah (cF (b5 ah 0)):=⟨gn b86,gn b76,gn QR,gn b73,gn b88,gs⟩;generalize set a9 74 (cF (b5 ah 0))=b9 at *;have f2:=hF.l;try refine gN ?_
  k_upd;refine cM oj.ok ?_;k_upd;refine oD ?_;rw[List.length_map];have hle:=hl.le;have e8:=hl.ne;refine⟨_,Iter.gE (eJ (by decide) (by decide) (by exact ag 1 0 (aa (ae ab (nk 5)) (aa (ak b6 ab) (ai (zk (-1000000)) (az ab)))) (by kd_p) hle e8) (by exact ag 1 0 (aa (ae ab (nk 5)) (aa (ak b6 ab) (ai (az ab) (zk 1000000)))) (by kd_p) hle e8)),?_⟩
  have Dq:(cI 1 (ah.length:Int)).length=ah.length-1:=by unfold cI;simp<;>omega
  refine dy (fun i ao ar=>da ao low blanks extra ah (cF (b5 ah i))∧ar.take O.length=O) (fun i x ao ar k hx hJ jI kF vH=>?_) (fun ao ar hJ=>?_) ⟨hF,by simp⟩
  ·obtain⟨hJ,ht⟩:=hJ
   have hi:i<ah.length-1:=by rw[←Dq];exact(List.getElem?_eq_some_iff.mp hx).1
   have yk:x=.int ((i+1:Nat):Int):=by
    unfold cI at hx;rw[List.getElem?_map,List.getElem?_range (by exact ag 2 0 (aa (ae ab (nk 5)) (aa (ak b6 ab) (aa (ak af (bb ab aC)) (ak af (dz (bR (az ab) bV)))))) (by kd_p) hle e8 hi)]at hx
    have:=Option.some.inj hx;rw[←this];have e:(1:Int)+(i:Int)=((i+1:Nat):Int):=by exact ag 1 0 (aS (bh bV (az ab)) (az (aj ab aC))) (by kd_p)
    exact congrArg V.int e
   subst yk;have hp:=hl.pair i (by exact Gs hle e8 hi)
   refine BI hG (n:=n) hJ (RI (by exact Nw hle e8 hi)) (RI (by exact Gs hle e8 hi)) hp.1 hp.2.1 hp.2.2.1 hp.2.2.2 (by exact ag 1 0 (aa (ae ab (nk 5)) (aa (ak b6 ab) (ae ab fb))) (by kd_p) hle e8) hU (hl.fs i (by exact Nw hle e8 hi)).1 (hl.fs (i+1) (by exact Gs hle e8 hi)).2 fun fJ hF' o=>jI _ _ ⟨hF',?_⟩
   rw[List.take_append_of_le_length,ht];have:=congrArg List.length ht;rw[List.length_take]at this;exact Gn this
  ·obtain⟨hJ,ht⟩:=hJ
   rw[Dq]at hJ;have f74:=hJ.f;k_upd;refine⟨_,.cl (.list fun x m=>?_),?_⟩
   ·refine aW (List.mem_map.mp m) ?_;intro f zz z1;subst z1
    exact .list fun y hy=>by refine aW (List.mem_map.mp hy) ?_;intro c zz z1;subst z1;exact jG _
   ·rw[ht];exact q
theorem zY{A:Around}{E:Value→Shared→Prop}{s:Shared}{Q:Bool→Shared→Prop}{B:ay}{Z:List Addr}{O:Mu}{xs ys:List Int}{x y:Value}(I:Inv G B Z O s.heap)(hx:VR B Z (.list (xs.map .int)) x)(hy:VR B Z (.list (ys.map .int)) y)(hu:A.units<cLine)(q:Q (fj xs ys) s):
  wpAny (model G.prog G.w) A (oneLt' true x y) Q E s:=by
 refine br (held I hx) ?_;intro a vs m z1;subst z1;intro g1 r1 e1;refine br (held I hy) ?_;intro a' us m' z1;subst z1;intro g2 r2 e2;refine aW (ints_of r1) ?_;intro jU z1;subst z1;intro z2;subst z2;refine aW (ints_of r2) ?_;intro K5 z1;subst z1;intro z2;subst z2;rw[oneLt'_eq];simp only[if_true];refine wpAny_bind (wpAny_cRoomFor hu ?_);refine wpAny_bind (wpAny_callSpecialIfBound?_slot (T:="list") ⟨_,g1,rfl⟩ F.slot_list_lt (call_meets F.slot_list_lt ⟨_,g1,rfl⟩ F.entry_list_lt (F.args_list_lt_2 _ _) (zm a a' jU K5 m m') ⟨g1,g2,?_⟩));show wpAny _ _ (truthOfDropped (.bool _)) Q E s;exact wpAny_truthy_bool q
noncomputable def vQ(p q:List Int×Int):Bool:=if p.1=q.1 then decide (p.2<q.2) else fj p.1 q.1
noncomputable def bT(p:List Int×Int):V:=.tuple [.list (p.1.map .int),.int p.2]
theorem E9{A:Around}{E:Value→Shared→Prop}{s:Shared}{Q:Bool→Shared→Prop}{B:ay}{Z:List Addr}{O:Mu}{p q:List Int×Int}{x y:Value}(I:Inv G B Z O s.heap)(hx:VR B Z (bT p) x)(hy:VR B Z (bT q) y)(hu:A.units+60<cLine)(h:Q (vQ p q) s):
  wpAny (model G.prog G.w) A (keyLt' (tuples' true) x y) Q E s:=by
 refine br (qj I hx) ?_;intro a vs m z1;subst z1;intro g1 r1 e1;refine br (qj I hy) ?_;intro a' us m' z1;subst z1;intro g2 r2 e2;revert g1 g2;refine aB.aN r1 ?_;intro v1 zz LR r1;refine aB.aN r1 ?_;intro v2 zz WA r1;refine aB.bE r1 ?_;refine aB.aN r2 ?_;intro u1 zz WB r2;refine aB.aN r2 ?_;intro u2 zz r22 r2;refine aB.bE r2 ?_;intro g1 g2;refine kat_lt g1 rfl g2 rfl ?_;show KatLex _ _ _ _ _ _ [(v1,u1),(v2,u2)] 0 s;have he:=(pv 50 (A:=A) (wQ p.1 q.1) (by exact ag 2 0 (aa (ak (aj af (nk 60)) ab) (ak (aj af (nk 50)) ab)) (by kd_p) hu) I LR WB).1
 refine kat_cons (he _ _ _ _ ?_);unfold vQ at h
 by_cases c:p.1=q.1
 ·rw[decide_eq_true c]
  rw[if_pos c]at h;refine kat_yes ?_;refine VR.bC WA ?_;intro zz;refine VR.bC r22 ?_;intro zz;refine kat_cons (wpAny_eqBool_int ?_)
  by_cases z:p.2=q.2
  ·rw[show(p.2==q.2)=true by simpa using z]
   rw[show decide (p.2<q.2)=false by simp[z]]at h
   exact kat_yes (kat_nil h)
  ·rw[show(p.2==q.2)=false by simpa using z]
   exact kat_no (kat_one _ _ (t7 h))
 ·rw[decide_eq_false c]
  rw[if_neg c]at h;refine kat_no ?_;exact zY I LR WB (by exact ag 2 0 (aa (ak (aj af (nk 60)) ab) (ak af ab)) (by kd_p) hu) h
theorem pW{cmp:Nat→Nat→(Bool→Shared→Prop)→Shared→Prop}{s:Shared}{p:Array Nat}{Q:Nat→Shared→Prop}:∀ (f n:Nat),(∀i,n≤i→i<n+f→∀C:Bool→Shared→Prop,C false s→cmp (p.getD i 0) (p.getD (i-1) 0) C s)→Q (n+f) s→(kas_asc p f n).kasWp cmp Q s
 |0,n,h,q=>q
 |f+1,n,h,q=>by
  refine h n (Nat.le_refl _) (by exact ag 2 0 (ak af (aj af (aj ab aC))) (by kd_p)) _ ?_
  show(kas_asc p f (n+1)).kasWp cmp Q s;refine pW f (n+1) (fun i h1 h2=>h i (by exact OU h1) (by exact ag 3 0 (aa (ak au (aj (aj af aC) ab)) (ak au (aj af (aj ab aC)))) (by kd_p) h2)) ?_
  rw[show n+1+f=n+(f+1) by exact Ny];exact q
theorem sG{cmp:Nat→Nat→(Bool→Shared→Prop)→Shared→Prop}{s:Shared}{n:Nat}{Q:Array Nat→Shared→Prop}(h1:1≤n)(h:∀i,i+1<n→∀C:Bool→Shared→Prop,C false s→cmp (i+1) i C s)
  (q:Q (List.toArray (List.range n)) s):(kas_sort n).kasWp cmp Q s:=by
 unfold kas_sort;rw[KasT.kasWp_bind];unfold kas_count;rw[KasT.kasWp_bind];have hp:∀i,i<n→(List.toArray (List.range n)).getD i 0=i:=by
  intro i hi;simp[Array.getD,hi]
 refine pW (n-1) 1 (fun i h2 h3 C hC=>?_) ?_
 ·rw[hp i (by exact ag 2 0 (aa (ae aC ab) (aa (ak af (aj aC (bb ab aC))) (ak af ab))) (by kd_p) h1 h3),hp (i-1) (by exact ag 2 0 (aa (ae aC ab) (aa (ae aC af) (aa (ak af (aj aC (bb ab aC))) (ak (bb af aC) ab)))) (by kd_p) h1 h2 h3)]
  have:=h (i-1) (by exact ag 2 0 (aa (ae aC ab) (aa (ae aC af) (aa (ak af (aj aC (bb ab aC))) (ak (aj (bb af aC) aC) ab)))) (by kd_p) h1 h2 h3) C hC
  rw[show i-1+1=i by exact ag 1 0 (aa (ae aC ab) (ax (aj (bb ab aC) aC) ab)) (by kd_p) h2]at this
  exact this
 ·rw[show 1+(n-1)=n by exact ag 1 0 (aa (ae aC ab) (ax (aj aC (bb ab aC)) ab)) (by kd_p) h1]
  simp only[beq_self_eq_true,if_true];show(if n<n then _ else KasT.ret _).kasWp cmp Q s
  rw[if_neg (Nat.lt_irrefl _)];exact q
theorem take_all{Z aH:List Addr}(p:Z <+: aH)(e:Z.length=aH.length):aH=Z:=by
 obtain⟨t,rfl⟩:=p;have:t=[]:=by
  have:=e;rw[List.length_append]at this;exact List.eq_nil_of_length_eq_zero (by exact ag 2 0 (aa (ax ab (aj ab af)) (ax af b6)) (by kd_p) this)
 rw[this,List.append_nil]
structure sZ(G:dk)(B:ay)(Z:List Addr)(O:Mu)(s0:Shared)(D kS e1:Nat)(keys:List V)(B':ay)(s:Shared):Prop where
 post:aG G [D,kS] B Z s0 B' Z O s
 d:s.heap.get? D=some (lobj [] e1)
 k:∃ks e,s.heap.get? kS=some (lobj ks e)∧aB B' Z keys ks
 od:Off B' Z D
 ok:Off B' Z kS
theorem uP{A:Around}{E:Value→Shared→Prop}{P:PySem.Fin→Shared→Prop}{B B':ay}{Z:List Addr}{O:Mu}{s0 s:Shared}{D kS e1:Nat}{keys:List V}{vs:List Value}{st:SortSt}(e8:D≠kS)(h:sZ G B Z O s0 D kS e1 keys B' s)(hz:vs.length<64)(zw:keys.length<64)
  (RK:(arrOf st).map (·.2)=vs.toArray)(hf:failedOf st=none)
  (q:∀s' c,aG G [D,kS] B Z s0 B' Z O s'→s'.heap.get? D=some (lobj vs c)→P (.done (.ret .none)) s'):
  wpAny (model G.prog G.w) A (ksk_tail D false e1 (.ref kS) st) P E s:=by
 refine jX h.k ?_;intro ks e hk rk;have gW:ks.length<64:=by rw[←rk.1];exact zw
 unfold ksk_tail;try dsimp only
 rw[RK];have s1:=Heap.SameBut.update s.heap kS (Obj.mapSeq fun zz=>(#[]:Array Value));have g1:(s.heap.update kS (Obj.mapSeq fun zz=>(#[]:Array Value))).get? D=some (lobj [] e1):=(s1.2 D e8).trans h.d;have g2:∃ck,(s.heap.update kS (Obj.mapSeq fun zz=>(#[]:Array Value))).get? kS=some (seqObj "list" #[] ck):=⟨_,get?_update_seq hk fun zz=>#[]⟩;obtain⟨ck,g2⟩:=g2;have P1:=Inv.pj (W:=[D,kS]) (s:=s) (tk:=s.toks) (h':=s.heap.update kS (Obj.mapSeq fun zz=>(#[]:Array Value))) h.post.inv (.tail _ (.head _)) h.ok (fun b o hb g=>(s1.2 b hb).trans g) ⟨_,g2⟩ h.post.bL;have s2:=Heap.SameBut.update (s.heap.update kS (Obj.mapSeq fun zz=>(#[]:Array Value))) D (Obj.mapSeq fun zz=>vs.toArray);have g3:∃c,((s.heap.update kS (Obj.mapSeq fun zz=>(#[]:Array Value))).update D (Obj.mapSeq fun zz=>vs.toArray)).get? D=some (lobj vs c):=⟨_,get?_update_seq g1 fun zz=>vs.toArray⟩;obtain⟨c,g3⟩:=g3;have P2:=Inv.pj (W:=[D,kS]) (s:={s with heap:=s.heap.update kS (Obj.mapSeq fun zz=>(#[]:Array Value)),toks:=s.toks}) (tk:=s.toks) (h':=(s.heap.update kS (Obj.mapSeq fun zz=>(#[]:Array Value))).update D (Obj.mapSeq fun zz=>vs.toArray)) P1.inv (.head _) h.od (fun b o hb g=>(s2.2 b hb).trans g) ⟨_,g3⟩ P1.bL
 refine wpAny_bind (listUpdate_at hk rfl ?_ (by rw[List.size_toArray,sizeLine_eq];exact ag 1 0 (aa (ak ab d7) (ae ab bq)) (by kd_p) gW) (Nat.zero_le _))
 refine wpAny_bind (wpAny_letGo ?_);refine wpAny_bind (seqEpoch_at g1 rfl ?_);refine wpAny_bind (listUpdate_at g1 rfl ?_ (Nat.zero_le _) (by simp only[Bool.false_eq_true,if_false];rw[List.size_toArray,sizeLine_eq];exact ag 1 0 (aa (ak ab d7) (ae ab (aj bq aC))) (by kd_p) hz))
 rw[hf];simp only[bne_self_eq_false,Bool.false_eq_true,if_false];exact wpAny_pure (q _ c ((h.post.trans P1).trans P2) g3)
theorem om{B:ay}{Z:List Addr}{O:Mu}{h:Heap}(I:Inv G B Z O h):∀ {ps:List (List Int×Int)} {ks:List Value},aB B Z (ps.map bT) ks→∃fs,KatTups h ks fs∧fs.length=ks.length∧∀v∈fs,∃a vs n,v=.ref a∧h.get? a=some (lobj vs n)
 |[],ks,r=>by
  rw[r.ff];exact⟨[],.nil,rfl,fun zz m=>nomatch m⟩
 |p::ps,ks,r=>by
  refine aB.aN r ?_;intro v vs r1 r;refine gJ (om I r) ?_;intro fs t hl hf;refine br (qj I r1) ?_;intro a us m z1;subst z1;intro g1 r2 e1;revert g1;refine aB.aN r2 ?_;intro v1 zz LR r2;refine aB.aN r2 ?_;intro v2 zz WA r2;refine aB.bE r2 ?_;intro g1;refine br (held I LR) ?_;intro b ws k z1;subst z1;intro g2 zz zz;refine⟨.ref b::fs,.cons g1 rfl rfl rfl t,by simp[hl],fun v m=>?_⟩
  rcases List.mem_cons.mp m with rfl|m
  ·exact⟨b,ws,k,rfl,g2⟩
  ·exact hf v m
theorem Fb{A:Around}(hu:A.units+60<cLine){E:Value→Shared→Prop}{P:PySem.Fin→Shared→Prop}{B B':ay}{Z:List Addr}{O:Mu}{s0 s:Shared}{D kS e1:Nat}{ps:List (List Int×Int)}{vs:List Value}(e8:D≠kS)(h:sZ G B Z O s0 D kS e1 (ps.map bT) B' s)
  (hl:ps.length=vs.length)(h1:1≤vs.length)(hz:vs.length<64)(hs:∀i p q,ps[i]?=some p→ps[i+1]?=some q→vQ q p=false){ks:List Value}(e:Nat)(hk:s.heap.get? kS=some (lobj ks e))(rk:aB B' Z (ps.map bT) ks)
  (q:∀s' c,aG G [D,kS] B Z s0 B' Z O s'→s'.heap.get? D=some (lobj vs c)→P (.done (.ret .none)) s'):
  wpAny (model G.prog G.w) A (ksk_end D false vs.toArray e1 (.ref kS) ks.toArray) P E s:=by
 have gW:ks.length=vs.length:=by rw[←hl,←List.length_map (f:=bT) (as:=ps)];exact rk.1.symm
 have zw:(ps.map bT).length<64:=by rw[List.length_map];exact ag 3 0 (aa (ax au af) (aa (ae aC af) (aa (ak af d7) (aa (ax ab af) (ak au d7))))) (by kd_p) hl h1 hz gW
 unfold ksk_end;try dsimp only
 simp only[Bool.false_eq_true,if_false]
 by_cases h2:vs.toArray.size<2
 ·rw[if_pos h2,if_pos h2]
  refine wpAny_bind (wpAny_pure ?_);refine wpAny_bind (wpAny_pure ?_);try dsimp only
  refine uP e8 h hz zw ?_ rfl q;show(ks.toArray.zip vs.toArray).map (·.2)=vs.toArray
  apply Array.toList_inj.mp;rw[Array.toList_map,ksk_zip];rw[List.toList_toArray];exact List.map_snd_zip (by exact ag 2 0 (aa (ax ab af) (ae af ab)) (by kd_p) gW)
 ·rw[if_neg h2,if_neg h2]
  have WC:2≤vs.length:=by rw[List.size_toArray]at h2;exact ag 2 0 (aa (ae aC af) (aa (ak af d7) (aa (ax ab af) (aa (dH (ak af gU)) (ae gU af))))) (by kd_p) h1 hz gW h2
  refine gJ (om h.post.inv rk) ?_;intro fs t yz QB;refine wpAny_bind (kat_kind (T:=.type "list") t (by exact ag 3 0 (aa (ae aC af) (aa (ak af d7) (aa (ax ab af) (aa (ae gU af) (aa (ax au ab) (ak b6 au)))))) (by kd_p) h1 hz gW WC yz) (fun v m=>?_) (by decide) ?_)
  ·refine oq (QB v m) ?_;intro a us m z1;subst z1;intro g
   exact(Looks.ld g).andThen .now
  ·have hb:((Value.type "list") !=Value.type "tuple")=true:=by decide
   rw[hb];refine wpAny_bind (wpAny_mono (kat_run (ks:=ks) (vs:=vs) (Q:=fun st' s'=>s'=s∧arrOf st'=(List.toArray (List.range vs.length)).map (kas_item (ks.toArray.zip vs.toArray))∧failedOf st'=none) (G:=fun p s'=>s'=s∧p=List.toArray (List.range vs.length)) gW WC hz (fun p st' s' a1 a2 a3 a4=>⟨a4.1,by rw[a2,a4.2],a3⟩)
    (sG h1 (fun i hi C hC=>?_) ⟨rfl,rfl⟩)) ?_ fun zz zz x=>x)
   ·unfold kas_ask
    have WD:i<ps.length:=by exact ag 5 0 (aa (ax aO au) (aa (ax af au) (aa (ax ab af) (aa (ak (aj dc aC) au) (ak dc aO))))) (by kd_p) hl gW yz hi
    have kA:i+1<ps.length:=by exact ag 5 0 (aa (ax aO au) (aa (ax af au) (aa (ax ab af) (aa (ak (aj dc aC) au) (ak (aj dc aC) aO))))) (by kd_p) hl gW yz hi
    have get:∀j,(hj:j<ps.length)→VR B' Z (bT ps[j]) (ks.getD j Value.none):=by
     intro j hj;have hj':j<ks.length:=by exact ag 5 0 (aa (ax au af) (aa (ax aO af) (aa (ax ab aO) (aa (ak dc au) (ak dc aO))))) (by kd_p) hl gW yz hj
     refine rk.2 j _ _ ?_ ?_
     ·rw[List.getElem?_map,List.getElem?_eq_getElem hj];rfl
     ·simp[hj']
    exact E9 h.post.inv (get (i+1) kA) (get i WD) hu (by rw[hs i _ _ (List.getElem?_eq_getElem WD) (List.getElem?_eq_getElem kA)];exact hC)
   ·rintro⟨⟨⟩,st'⟩ s' ⟨rfl,RK,hf⟩
    try dsimp only
    refine uP e8 h hz zw ?_ hf q;rw[kat_snds gW RK]
    congr 1
    apply List.ext_getElem?;intro j;rw[List.toList_toArray,List.getElem?_map]
    by_cases hj:j<vs.length
    ·rw[List.getElem?_range hj,List.getElem?_eq_getElem hj]
     simp[hj]
    ·rw[List.getElem?_eq_none (by simp;exact Nz gW yz hj),List.getElem?_eq_none (by exact Nz gW yz hj)]
     rfl
theorem aB.snoc{B:ay}{Z:List Addr}{xs:List V}{vs:List Value}{v:V}{x:Value}(h:aB B Z xs vs)(r:VR B Z v x):aB B Z (xs++[v]) (vs++[x]):=by
 refine⟨by simp[h.1],fun i a b p q=>?_⟩
 by_cases hi:i<xs.length
 ·rw[List.getElem?_append_left hi]at p
  rw[List.getElem?_append_left (by rw[←h.1];exact hi)]at q
  exact h.2 i a b p q
 ·have kA:i=xs.length:=by
   have:=(List.getElem?_eq_some_iff.mp p).1;simp at this;exact ag 2 0 (aa (dH (ak af ab)) (aa (ak af (aj ab aC)) (ax af ab))) (by kd_p) hi this
  subst kA;simp at p;rw[h.1]at q;simp at q;subst p;subst q;exact r
theorem BL{A:Around}{n:Nat}(hA:bY n A)(hu:A.units+60<cLine){E:Value→Shared→Prop}{P:PySem.Fin→Shared→Prop}{B:ay}{Z:List Addr}{O:Mu}{s0 s:Shared}{D kS e1:Nat}{ps:List (List Int×Int)}{xs:List V}{vs:List Value}{f:Value}{fv:V}(e8:D≠kS)(h:sZ G B Z O s0 D kS e1 [] B s)
  (U0:s.heap.get? kS=some (lobj [] 0))(rf:VR B Z fv f)(rx:aB B Z xs vs)(hl:ps.length=vs.length)(h1:1≤vs.length)(hz:vs.length<64)(hs:∀ (i:Nat) p q,ps[i]?=some p→ps[i+1]?=some q→vQ q p=false)
  (BM:∀ (i:Nat) v p,xs[i]?=some v→ps[i]?=some p→∀B Z s f x,Inv G B Z O s.heap→VR B Z fv f→VR B Z v x→wpAny (model G.prog G.w) A (call f [x]) (PV G B Z s fun u ar=>u=bT p∧ar=O) bM s)
  (q:∀s' c B',aG G [D,kS] B Z s0 B' Z O s'→Off B' Z D→s'.heap.get? D=some (lobj vs c)→P (.done (.ret .none)) s'):
  wpAny (model G.prog G.w) A (ksk_rest D f false vs.toArray e1 (.ref kS)) P E s:=by
 unfold ksk_rest;refine wpAny_bind (wpAny_rule ?_);rw[List.forIn_toArray];refine wpAny_bind (ksk_fold (fun j s'=>∃B',sZ G B Z O s0 D kS e1 ((ps.take j).map bT) B' s') vs 0 s ⟨B,by simpa using h⟩ (fun j x s1 hx hJ=>?_) fun s' hJ=>?_)
 ·obtain⟨B1,K⟩:=hJ
  rw[Nat.zero_add]at K ⊢;have hj:j<vs.length:=(List.getElem?_eq_some_iff.mp hx).1;have WE:j<ps.length:=by exact NA hl hj
  have IU:j<xs.length:=by rw[rx.1];exact hj
  have rv:VR B Z xs[j] x:=rx.2 j _ _ (List.getElem?_eq_getElem IU) hx;refine jX K.k ?_;intro ks e hk rk;refine wpAny_bind (wpAny_attempt (wpAny_mono (BM j _ _ (List.getElem?_eq_getElem IU) (List.getElem?_eq_getElem WE) B1 Z s1 f x K.post.inv (rf.mono K.post.le (List.prefix_refl _)) (rv.mono K.post.le (List.prefix_refl _))) (fun k' s2 gL=>?_) fun zz zz hF=>hF.elim));obtain⟨u,ar,B2,aV,⟨rfl,rfl⟩,P2,r2⟩:=gL;have Jd:aV=Z:=take_all P2.pre (by rw[K.post.inv.len,P2.inv.len])
  subst Jd;have Ov:s2.heap.get? kS=some (lobj ks e):=P2.kept hk (by simp) K.ok.2.1 K.ok.2.2
  have hD2:s2.heap.get? D=some (lobj [] e1):=P2.kept K.d (by simp) K.od.2.1 K.od.2.2
  have od2:Off B2 aV D:=K.od.step P2 ⟨_,K.d⟩;have WG:Off B2 aV kS:=K.ok.step P2 ⟨_,hk⟩;have WH:=P2.widen (W:=[D,kS]) (fun a m=>by
   simp only[List.mem_cons,List.not_mem_nil,or_false]at m;rcases m with rfl|rfl
   ·exact⟨_,K.d⟩
   ·exact⟨_,hk⟩) (fun a m=>by
   simp only[List.mem_cons,List.not_mem_nil,or_false]at m;rcases m with rfl|rfl
   ·exact K.od.2.1
   ·exact K.ok.2.1) (fun a m=>by
   simp only[List.mem_cons,List.not_mem_nil,or_false]at m;rcases m with rfl|rfl
   ·exact K.od.2.2
   ·exact K.ok.2.2)
  have gW:ks.length=j:=by rw[←rk.1,List.length_map,List.length_take];exact ag 3 0 (aa (ax af ab) (aa (ak au ab) (ax (jP au af) au))) (by kd_p) hl hj
  have ea:(List.toArray ks).push k'=List.toArray (ks++[k']):=by simp
  have sb:=Heap.SameBut.update s2.heap kS (Obj.mapSeq (·.push k'))
  obtain⟨c2,IZ⟩:∃c2,(s2.heap.update kS (Obj.mapSeq (·.push k'))).get? kS=some (lobj (ks++[k']) c2):=⟨_,by
   have:=get?_update_seq Ov (·.push k')
   rw[ea]at this;exact this⟩
  have P3:=Inv.pj (W:=[D,kS]) (s:=s2) (tk:=s2.toks) (h':=s2.heap.update kS (Obj.mapSeq (·.push k'))) P2.inv (.tail _ (.head _)) WG (fun b o hb g=>(sb.2 b hb).trans g) ⟨_,IZ⟩ WH.bL
  try dsimp only
  refine wpAny_bind (listUpdate_at Ov rfl ?_ (by rw[List.size_toArray,sizeLine_eq];exact ag 3 0 (aa (ae aC af) (aa (ak af d7) (aa (ak ab af) (aa (ax au ab) (ae au bq))))) (by kd_p) h1 hz hj gW) (Nat.le_trans (Nat.le_of_eq (Array.size_push ..)) (by rw[List.size_toArray,sizeLine_eq];exact ag 3 0 (aa (ae aC af) (aa (ak af d7) (aa (ak ab af) (aa (ax au ab) (ae (aj au aC) (aj bq aC)))))) (by kd_p) h1 hz hj gW)))
  refine wpAny_pure ⟨rfl,B2,(K.post.trans WH).trans P3,(sb.2 D e8).trans hD2,⟨_,c2,IZ,?_⟩,od2,WG⟩;have et:(ps.take (j+1)).map bT=(ps.take j).map bT++[bT ps[j]]:=by
   rw[List.take_succ,List.getElem?_eq_getElem WE,List.map_append];rfl
  rw[et];exact aB.snoc (rk.mono P2.le (List.prefix_refl _)) r2
 ·obtain⟨B',K⟩:=hJ
  rw[Nat.zero_add,←hl,List.take_length]at K;refine jX K.k ?_;intro ks e hk rk;try dsimp only
  refine wpAny_bind (listItems_at hk rfl ?_);exact Fb hu e8 K hl h1 hz hs e hk rk fun s' c P' g=>q s' c B' P' K.od g
theorem BN{n:Nat}{O:Mu}{Q:V→Mu→Prop}{ps:List (List Int×Int)}{xs:List V}{fv:V}(hl:ps.length=xs.length)(h1:1≤xs.length)(hz:xs.length<64)(hc:∀x∈xs,Cl x)(hs:∀ (i:Nat) p q,ps[i]?=some p→ps[i+1]?=some q→vQ q p=false)
  (hf:∀B Z f,VR B Z fv f→∃a,f=.ref a)
  (BM:∀ (i:Nat) v p,xs[i]?=some v→ps[i]?=some p→∀A,bY n A→∀B Z s f x,Inv G B Z O s.heap→VR B Z fv f→VR B Z v x→wpAny (model G.prog G.w) A (call f [x]) (PV G B Z s fun u ar=>u=bT p∧ar=O) bM s)
  (q:Q (.list xs) O):aU G (n+4) (.builtin "sorted") [.list xs] [("key",fv)] O Q:=by
 intro A hA B Z s as ks I rv rk;refine aB.aN rv ?_;intro x zz rx rv;refine aB.bE rv ?_;refine aB.aN rk ?_;intro f zz rf rk;refine aB.bE rk ?_;obtain⟨fa,rfl⟩:=hf _ _ _ rf;refine br (held I rx) ?_;intro l vs m z1;subst z1;intro g1 r1 e1;have BO:vs.length=xs.length:=r1.1.symm;have vJ:bY n A.in1.in1:=(bY.in1 (bY.in1 (hA.le (n':=n+2) (by exact ag 1 0 (ae (aj ab gU) (aj ab (nk 4))) (by kd_p)))))
 have EB:A.in1.in1.units+60<cLine:=by have:=(hA.units);show A.units+1+1+60<cLine;unfold cLine;exact ag 2 0 (aa (ae (aj af (cY 16 (aj ab (nk 4)))) c7) (ak (aj (aj (aj af aC) aC) (nk 60)) (nk 9900))) (by kd_p) this
 show wpAny _ _ (call (.builtin "sorted") [.ref l] [(Str.ofString "key",.ref fa)]) _ _ _;refine call_function_entry_kw kind_sorted plain_sorted entry_sorted (ksk_s1 _ _) ?_;unfold Builtin.«sorted»;refine wpAny_bind (m:=checkCount "sorted" 1 1 _) (wpAny_pure ?_);refine wpAny_bind (collect_list (vs:=vs) ⟨_,g1,rfl,m,rfl⟩ ?_ (by rw[sizeLine_eq];exact Cz h1 hz BO))
 refine wpAny_bind (wpAny_newList ?_ (by rw[sizeLine_eq];exact Cz h1 hz BO))
 have bG:((s.heap.push (seqObj "list" #[] 0)).update s.heap.objs.size (Obj.mapSeq (· ++ vs.toArray))).objs.size=s.heap.objs.size+1:=by
  rw[Heap.size_update,size_push']
 have LS:(((s.heap.push (seqObj "list" #[] 0)).update s.heap.objs.size (Obj.mapSeq (· ++ vs.toArray))).push (seqObj "list" vs.toArray 0)).get? (s.heap.objs.size+1)=some (seqObj "list" vs.toArray 0):=by
  rw[←bG];exact Heap.get?_push_size _ rfl
 have keep:∀b o,s.heap.get? b=some o→(((s.heap.push (seqObj "list" #[] 0)).update s.heap.objs.size (Obj.mapSeq (· ++ vs.toArray))).push (seqObj "list" vs.toArray 0)).get? b=some o:=fun b o q=>by
  have bA:b<s.heap.objs.size:=Heap.lt_size q;rw[Heap.get?_push_ne _ _ _ (by rw[bG];exact Nat.ne_of_lt (Nat.lt_succ_of_lt bA)),Heap.get?_update_ne _ _ _ _ (Nat.ne_of_lt bA),Heap.get?_push_ne _ _ _ (Nat.ne_of_lt bA)]
  exact q
 have nD:s.heap.get? (s.heap.objs.size+1)=none:=Heap.get?_none_of_le (Nat.le_succ _);have nS:s.heap.get? (s.heap.objs.size+3)=none:=Heap.get?_none_of_le (Nat.le_add_right _ 3);show wpAny _ _ _ _ _ {s with heap:=((s.heap.push (seqObj "list" #[] 0)).update s.heap.objs.size (Obj.mapSeq (· ++ vs.toArray))).push (seqObj "list" vs.toArray 0)}
 rw[bG];have WI:(((s.heap.push (seqObj "list" #[] 0)).update s.heap.objs.size (Obj.mapSeq (· ++ vs.toArray))).push (seqObj "list" vs.toArray 0)).objs.size=s.heap.objs.size+2:=by rw[size_push',bG]
 generalize hhA:((s.heap.push (seqObj "list" #[] 0)).update s.heap.objs.size (Obj.mapSeq (· ++ vs.toArray))).push (seqObj "list" vs.toArray 0)=jR at *
 refine wpAny_bind (wpAny_holding (wpAny_call_entry_kw slot_list_sort ⟨_,LS,rfl⟩ entry_list_sort ?body (ksk_l1 _ _)))
 case body=>
  show wpAny (model G.prog G.w) A.in1.in1 (Builtin.«list.sort» ⟨[.ref (s.heap.objs.size+1)],[(Str.ofString "key",.ref fa)]⟩) _ _ _;rw[ksk_t1];unfold ksk_tree;have s1:=Heap.SameBut.update jR (s.heap.objs.size+1) (Obj.mapSeq fun zz=>(#[]:Array Value));obtain⟨WJ,WK⟩:∃e1,(jR.update (s.heap.objs.size+1) (Obj.mapSeq fun zz=>(#[]:Array Value))).get? (s.heap.objs.size+1)=some (lobj [] e1):=⟨_,get?_update_seq LS fun zz=>#[]⟩;have Ow:((jR.update (s.heap.objs.size+1) (Obj.mapSeq fun zz=>(#[]:Array Value))).push (seqObj "tuple" vs.toArray 0)).objs.size=s.heap.objs.size+3:=by rw[size_push',Heap.size_update,WI]
  have Je:∀b o,s.heap.get? b=some o→(((jR.update (s.heap.objs.size+1) (Obj.mapSeq fun zz=>(#[]:Array Value))).push (seqObj "tuple" vs.toArray 0)).push (seqObj "list" #[] 0)).get? b=some o:=fun b o q=>by
   have e8:b≠s.heap.objs.size+1:=Nat.ne_of_lt (Nat.lt_succ_of_lt (Heap.lt_size q));exact Heap.get?_push_of_some _ (Heap.get?_push_of_some _ ((s1.2 b e8).trans (keep b o q)))
  have WL:(((jR.update (s.heap.objs.size+1) (Obj.mapSeq fun zz=>(#[]:Array Value))).push (seqObj "tuple" vs.toArray 0)).push (seqObj "list" #[] 0)).get? (s.heap.objs.size+1)=some (lobj [] WJ):=Heap.get?_push_of_some _ (Heap.get?_push_of_some _ WK);have RL:(((jR.update (s.heap.objs.size+1) (Obj.mapSeq fun zz=>(#[]:Array Value))).push (seqObj "tuple" vs.toArray 0)).push (seqObj "list" #[] 0)).get? (s.heap.objs.size+3)=some (lobj [] 0):=by
   rw[←Ow];exact Heap.get?_push_size _ rfl
  refine wpAny_bind (listItems_at LS rfl ?_);refine wpAny_bind (listUpdate_at LS rfl ?_ (by rw[List.size_toArray,sizeLine_eq];exact Cz h1 hz BO) (Nat.zero_le _))
  refine wpAny_bind (seqEpoch_at WK rfl ?_);refine wpAny_bind (wpAny_newTuple ?_ (by show vs.length≤_;rw[sizeLine_eq];exact Cz h1 hz BO))
  refine wpAny_bind (wpAny_newList ?_ (Nat.zero_le _));refine wpAny_holding ?_;show wpAny _ _ (ksk_rest (s.heap.objs.size+1) (.ref fa) false vs.toArray WJ (.ref ((jR.update (s.heap.objs.size+1) (Obj.mapSeq fun zz=>(#[]:Array Value))).push (seqObj "tuple" vs.toArray 0)).objs.size)) _ _ {s with heap:=((jR.update (s.heap.objs.size+1) (Obj.mapSeq fun zz=>(#[]:Array Value))).push (seqObj "tuple" vs.toArray 0)).push (seqObj "list" #[] 0)}
  rw[Ow];have I2:=I.keeps Je;have P0:aG G [s.heap.objs.size+1,s.heap.objs.size+3] B Z s B Z O {s with heap:=((jR.update (s.heap.objs.size+1) (Obj.mapSeq fun zz=>(#[]:Array Value))).push (seqObj "tuple" vs.toArray 0)).push (seqObj "list" #[] 0)}:=
   ⟨.refl _,List.prefix_refl _,I2,fun b o zz e=>Je b o e,fun a m=>by
    simp only[List.mem_cons,List.not_mem_nil,or_false]at m;rcases m with rfl|rfl
    ·exact⟨_,WL⟩
    ·exact⟨_,RL⟩,.heap,fun zz h=>.inl h,fun zz h=>.inl h⟩
  refine BL vJ EB (B:=B) (s0:=s) (fun h=>by have:s.heap.objs.size+1=s.heap.objs.size+3:=h;omega) ⟨P0,WL,⟨[],0,RL,.nil⟩,I.off nD,I.off nS⟩ RL rf r1 (by exact ag 3 0 (aa (ax au ab) (aa (ax af ab) (ax au af))) (by kd_p) hl BO) (by exact ag 2 0 (aa (ae aC ab) (aa (ak ab d7) (aa (ax af ab) (ae aC af)))) (by kd_p) h1 hz BO) (by exact ag 2 0 (aa (ae aC ab) (aa (ak ab d7) (aa (ax af ab) (ak af d7)))) (by kd_p) h1 hz BO) hs (fun i v p hv hp=>BM i v p hv hp _ vJ) (fun s' c B' P' od g=>?_)
  refine⟨_,rfl,wpAny_pure ⟨_,rfl,?_⟩⟩;have P2:=P'.qg (fun a m=>by
   simp only[List.mem_cons,List.not_mem_nil,or_false]at m;rcases m with rfl|rfl
   ·exact nD
   ·exact nS)
  refine th (de.out (m:=false) (Q:=Q) q P2 nD od g (r1.mono P2.le (List.prefix_refl _))) ?_;intro v cT mr jZ q' P3 r3 zz zz;exact⟨v,cT,mr,jZ,q',P3,r3⟩
theorem uQ{cells:List (Str×Addr)}:∀ (l:List (Str×NameKind)),(∀p∈l,p.2≠.free)→cK cells l []=[]
 |[],_=>rfl
 |p::r,h=>by
  have h1:=h p (.head _);have h2:=uQ (cells:=cells) r fun q m=>h q (.tail _ m);obtain⟨n,k⟩:=p;unfold cK;rw[if_neg (by cases k<;>simp_all [BEq.beq])]
  exact h2
noncomputable abbrev Jf(q:Str)(params:Arguments)(body:Expr)(scope:Scope):FuncData:=kla_fn "<lambda>" q params body scope [] .none .none .none
theorem RM(hG:bx G){n:Nat}{env:Env}{U:aw}{O:Mu}{Q:V→Mu→Prop}{as:List Arg}{body:Expr}{scope:Scope}{pos:Pos}{P:Nat}{q:Str}{c:Addr}
  (E:jd P pos.line pos.col q)(gk:env.code=.ref c)(jD:codeHdIn G.K c P=true)(hq:env.qual++"<lambda>"=q)
  (lj:∀p∈scope.names,p.2≠.free)
  (h:Q (.fn (Jf q ⟨[],as,none,[],[],none,[]⟩ body scope)) O):
  bz G n env (eval (.Lambda ⟨[],as,none,[],[],none,[]⟩ body scope pos) env) U O Q:=by
 intro A hA B Z s I F;show wpAny _ _ (do
  let dv ←evalAll []
  let kdv ←holding dv (evalAllOpt [])
  makeFunction "<lambda>" (env.qual++"<lambda>") ⟨[],as,none,[],[],none,[]⟩ (.expr body) scope env dv kdv [] pos pos.line) _ _ _
 refine wpAny_bind (wpAny_pure ?_);refine wpAny_bind (wpAny_holding (wpAny_pure ?_));rw[hq];refine Ld hG E F.gl gk jD ?_ I h;have:=jq (env:=env) (scope:=scope) fun p hp hf=>absurd hf (lj p hp);rw[this]
 congr 1
 exact uQ _ lj
theorem Fc{n:Nat}{A:Around}(hA:bY (n+1) A){fd:FuncData}{body:Expr}{own:List Nat}{ps:List (Nat×V)}{B:ay}{Z:List Addr}{O:Mu}{s:Shared}{fx:Value}{vs:List V}{xs:List Value}{Q:V→Mu→Prop}
  (I:Inv G B Z O s.heap)(rf:VR B Z (.fn fd) fx)(rv:aB B Z vs xs)
  (fq:fd.body=.expr body)(cj:fd.closure=[])(hg:fd.globals=mainGlobals)(hb:fd.builtins=builtinsNs)
  (ue:fd.scope.isCoroutine=false)(l0:fd.scope.isGenerator=false)(hk:fd.scope.kind=.function)(Le:∀p∈fd.scope.names,p.2≠.cell)
  (lC:∀c ct d pm,∃binds,BindsTo s {fd with code:=c,closureTuple:=ct,doc:=d,pyModule:=pm} ⟨xs,[]⟩ binds∧fZ (G:=G) B Z binds ps)
  (si:∀p∈ps,p.1∈own∧(fd.scope.names.lookup (G.nm p.1)=some .local∨fd.scope.names.lookup (G.nm p.1)=some .cell))
  (h:∀env:Env,env.scope=fd.scope→bz G n env (eval body env) (bc [] ps) O fun v ar=>Cl v∧Q v (ar.take O.length)):
  wpAny (model G.prog G.w) A (call fx xs) (PV G B Z s Q) bM s:=by
 cases rf with
 | @fn a _ c ct d pm QC jD=>
 have hl:∀a o,B a=some o→s.heap.get? a=some o:=fun a o e=>I.holds a o e;refine aW (lC c ct d pm) ?_;intro binds qx kF;refine wpAny_call (kla_callFunE hA.room (hl _ _ QC) rfl ue l0 fq (jD.N9 hl) (qx _ _ _ _ ?_));show wpAny _ _ (newFunctionEnv fd.scope fd.globals fd.closure binds (fd.qualname++".<locals>.") (some a) c none fd.builtins) _ _ _;rw[hg,hb,cj];refine dp ?_;have k1:=bN s.heap {cls:=.type "frame",data:=.dict #[]};have k2:=pushCells_keeps fd.scope.names (s.heap.push {cls:=.type "frame",data:=.dict #[]});have k:∀b o,s.heap.get? b=some o→(pushCells (s.heap.push {cls:=.type "frame",data:=.dict #[]}) fd.scope.names).get? b=some o:=fun b o e=>k2 b o (k1 b o e);have CO:xE B Z fd.scope.names s.heap []:=⟨fun n c m=>(nomatch m),List.Pairwise.nil⟩;have F:=bt.fresh (scope:=fd.scope) (cl:=[]) (fo:={cls:=.type "frame",data:=.dict #[]})
  (env:=newEnv fd.scope s.heap.objs.size mainGlobals (cellsFrom (s.heap.objs.size+1) fd.scope.names []) (fd.qualname++".<locals>.") (some a) c none builtinsNs) I ⟨_,rfl⟩ CO (fun zz zz=>trivial) rfl rfl rfl hk rfl rfl
 refine jm (s:={s with heap:=_}) kF (fun p hp=>si p hp) (I.keeps k) F ?_
 intro bf tk F1 P1;refine⟨P1.inv.noLimit,kla_codeExpr ?_⟩;refine wpAny_mono (h _ rfl _ (hA.deeper _) B Z _ P1.inv F1) ?_ fun zz zz x=>x.elim;rintro v' s' ⟨v,ar,B',aH,⟨hc,q⟩,P',r'⟩;have P:=P1.trans (P'.wide F1);have len:Z.length=O.length:=I.len;have out:=aG.outside (s:=s) I.ei.1 k .heap P (fun a' m=>by
  rcases List.mem_cons.mp m with e|e
  ·rw[e];exact cx _
  ·refine aW (List.mem_filterMap.mp e) ?_;intro x hx e
   have e':(cellsFrom (s.heap.objs.size+1) fd.scope.names []).lookup (G.nm x)=some a':=e;rw[eN _ _ _ Le]at e';cases e')
 rw[len]at out;exact⟨v,_,B',Z,q,out,r'.clean hc Z⟩
theorem uR(k:Nat)(xs:List Int):dN (k+2) (.list (xs.map .int)) (.list (xs.map .int))=some true:=by
 have z:∀ (xs:List Int),gv (List.zipWith (dN (k+1)) (xs.map .int) (xs.map .int))=some true:=by
  intro xs
  induction xs with
  |nil=>rfl
  |cons x xs ih=>
   rw[List.map_cons,List.zipWith_cons_cons,pU];generalize List.zipWith (dN (k+1)) (xs.map V.int) (xs.map V.int)=l at *;simp[gv,ih]
 unfold dN;simp only[List.length_map,if_true];exact z xs
theorem Jg(p:List Int×Int):dN 49 (bT p) (bT p)=some true:=by
 show(if[V.list (p.1.map .int),V.int p.2].length=[V.list (p.1.map .int),V.int p.2].length then gv (List.zipWith (dN 48) [V.list (p.1.map .int),V.int p.2] [V.list (p.1.map .int),V.int p.2]) else none)=some true
 rw[if_pos rfl,List.zipWith_cons_cons,List.zipWith_cons_cons,List.zipWith_nil_left,uR 46,pU];simp[gv]
theorem Fd(ps:List (List Int×Int)):dN 50 (.list (ps.map bT)) (.list (ps.map bT))=some true:=by
 unfold dN;simp only[if_true]
 induction ps with
 |nil=>rfl
 |cons p ps ih=>
  rw[List.map_cons,List.zipWith_cons_cons,Jg];generalize List.zipWith (dN 49) (ps.map bT) (ps.map bT)=l at *;simp[gv,ih]
theorem zZ(p:List Int×Int):Cl (bT p):=.tuple fun y hy=>by
 simp only[List.mem_cons,List.not_mem_nil,or_false]at hy;rcases hy with rfl|rfl
 ·exact jG _
 ·exact .int
noncomputable def z4:E:=.tup (.cons (.sub (.var 99) (.int 0)) (.cons (.neg (.sub (.var 99) (.int 1))) .nil))
noncomputable def rQ:Expr→List Arg×Expr×Scope×Pos
 |.Lambda a b s p=>(a.args,b,s,p)
 |_=>([],default,default,default)
noncomputable abbrev Jh(p:Pos):Arguments:=⟨[],[⟨aI 99,none,p⟩],none,[],[],none,[]⟩
structure Ji(y:Expr)(sc:Scope):Prop where
 e:bP aI z4 sc y=true
 co:sc.isCoroutine=false
 ge:sc.isGenerator=false
 k:sc.kind=.function
 loc:sc.names.all (fun p=>p.2 == .local)=true
 lk:sc.names.lookup (aI 99)=some .local
theorem Jj(hG:bx G){n:Nat}{A:Around}(hA:bY (n+1) A){B:ay}{Z:List Addr}{O:Mu}{s:Shared}{f x:Value}{q:Str}{pa:Pos}{y:Expr}{sc:Scope}(h:Ji y sc){p:List Int×Int}
  (I:Inv G B Z O s.heap)(rf:VR B Z (.fn (Jf q (Jh pa) (bH aI z4 y) sc)) f)(rx:VR B Z (bT p) x):wpAny (model G.prog G.w) A (call f [x]) (PV G B Z s fun u ar=>u=bT (p.1,-p.2)∧ar=O) bM s:=by
 refine Fc hA (own:=[99]) (ps:=[(99,bT p)]) I rf (.cons rx .nil) rfl rfl rfl rfl h.co h.ge h.k (fun q hq=>?_) (fun c ct d pm=>?_) (fun q hq=>?_) (fun env hs=>?_)
 ·rw[eq_of_beq (List.all_eq_true.mp h.loc q hq)]
  simp
 ·refine⟨[(aI 99,x)],.of_eq (by kd_p),?_⟩
  rw[←hG.nm];exact .cons rx .nil
 ·cases List.mem_singleton.mp hq
  exact⟨by simp,.inl (by rw[hG.nm];exact h.lk)⟩
 ·refine dE hG.nm hG.gl z4 h.e hs ?_
  have g:get (bc [] [(99,bT p)]) 99=some (.tuple [.list (p.1.map .int),.int p.2]):=rfl;generalize bc [] [(99,bT p)]=U at g;unfold z4;k_upd;refine jw (v:=.list (p.1.map .int)) rfl (by decide) (.of (by simp)) ?_
  k_upd;refine jw (v:=.int p.2) rfl (by decide) (.of (by simp)) ?_
  k_upd;refine⟨.of (by simp),zZ (p.1,-p.2),rfl,by rw[List.take_length]⟩
noncomputable abbrev Fe(y:Expr):Keyword:=(pt y).2.2.2.2
noncomputable abbrev WM(z:Expr):Expr:=.Lambda (Jh (match (rQ z).1 with|a::_=>a.pos|[]=>z.pos)) (bH aI z4 (rQ z).2.1) (rQ z).2.2.1 (rQ z).2.2.2
noncomputable abbrev uS(y:Expr):Expr:=.Compare (bH aI (.var 105) (bj 0 y)) [.NotEq] [.Call (bH aI (.glob 106) (bj 0 (bj 1 y))) (jy aI (.cons (.var 105) .nil) (ks (bj 1 y)).tail) [⟨some "key",WM (Fe (bj 1 y)).value,(Fe (bj 1 y)).pos⟩] (bj 1 y).pos] y.pos
structure Dr(sc0:Scope)(y:Expr):Prop where
 f:bP aI (.glob 106) sc0 (bj 0 (bj 1 y))=true
 l:Ji (rQ (Fe (bj 1 y)).value).2.1 (rQ (Fe (bj 1 y)).value).2.2.1
 ln:(rQ (Fe (bj 1 y)).value).2.2.2.line=317
 cl:(rQ (Fe (bj 1 y)).value).2.2.2.col=32
theorem Ff(hG:bx G){n:Nat}{env:Env}{U:aw}{O:Mu}{Q:Bool→Mu→Prop}{y:Expr}(hB:Dr env.scope y){c:Addr}(gk:env.code=.ref c)(jD:codeHdIn G.K c 222=true)(hq:env.qual++"<lambda>"=ug)
  {ps:List (List Int×Int)}(uT:get U 105=some (.list (ps.map bT)))(h1:1≤ps.length)(hz:ps.length<64)(hs:∀ (i:Nat) p q,ps[i]?=some p→ps[i+1]?=some q→vQ (q.1,-q.2) (p.1,-p.2)=false)
  (q:Q false O):fX G (n+5) env (isTrue (uS y) env (eval (uS y) env)) U O Q:=by
 refine tu (dE hG.nm hG.gl (.var 105) rfl rfl ?_) rfl;k_upd;refine xI rfl (eA (es:=.cons (.var 105) .nil)) rfl (dE hG.nm hG.gl (.glob 106) hB.f rfl ?_);k_upd;refine kR hG.nm hG.gl (.cons (.var 105) .nil) rfl rfl ?_;k_upd;refine CL (RM hG (P:=222) (q:=ug) (c:=c) (by rw[hB.ln,hB.cl];exact Lc) gk jD hq (fun p hp=>by rw[eq_of_beq (List.all_eq_true.mp hB.l.loc p hp)];simp) (AF ⟨[("key",.fn (Jf ug _ _ _))],rfl,rfl,?_⟩))
 refine bD.machine (fun a=>by simp) ?_
 refine BN (n:=n+1) (ps:=ps.map fun p=>(p.1,-p.2)) (by simp) (by simpa using h1) (by simpa using hz) (fun x m=>by
  refine aW (List.mem_map.mp m) ?_;intro p zz z1;subst z1;exact zZ p) (fun i p q hp hq=>?_) (fun B Z f r=>by refine VR.XY r ?_;intro zz zz zz zz zz zz zz;exact⟨_,rfl⟩) (fun i v p hv hp A hA B Z s f x I rf rx=>?_) ?_
 ·rw[List.getElem?_map]at hp hq
  refine aW (Option.map_eq_some_iff.mp hp) ?_;intro p' vL z1;subst z1;refine aW (Option.map_eq_some_iff.mp hq) ?_;intro q' hq' z1;subst z1;exact hs i p' q' vL hq'
 ·rw[List.getElem?_map]at hv hp
  refine aW (Option.map_eq_some_iff.mp hp) ?_;intro p' vL z1;subst z1;rw[vL]at hv;cases hv;exact Jj hG hA hB.l I rf rx
 ·refine Hq (Fd ps) ?_
  exact iB q
theorem BP{prog:Program}{w:World}{A:Around}{E:Value→Shared→Prop}{s:Shared}{env:Env}{x:Str}{np pos:Pos}{Q:Flow→Shared→Prop}(hh:A.handled=none)
  (hx:wpAny (model prog w) A (eval (.Name x np) env) (fun v s1=>v=.type "ZeroDivisionError"∧∀h' e,Heap.MadeExc s1.heap h' e "ZeroDivisionError" []→E (.ref e) {s1 with heap:=h'}) E s):
  wpAny (model prog w) A (exec (.Raise (some (.Name x np)) none pos) env) Q E s:=by
 have hc:=excClass_ZeroDivisionError;show wpAny (model prog w) A (do standAt pos;raiseStmt env (some (do let v ←eval (.Name x np) env;standAt pos;pure v)) none) Q E s
 unfold raiseStmt;dsimp only;refine wpAny_bind (wpAny_standAt (wpAny_bind (wpAny_bind (wpAny_mono hx (fun v s1 h1=>wpAny_bind (wpAny_standAt (wpAny_pure ?_))) fun zz zz e=>e))));obtain⟨rfl,h⟩:=h1;refine wpAny_bind (wpAny_pure ?_);dsimp only;refine wpAny_bind (wpAny_holding ?_);unfold excFromValue isExcClass;refine wpAny_bind (wpAny_bind (wpAny_pure ?_));simp only[if_true];rw[hc.base];refine wpAny_pure ?_;simp only[if_true];obtain⟨hp,g,d,tk,os⟩:=s1;refine wpAny_bind (wpAny_call_exc F.excCall_ZeroDivisionError fun h' e hn=>?_);refine aW hn.there ?_;intro t he zz;have hT:(⟨h',g,d,tk,os⟩:Shared).TypeIs (.ref e) "ZeroDivisionError":=⟨_,he,rfl⟩;refine wpAny_bind (wpAny_isInstance hT hc.base ?_);simp only[Bool.not_true,Bool.false_eq_true,if_false];refine wpAny_pure ?_;refine wpAny_bind (m:=isType (.type "ZeroDivisionError")) (wpAny_pure ?_);simp only[if_true];refine wpAny_bind (wpAny_holding ?_);unfold raisedFor;refine wpAny_bind (wpAny_typeOf hT ?_);refine wpAny_bind (call_issubclass (issubclass_self hc hc.self) ?_);dsimp only[wants];refine wpAny_bind (wpAny_truthy_bool ?_);simp only[if_true];refine wpAny_pure ?_;unfold setFlight raiseNew;refine wpAny_bind (wpAny_bind (wpAny_field (i:=1) (x:=Value.none) he rfl rfl ?_));rw[if_neg (by decide)]
 refine wpAny_pure (wpAny_bind (wpAny_handled ?_));rw[hh];first
  |exact wpAny_throw (h h' e hn)
  |exact wpAny_bind (wpAny_pure (wpAny_throw (h h' e hn)))
noncomputable def kill(o:Obj):Obj:=⟨o.cls,o.dict,.freed,o.slots⟩
theorem wV(h:Heap)(a:Addr):(h.update a kill).get? a=none:=by
 cases q:(h.update a kill).get? a with
 |none=>rfl
 |some o=>
  obtain⟨q1,q2⟩:=Heap.get?_some_iff.mp q;rw[Heap.objs_update_self]at q1;cases z:h.objs[a]? with
  |none=>rw[z]at q1;cases q1
  |some x=>
   rw[z]at q1;cases q1;cases q2
noncomputable def kM(h:Heap)(a b:Addr):Heap:=(h.update a kill).update b kill
theorem lR{h:Heap}{a b c:Addr}(h1:c≠a)(h2:c≠b):(kM h a b).get? c=h.get? c:=by
 unfold kM;rw[Heap.get?_update_other _ _ (Ne.symm h2),Heap.get?_update_other _ _ (Ne.symm h1)]
theorem z5{h:Heap}{a b:Addr}:(kM h a b).get? b=none:=wV _ _
theorem z6{h:Heap}{a b:Addr}(xG:a≠b):(kM h a b).get? a=none:=by
 unfold kM;rw[Heap.get?_update_other _ _ (Ne.symm xG)];exact wV _ _
theorem yB{h:Heap}{a b:Addr}(xG:a≠b):(kM h a b).StaysIn h:=fun c o e=>by
 by_cases h1:c=a
 ·subst h1;rw[z6 xG]at e;exact bk e
 ·by_cases h2:c=b
  ·subst h2;rw[z5]at e;exact bk e
  ·rwa [lR h1 h2]at e
noncomputable def Ds:T:=.cmp .Eq (.var 18) (.int 0)
noncomputable def Ox:Stmt→Option Expr
 |.Raise x _ _=>x
 |_=>none
noncomputable abbrev wW(K:Frag):Stmt:=(du (ba K 84).body).headD default
noncomputable abbrev Jk(K:Frag):Stmt:=(sb 0 (wW K)).headD default
theorem e84(P:Params):du (ba (KP P) 84).body=.If (my aI Ds (sk 0 (wW (KP P)))) (.Raise (some (bH aI (.glob 139) ((Ox (Jk (KP P))).getD default))) none (Jk (KP P)).pos::(sb 0 (wW (KP P))).tail) (sb 1 (wW (KP P))) (wW (KP P)).pos::(du (ba (KP P) 84).body).tail:=by kd_p
theorem WN(P:Params):mA aI Ds (ba (KP P) 84).scope (sk 0 (wW (KP P)))=true:=by kd_p
theorem WO(P:Params):bP aI (.glob 139) (ba (KP P) 84).scope ((Ox (Jk (KP P))).getD default)=true:=by kd_p
theorem Fg(hG:bx G){n:Nat}{A:Around}(hA:bY (n+1) A){env:Env}(vR:A.frames=some [env]){L:Addr}(z7:env.frame=some L)(hkL:env.scope.kind=.function){B:ay}{Z:List Addr}{O:Mu}{s:Shared}(I:Inv G B Z O s.heap)
  {m:Str→Option Value}(i9:s.heap.Ns L m)(hL:Off B Z L){a:Int}{x y:Value}(rx:VR B Z (.int a) x)(ry:VR B Z (.int 0) y){E:Value→Shared→Prop}{Q:Value→Shared→Prop}
  (hE:∀B1 s1 L2 h' e t,aG G [] B Z s B1 Z O s1→Off B1 Z L2→L≠L2→s.heap.get? L2=none→s.heap.Ns L m→s1.heap.Ns L m→Heap.FlyingW (kM s1.heap L L2) [env] e (.type "ZeroDivisionError") (.ref t) h'→h'.TupAt t []→(kM s1.heap L L2).get? t=none→s1.heap.UpToSlots h'→Off B1 Z e→Off B1 Z t→E (.ref e) {s1 with heap:=h'}):
  wpAny (model G.prog G.w) A (call (.ref 84) [x,y]) Q E s:=by
 obtain⟨P,hP⟩:=hG.K;have hf:vz (KP P) 84=true:=by kd_p
 have hp:([gH,mF]).all (jT aI (ba (KP P) 84).scope eU)=true:=by kd_p
 have WQ:=WN P;have WR:=WO P;have Oy:=e84 P;have zO:∀S,peek (KP P) S (bindArgs (ba (KP P) 84) ⟨[x,y],[]⟩)=some [(aI gH,x),(aI mF,y)]:=fun S=>by kd_p
 unfold vz at hf;split at hf
 ·rename_i oc od fd osl e
  have lE:ba (KP P) 84=fd:=by unfold ba;rw[e]
  rw[lE]at hp zO WQ WR Oy;simp only[Bool.and_eq_true,Bool.not_eq_true']at hf;obtain⟨⟨⟨⟨⟨⟨⟨f1,f2⟩,f3⟩,f4⟩,f5⟩,f6⟩,f7⟩,f8⟩:=hf;have fq:fd.body=.stmts (du fd.body):=by
   cases q:fd.body<;>first|rfl|(rw[q]at f1;cases f1)
  have hk:fd.scope.kind=.function:=eq_of_beq f8;have zt:fd.closure=[]:=List.isEmpty_iff.mp f3;have hg:fd.globals=mainGlobals:=eq_of_beq f4;have hb:fd.builtins=builtinsNs:=eq_of_beq f5;have kF:fZ (G:=G) B Z [(aI gH,x),(aI mF,y)] [(gH,.int a),(mF,.int 0)]:=by
   rw[←hG.nm,←hG.nm];exact .cons rx (.cons ry .nil)
  have X:=I.jS;rw[hP]at X;have qx:=kp_binds X zO;refine wpAny_call (codeAny_call_function hA.room (I.jS 84 _ (by rw[hP];exact e)) rfl f6 f7 fq (codeRec_of I.jS (by rw[hP];exact f2)) (qx _ _ _ _ ?_))
  rw[zt,hg,hb];refine dp ?_;have k1:=bN s.heap {cls:=.type "frame",data:=.dict #[]};have k2:=pushCells_keeps fd.scope.names (s.heap.push {cls:=.type "frame",data:=.dict #[]});have k:∀b o,s.heap.get? b=some o→(pushCells (s.heap.push {cls:=.type "frame",data:=.dict #[]}) fd.scope.names).get? b=some o:=fun b o e=>k2 b o (k1 b o e);have F:=bt.fresh (scope:=fd.scope) (cl:=[]) (fo:={cls:=.type "frame",data:=.dict #[]})
   (env:=newEnv fd.scope s.heap.objs.size mainGlobals (cellsFrom (s.heap.objs.size+1) fd.scope.names []) (fd.qualname++".<locals>.") (some 84) fd.code none builtinsNs) I ⟨_,rfl⟩ ⟨(fun _ _ m=>nomatch m),.nil⟩ (fun _ _=>trivial) rfl rfl rfl hk rfl rfl
  have si:∀p∈[(gH,V.int a),(mF,V.int 0)],nR G (newEnv fd.scope s.heap.objs.size mainGlobals (cellsFrom (s.heap.objs.size+1) fd.scope.names []) (fd.qualname++".<locals>.") (some 84) fd.code none builtinsNs) eU p.1:=fun p hq=>by
   have hm:p.1∈[gH,mF]:=by
    simp only[List.mem_cons,List.not_mem_nil,or_false]at hq ⊢;rcases hq with rfl|rfl<;>simp
   have:=List.all_eq_true.mp hp p.1 hm;exact fA (G:=G) (env:=zc fd.scope) rfl hG.nm this
  refine jm (s:={s with heap:=_}) kF si (I.keeps k) F ?_
  intro h1 tk F1 P1;refine⟨P1.inv.noLimit,codeAny_func ?_⟩;rw[Oy];have zR:(newEnv fd.scope s.heap.objs.size mainGlobals (cellsFrom (s.heap.objs.size+1) fd.scope.names []) (fd.qualname++".<locals>.") (some 84) fd.code none builtinsNs).locals=s.heap.objs.size:=rfl;have Oz:(newEnv fd.scope s.heap.objs.size mainGlobals (cellsFrom (s.heap.objs.size+1) fd.scope.names []) (fd.qualname++".<locals>.") (some 84) fd.code none builtinsNs).frame=some s.heap.objs.size:=rfl;have dM:(newEnv fd.scope s.heap.objs.size mainGlobals (cellsFrom (s.heap.objs.size+1) fd.scope.names []) (fd.qualname++".<locals>.") (some 84) fd.code none builtinsNs).scope=fd.scope:=rfl;have hce:(newEnv fd.scope s.heap.objs.size mainGlobals (cellsFrom (s.heap.objs.size+1) fd.scope.names []) (fd.qualname++".<locals>.") (some 84) fd.code none builtinsNs).cells=cellsFrom (s.heap.objs.size+1) fd.scope.names []:=rfl;generalize newEnv fd.scope s.heap.objs.size mainGlobals (cellsFrom (s.heap.objs.size+1) fd.scope.names []) (fd.qualname++".<locals>.") (some 84) fd.code none builtinsNs=z8 at *;have vJ:=hA.deeper z8;refine wpAny_execs_cons (wpAny_If (wpAny_mono (nA hG.nm hG.gl (n:=n) (Q:=fun b ar=>b=true∧ar=O) (U:=bc [] [(gH,V.int a),(mF,V.int 0)]) Ds WQ dM ?_ _ vJ B Z _ P1.inv F1) ?_ fun _ _ x=>x.elim))
  ·have g18:get (bc [] [(gH,V.int a),(mF,V.int 0)]) 18=some (.int 0):=rfl
   generalize bc [] [(gH,V.int a),(mF,V.int 0)]=U at g18;unfold Ds;k_upd;exact⟨rfl,rfl⟩
  ·rintro b s2 ⟨ar,B2,aV,⟨rfl,iy⟩,P2⟩
   have iy:=iy.symm;subst iy;have F2:=F1.same P2;have P3:=P1.trans (P2.wide F1);simp only[if_true];refine wpAny_execs_cons (BP (show(A.deeper z8).handled=none from hA.handled) (wpAny_mono (dE hG.nm hG.gl (n:=n) (Q:=fun v ar=>v=.raw (.type "ZeroDivisionError")∧ar=O) (U:=bc [] [(gH,V.int a),(mF,V.int 0)]) (.glob 139) WR dM ?_ _ vJ B2 aV _ P2.inv F2) ?_ fun _ _ x=>x.elim))
   ·k_upd
    exact⟨rfl,rfl⟩
   ·rintro v s3 ⟨u,cT,B3,dI,⟨rfl,iy⟩,P4,r4⟩
    have iy:=iy.symm;subst iy;refine VR.jY r4 ?_;refine⟨rfl,fun h' e' hm=>?_⟩;have F3:=F2.same P4;have P5:=P3.trans (P4.wide F2);have Jd:Z=dI:=(take_all P5.pre (by rw[I.len,P5.inv.len])).symm
    subst Jd;have hW:∀a'∈fa G z8 eU,s.heap.get? a'=none:=fun a' mm=>by
     rcases eu mm with e|⟨n',ew⟩
     ·rw[e,zR];exact cx _
     ·rw[hce]at ew
      have m':(n',a')∈cellsFrom (s.heap.objs.size+1) fd.scope.names []:=mem_of_lookup ew;have ok:=cJ fd.scope.names (s.heap.push {cls:=.type "frame",data:=.dict #[]}) (s.heap.objs.size+1) [] [] (fun _ _ m=>nomatch m) (fun _ _ m=>nomatch m) .nil (by rw[Heap.size_push];exact Nat.le_refl _)
      rw[Heap.size_push]at ok;rcases ok.1 n' a' m' with z|z
      ·cases z
      ·exact fz (by omega)
    have P6:=aG.outside (s:=s) I.ei.1 k .heap P5 hW;have Dq:List.take Z.length O=O:=by rw[I.len];exact List.take_length ..
    rw[Dq]at P6;have LU:Off B3 Z s.heap.objs.size:=by rw[←zR];exact F3.cU
    have e8:L≠s.heap.objs.size:=Nat.ne_of_lt i9.lt;refine aW F3.ns ?_;intro mL RN _;rw[zR]at RN;have Jl:s3.heap.Ns L m:=by
     refine oq i9 ?_;clear i9;intro o es ep ho r;exact⟨o,es,ep,P6.kept ho (by simp) hL.2.1 hL.2.2,r⟩
    have yC:∀sc:Scope,sc.kind=.function→sc.kind≠.module:=fun sc h=>by rw[h];decide
    refine wpAny_leaves_madeW (base:=kM s3.heap L s.heap.objs.size) (h:=s3.heap) (env:=z8) (outer:=[env]) (L:=s.heap.objs.size) ?_ Oz (yB e8) ?_ hm.of fun ky t q1 q2 q3 q4=>?_
    ·show A.frames.map (z8 :: ·)=_
     rw[vR];rfl
    ·refine Heap.FunFrames.cons (by rw[dM];exact yC _ hk) Oz RN z5 ?_
     exact Heap.FunFrames.cons (yC _ hkL) z7 Jl (z6 e8) trivial
    ·have up:=(Heap.UpToSlots.of_keeps hm.keeps).trans q4
     refine oo q2 ?_;clear q2;intro ot kt et _ dt;have tL:t≠L:=fun z=>by
      refine pb (up.ns Jl) ?_;intro o _ _ ho hd _;rw[z,ho]at et;cases Option.some.inj et;rw[hd]at dt;cases dt
     have t2:t≠s.heap.objs.size:=fun z=>by
      refine pb (up.ns RN) ?_;intro o _ _ ho hd _;rw[z,ho]at et;cases Option.some.inj et;rw[hd]at dt;cases dt
     have ht3:s3.heap.get? t=none:=by rw[←lR tL t2];exact q3
     have WS:=P6.inv.off ht3;have q2:ky.TupAt t []:=⟨ot,kt,et,by assumption,dt⟩
     exact hE B3 s3 s.heap.objs.size ky e' t P6 LU e8 (cx _) i9 Jl q1 q2 q3 ((Heap.UpToSlots.of_keeps hm.keeps).trans q4) (P6.inv.off hm.new) WS
 ·exact iO hf
def i7(G:dk)(A:Around)(env:Env)(t:Sem Value)(U:aw)(O:Mu)(Q:V→Mu→Prop):Prop:=∀B Z s,Inv G B Z O s.heap→bt G env B Z U s.heap→wpAny (model G.prog G.w) A t (PV G B Z s Q) bM s
section
variable{A:Around}{env:Env}{U:aw}{O:Mu}{Q:V→Mu→Prop}
theorem Jm{x:Nat}{v:V}{pos:Pos}(h:get U x=some v)(q:Q v O):i7 G A env (eval (.Name (G.nm x) pos) env) U O Q:=by
 intro B Z s I F;refine wpAny_Name ?_ (G.odd x).1;rcases F.cl x v h with hl|⟨hk,c,u,hc,eV,r⟩
 ·refine aW F.ns ?_;intro m hn hm
  refine aW (hm x v h hl) ?_;intro u hu r;exact wpAny_loadName_local F.kind hl hn hu (PV.bQ I r q)
 ·rcases hk with hk|hk
  ·exact wpAny_loadName_cell F.kind hk hc eV (PV.bQ I r q)
  ·exact wpAny_loadName_free F.kind hk hc eV (PV.bQ I r q) (G.odd x).2
theorem LV{x:Nat}{v:Value}{pos:Pos}(hk:env.kindOf (G.nm x)=some .globalImplicit)(h:G.gl x=some v)(q:Q (.raw v) O):i7 G A env (eval (.Name (G.nm x) pos) env) U O Q:=by
 intro B Z s I F;exact Name_function_global F.kind hk (G.load h F.gl F.bi (fun a o e=>I.holds a o (I.base a o e)) (PV.bQ I .raw q)) (G.odd x).1
theorem Jn{i:Int}{k:Nat}{pos:Pos}(q:Q (.int i) O):i7 G A env (eval (.Constant (.int i) k pos) env) U O Q:=
 fun B Z s I F=>wpAny_Constant_int (PV.here I .int q)
theorem RO{x:Str}{k:Nat}{pos:Pos}(q:Q (.str x) O):i7 G A env (eval (.Constant (.str x) k pos) env) U O Q:=
 fun B Z s I F=>Calls.Constant_str (PV.here I .str q)
theorem RQ{l r:Expr}{pos:Pos}{a b:Int}(hm:IntMulOk a b)(h:i7 G A env (eval l env) U O fun v aA=>v=.int a∧aA=O)(h':i7 G A env (eval r env) U O fun v aA=>v=.int b∧aA=O)(q:Q (.int (a*b)) O):i7 G A env (eval (.BinOp l .Mult r pos) env) U O Q:=by
 intro B Z s I F;refine wpAny_BinOp (wpAny_mono (h B Z s I F) ?_ fun zz zz x=>x);rintro x s1 ⟨v,aA,B1,aE,⟨rfl,rfl⟩,P1,r1⟩;have F1:=F.same P1;refine wpAny_mono (h' B1 aE s1 P1.inv F1) ?_ fun zz zz x=>x;rintro y s2 ⟨u,aZ,B2,aV,⟨rfl,rfl⟩,P2,r2⟩;refine VR.bC r1 ?_;intro zz;refine VR.bC r2 ?_;intro zz;exact mul_int (PV.after P1 (PV.after P2 (PV.here P2.inv .int q))) hm
theorem WU{l r:Expr}{pos:Pos}{a b:Int}(hm:behindInMarks .Eq r=false)(h:i7 G A env (eval l env) U O fun v aA=>v=.int a∧aA=O)(h':i7 G A env (eval r env) U O fun v aA=>v=.int b∧aA=O)(q:Q (.bool (a==b)) O):i7 G A env (eval (.Compare l [.Eq] [r] pos) env) U O Q:=by
 intro B Z s I F;refine wpAny_Compare1 (wpAny_mono (h B Z s I F) ?_ fun zz zz x=>x) hm;rintro x s1 ⟨v,aA,B1,aE,⟨rfl,rfl⟩,P1,r1⟩;have F1:=F.same P1;refine wpAny_mono (h' B1 aE s1 P1.inv F1) ?_ fun zz zz x=>x;rintro y s2 ⟨u,aZ,B2,aV,⟨rfl,rfl⟩,P2,r2⟩;refine VR.bC r1 ?_;intro zz;refine VR.bC r2 ?_;intro zz;exact eq_int (PV.after P1 (PV.after P2 (PV.bQ P2.inv .bool q)))
theorem Jo{value slice:Expr}{pos:Pos}{v:V}{i:Int}(h:i7 G A env (eval value env) U O fun u aA=>u=v∧aA=O)(h':i7 G A env (eval slice env) U O fun u aA=>u=.int i∧aA=O)
  (hs:∀o i,subscripted slice false o i=operate [o,i] (getItem o i))
  (hg:∀B Z s x y,Inv G B Z O s.heap→VR B Z v x→VR B Z (.int i) y→∃T id,s.TypeIs x T∧typeLookup (.type T) "__getitem__"=pure (some (.builtin id))∧wpAny (model G.prog G.w) A (getItem x y) (PV G B Z s Q) bM s):i7 G A env (eval (.Subscript value slice pos) env) U O Q:=by
 intro B Z s I F;rw[eval_Subscript];refine wpAny_bind (wpAny_mono (h B Z s I F) ?_ fun zz zz x=>x);rintro x s1 ⟨v,aA,B1,aE,⟨rfl,rfl⟩,P1,r1⟩;have F1:=F.same P1;refine wpAny_bind (wpAny_holding (wpAny_mono (h' B1 aE s1 P1.inv F1) ?_ fun zz zz x=>x));rintro y s2 ⟨u,aZ,B2,aV,⟨rfl,rfl⟩,P2,r2⟩;refine wpAny_bind (wpAny_standAt ?_);refine oo (hg B2 aV s2 x y P2.inv (r1.mono P2.le P2.pre) r2) ?_;intro T id hT hl hg;exact wpAny_mono (tJ hT hl (hs _ _) (fun e=>by cases e;exact hg) rfl) (fun z s3 h3=>PV.after P1 (PV.after P2 h3)) fun zz zz x=>x
theorem LX{xs:List V}{i:Nat}{v:V}(hx:xs[i]?=some v)(q:Q v O)(hz:xs.length<1000):∀B Z s x y,Inv G B Z O s.heap→VR B Z (.list xs) x→VR B Z (.int i) y→∃T id,s.TypeIs x T∧typeLookup (.type T) "__getitem__"=pure (some (.builtin id))∧wpAny (model G.prog G.w) A (getItem x y) (PV G B Z s Q) bM s:=by
 intro B Z s x y I hv hi;refine VR.bC hi ?_;intro _;rename_i t;cases hv with
 |list e l h9=>
  rename_i a vs k;have hl:s.heap.IsList a vs.toArray:=⟨_,I.holds _ _ e,rfl,k,rfl⟩;refine aW (aB.get ⟨l,h9⟩ hx) ?_;intro u hu r;have bA:=(List.getElem?_eq_some_iff.mp hx).1;refine⟨"list",_,hl.typeIs,list_getitem_lookup,?_⟩;have Bh:(2:Nat) ^ 62=4611686018427387904:=by decide
  exact wpAny_getItem_list hl (by exact Int.natCast_nonneg _) (by exact ag 3 0 (aa (ak af bw) (aa (ax af ab) (aa (ak au af) (aM (az au) (zk (2 ^ 63)))))) (by kd_p) hz l bA) (by simpa using hu) (PV.bQ I r q)
theorem Jp{xs:List V}{i:Nat}{v:V}(hx:xs[i]?=some v)(q:Q v O)(hz:xs.length<1000):∀B Z s x y,Inv G B Z O s.heap→VR B Z (.tuple xs) x→VR B Z (.int i) y→∃T id,s.TypeIs x T∧typeLookup (.type T) "__getitem__"=pure (some (.builtin id))∧wpAny (model G.prog G.w) A (getItem x y) (PV G B Z s Q) bM s:=by
 intro B Z s x y I hv hi;refine VR.bC hi ?_;intro _;rename_i t;cases hv with
 |tuple e l h9=>
  rename_i a vs k;have hl:IsTup s.heap a vs.toArray:=⟨_,I.holds _ _ e,rfl,k,rfl⟩;refine aW (aB.get ⟨l,h9⟩ hx) ?_;intro u hu r;have bA:=(List.getElem?_eq_some_iff.mp hx).1;have sz:vs.toArray.size=xs.length:=by simp[l]
  refine⟨"tuple",_,hl.typeIs,slot_tuple_getitem.lookup,?_⟩;have Bh:(2:Nat) ^ 62=4611686018427387904:=by decide
  exact PyProof.Rows.getItem_tuple hl (by exact ag 1 0 (ai (cH (zk (2 ^ 63))) (az ab)) (by kd_p)) (by exact ag 4 0 (aa (ak au bw) (aa (ax au af) (aa (ak aO au) (aa (ax ab au) (aM (az aO) (zk (2 ^ 63))))))) (by kd_p) hz l bA sz) (j:=i) (by
   unfold seqIndex?;rw[sz];simp only[];rw[if_neg (by exact xt:¬ (i:Int)<0)]
   rw[if_pos (by simp;omega)]
   rfl) (by simpa using hu) (PV.bQ I r q)
end
noncomputable abbrev o5(i:Nat):E:=.sub (.sub (.var 100) (.int (i:Int))) (.int ((0:Nat):Int))
noncomputable abbrev OA:E:=.v9 (.cmp .Eq (.call (.glob 138) (.cons (.var 132) .nil)) (.str "")) (.cmp .Eq (.bin .Mult (o5 0) (o5 1)) (o5 2))
section
variable{A:Around}{env:Env}{U:aw}{O:Mu}{Q:V→Mu→Prop}
theorem yD(hG:bx G){i:Nat}{y:Expr}{ps xs:List V}{v:Int}(hp:get U 100=some (.list ps))(hi:ps[i]?=some (.tuple xs))(h0:xs[0]?=some (.int v))(hz:ps.length<1000)(hz2:xs.length<1000):
  i7 G A env (eval (bH aI (o5 i) y) env) U O fun u aA=>u=.int v∧aA=O:=by
 show i7 G A env (eval (.Subscript (.Subscript (.Name (aI 100) _) (.Constant (.int (i:Int)) _ _) _) (.Constant (.int ((0:Nat):Int)) _ _) _) env) U O _;rw[←hG.nm];exact Jo (Jo (Jm hp ⟨rfl,rfl⟩) (Jn ⟨rfl,rfl⟩) (fun zz zz=>rfl) (LX hi ⟨rfl,rfl⟩ hz)) (Jn ⟨rfl,rfl⟩) (fun zz zz=>rfl) (Jp h0 ⟨rfl,rfl⟩ hz2)
theorem RR(hG:bx G){y:Expr}(BQ:env.kindOf (G.nm 138)=some .globalImplicit)(hu:A.units+10<cLine){ps z9 BR BS:List V}{a b c:Int}{ex t0:Addr}(hp:get U 100=some (.list ps))(h0:ps[0]?=some (.tuple z9))(h1:ps[1]?=some (.tuple BR))(h2:ps[2]?=some (.tuple BS))
  (g0:z9[0]?=some (.int a))(g1:BR[0]?=some (.int b))(g2:BS[0]?=some (.int c))(hz:ps.length<1000)(z0:z9.length<1000)(z1:BR.length<1000)(z2:BS.length<1000)(hm:IntMulOk a b)
  (hf:get U 132=some (.raw (.ref ex))){B:ay}{Z:List Addr}{s:Shared}(I:Inv G B Z O s.heap)(F:bt G env B Z U s.heap)(hx:s.heap.ExcAt ex "ZeroDivisionError" (.ref t0))(ht:s.heap.TupAt t0 [])(hex:Off B Z ex)(WV:Off B Z t0)
  (q:Q (.bool (a*b==c)) O):wpAny (model G.prog G.w) A (eval (bH aI OA y) env) (PV G B Z s Q) bM s:=by
 have RS:∀ {B':ay} {aH:List Addr} {ar:Mu} {s s':Shared},aG G [] B Z s B' aH ar s'→s.heap.ExcAt ex "ZeroDivisionError" (.ref t0)→s.heap.TupAt t0 []→s'.heap.ExcAt ex "ZeroDivisionError" (.ref t0)∧s'.heap.TupAt t0 []:=by
  intro B' aH ar s s' P ⟨o,vs,e1,r1⟩ ⟨o2,k2,e2,r2⟩;exact⟨⟨o,vs,P.kept e1 (by simp) hex.2.1 hex.2.2,r1⟩,⟨o2,k2,P.kept e2 (by simp) WV.2.1 WV.2.2,r2⟩⟩
 have BK:∀y,i7 G A env (eval (bH aI (.cmp .Eq (.bin .Mult (o5 0) (o5 1)) (o5 2)) y) env) U O Q:=fun y=>
  WU rfl (RQ hm (yD hG hp h0 g0 hz z0) (yD hG hp h1 g1 hz z1) ⟨rfl,rfl⟩) (yD hG hp h2 g2 hz z2) q
 refine wpAny_And2 (wpAny_mono (Q:=fun v s'=>∃B' aH,v=.bool true∧aG G [] B Z s B' aH O s') (wpAny_Compare1 (wpAny_mono (Q:=fun v s'=>∃B' aH tk,v=.str Str.empty tk∧aG G [] B Z s B' aH O s') ?_ ?_ fun zz zz x=>x) rfl) ?_ fun zz zz x=>x)
 ·show wpAny _ _ (do callWith _ (←eval (.Name (aI 138) _) env) [] (backTo _ (starEach [.Name (aI 132) _] env)) (backToKw _ (keywordEach [] env))) _ _ _
  rw[←hG.nm,←hG.nm];refine wpAny_bind (wpAny_mono (LV (A:=A) (O:=O) (U:=U) (Q:=fun v ar=>v=.raw (.type "str")∧ar=O) BQ (hG.gl 138 (.type "str") rfl) ⟨rfl,rfl⟩ B Z s I F) ?_ fun zz zz x=>x);rintro v s1 ⟨u,aA,B1,aE,⟨rfl,rfl⟩,P1,WW⟩;refine VR.jY WW ?_;have F1:=F.same P1;refine callWith_of (P:=fun zz=>True) rfl (fun zz zz=>⟨.machine,.inr (.inl rfl),Looks.of_pure rfl⟩) (iE (kws:=[]) rfl rfl ?_);refine wpAny_items_cons (wpAny_mono (Jm (A:=A) (Q:=fun v ar=>v=.raw (.ref ex)∧ar=aA) hf ⟨rfl,rfl⟩ B1 aE s1 P1.inv F1) ?_ fun zz zz x=>x) rfl;rintro v s2 ⟨u,aZ,B2,aV,⟨rfl,rfl⟩,P2,pM⟩;refine VR.jY pM ?_;have P:=P1.trans P2;obtain⟨kx,kt⟩:=RS P hx ht;refine wpAny_items_nil (kwAll_nil ⟨trivial,?_⟩);refine PySem.P.str_of_exc_none PySem.F.excStr_ZeroDivisionError (by exact ag 2 0 (aa (ak (aj af fb) ab) (ak (aj af gU) ab)) (by kd_p) hu) kx kt ?_
  exact⟨B2,aV,s2.toks,rfl,P.trans P2.inv.tq⟩
 ·rintro v s1 ⟨B1,aE,tk,rfl,P1⟩
  have F1:=F.same P1;refine wpAny_mono (RO (A:=A) (env:=env) (Q:=fun v ar=>v=.str Str.empty∧ar=O) ⟨rfl,rfl⟩ B1 aE s1 P1.inv F1) ?_ fun zz zz x=>x;rintro v s2 ⟨u,aZ,B2,aV,⟨rfl,rfl⟩,P2,pM⟩;refine VR.fQ pM ?_;intro zz;exact eq_str ⟨B2,aV,rfl,P1.trans P2⟩
 ·rintro v s1 ⟨B1,aE,rfl,P1⟩
  refine wpAny_truthy_bool ?_;simp only[if_true];exact wpAny_mono (BK _ B1 aE s1 P1.inv (F.same P1)) (fun zz zz h=>PV.after P1 h) fun zz zz x=>x
end
theorem Inv.Aa{B:ay}{Z:List Addr}{O:Mu}{h h':Heap}{L L2:Addr}(I:Inv G B Z O h)(o:Off B Z L)(o2:Off B Z L2)(k:∀b x,b≠L→b≠L2→h.get? b=some x→h'.get? b=some x):Inv G B Z O h':=by
 refine⟨I.base,fun b x hb=>k b x (fun q=>by subst q;rw[o.1]at hb;exact bk hb) (fun q=>by subst q;rw[o2.1]at hb;exact bk hb) (I.holds b x hb),I.len,fun j b zs h1 h2=>?_,fun b hb=>?_,I.nodup,I.cg,
  G.hT.mono I.tab (.refl _) fun b hb x g=>k b x (fun q=>o.2.2 (q▸hb)) (fun q=>o2.2.2 (q▸hb)) g,I.ei⟩
 ·refine eh (I.ml j b zs h1 h2) ?_;intro e us m g r
  exact⟨e,us,m,k b _ (fun q=>o.2.1 (q▸List.mem_of_getElem? h1)) (fun q=>o2.2.1 (q▸List.mem_of_getElem? h1)) g,r⟩
 ·obtain⟨x,e⟩:=I.dm b hb
  exact⟨x,k b x (fun q=>o.2.1 (q▸hb)) (fun q=>o2.2.1 (q▸hb)) e⟩
theorem bt.Aa{env:Env}{B:ay}{Z:List Addr}{U:aw}{h h':Heap}{L2:Addr}(F:bt G env B Z U h)(hC:∀n c,(n,c)∈env.cells→c≠L2)(i9:∀m,h.Ns env.locals m→h'.Ns env.locals m)(k:∀b o,b≠env.locals→b≠L2→h.get? b=some o→h'.get? b=some o):bt G env B Z U h':=by
 refine aW F.ns ?_;intro m oX hm;refine⟨F.kind,F.gl,F.bi,⟨m,i9 m oX,hm⟩,fun x v hx=>?_,F.cU,fun n c hc=>?_,F.inj,F.all⟩
 ·rcases F.cl x v hx with h|⟨hk,c,u,hc,⟨o',eo,ed⟩,h2⟩
  ·exact .inl h
  ·have:=F.dG _ c (aY hc)
   exact .inr ⟨hk,c,u,hc,⟨o',k _ _ this.2.2.2.1 (hC _ c (aY hc)) eo,ed⟩,h2⟩
 ·refine cw (F.dG n c hc) ?_;intro a1 a2 a3 a4 v o' eo ed
  exact⟨a1,a2,a3,a4,v,o',k _ _ a4 (hC n c hc) eo,ed⟩
noncomputable abbrev WX:E:=.call (.glob 37) iu
noncomputable abbrev OB(c z e:Expr)(ep rp hp tp:Pos):Stmt:=.Try [.Expr (bH aI WX c) ep] [.ExceptHandler (some (bH aI (.glob 139) z)) (some (aI 132)) [.Return (some (bH aI OA e)) rp] hp] [] [] tp
structure Jq(sc:Scope)(c z:Expr):Prop where
 f:bP aI (.glob 37) sc (bj 0 c)=true
 as:iS aI iu sc (ks c).tail=true
 z:bP aI (.glob 139) sc z=true
 WY:sc.names.lookup (aI 132)=some .local
 WZ:sc.names.lookup (aI 138)=some .globalImplicit
 W3:sc.names.lookup (aI 139)=some .globalImplicit
theorem LY(hG:bx G){n:Nat}{A:Around}(hA:bY (n+2) A){env:Env}(vR:A.frames=some [env])(z7:env.frame=some env.locals){own:List Nat}(Jr:132∈own){c' z' e':Expr}{ep rp vL tp:Pos}(hB:Jq env.scope c' z'){U:aw}{O:Mu}{Q:Fl→aw→Mu→Prop}
  {ps z9 BR BS:List V}{a b c fi mi:Int}(hp:get U 100=some (.list ps))(h0:ps[0]?=some (.tuple z9))(h1:ps[1]?=some (.tuple BR))(h2:ps[2]?=some (.tuple BS))
  (g0:z9[0]?=some (.int a))(g1:BR[0]?=some (.int b))(g2:BS[0]?=some (.int c))(hz:ps.length<1000)(z0:z9.length<1000)(z1:BR.length<1000)(z2:BS.length<1000)(hm:IntMulOk a b)
  (LZ:get U 63=some (.int fi))(L0:get U 130=some (.int mi))(L3:Sz 10 fi)(RT:Sz 10 mi)(halt:cZ fi mi fi 0 0 0=0)
  (q:Q (.ret (.bool (a*b==c))) [] O){B:ay}{Z:List Addr}{s:Shared}(I:Inv G B Z O s.heap)(F:bt G env B Z U s.heap):
  wpAny (model G.prog G.w) A (exec (OB c' z' e' ep rp vL tp) env) (PS G env own B Z s Q) bM s:=by
 have RU:env.kindOf (G.nm 139)=some .globalImplicit:=by
  rw[hG.nm];exact hB.W3
 have BQ:env.kindOf (G.nm 138)=some .globalImplicit:=by
  rw[hG.nm];exact hB.WZ
 have Js:env.kindOf (aI 132)=some .local:=hB.WY;have hint:interactive env=false:=by unfold interactive;rw[F.kind];rfl
 refine wpAny_Try_except (wpAny_execs_cons (wpAny_Expr_any ?_ hint (dq rfl _ _ _)));show wpAny _ _ (do callWith _ (←eval (bH aI (.glob 37) (bj 0 c')) env) [] (backTo _ (starEach (jy aI iu (ks c').tail) env)) (backToKw _ (keywordEach [] env))) _ _ _
 refine wpAny_bind (wpAny_mono (dE hG.nm hG.gl (n:=n+2) (U:=U) (O:=O) (Q:=fun v ar=>v=.raw (.ref 84)∧ar=O) (.glob 37) hB.f rfl ?_ A hA B Z s I F) ?_ fun zz zz x=>x.elim)
 ·k_upd
  exact⟨rfl,rfl⟩
 rintro v s1 ⟨u,aA,B1,aE,⟨rfl,iy⟩,P1,r1⟩;have iy:=iy.symm;subst iy;refine VR.jY r1 ?_;have F1:=F.same P1;refine callWith_of (P:=fU G (.ref 84)) (by rw[plain_any (eA (es:=iu))];rfl) (fun zz x=>x) (iE (kws:=[]) (eA (es:=iu)) rfl ?_)
 refine wpAny_mono (kR hG.nm hG.gl (n:=n+2) (U:=U) (O:=O) (Q:=fun vs ar=>vs=[.int a,.int 0]∧ar=O) iu hB.as rfl ?_ A hA B1 aE s1 P1.inv F1) ?_ fun zz zz x=>x.elim
 ·unfold iu
  k_upd;refine V_at (i:=((0:Nat):Int)) (xs:=ps) (v:=.tuple z9) (by rw[gT];exact h0) (by exact ag 1 0 (aa (ak ab bw) (ai (cH (az ab)) (az b6))) (by kd_p) hz) (.of (by exact NB hz)) ?_
  k_upd;refine jw (i:=((0:Nat):Int)) (v:=.int a) (by simpa using g0) (by exact Int.natCast_nonneg _) (.of (by exact NB z0)) ?_
  k_upd;refine⟨.of (by simp),bK ?_⟩
  k_upd;refine⟨.of (by simp),bK ?_⟩
  k_upd;refine CK hG (dT hG (n:=n+1) L3 RT L3 (by decide) (by decide) (by decide) ?_)
  rw[halt];k_upd;exact⟨rfl,rfl⟩
 rintro vs s2 ⟨us,aZ,B2,aV,⟨rfl,iy⟩,P2,r2⟩;have iy:=iy.symm;subst iy;refine aB.aN r2 ?_;intro x zz rx r2;refine aB.aN r2 ?_;intro y zz ry r2;refine aB.bE r2 ?_;have F2:=F1.same P2;have P3:=P1.trans P2;have Jd:Z=aV:=(take_all P3.pre (by rw[I.len,P3.inv.len])).symm
 subst Jd;refine kwAll_nil ⟨keeps_K (hG.keep fun P=>by kd_p) _ P2.inv.jS,?_⟩
 refine aW F2.ns ?_;intro m i9 hmm;refine Fg hG (n:=n+1) hA vR z7 F.kind P2.inv i9 F2.cU rx ry fun B3 s3 L2 h' ex t P4 o2 e8 LU aag W4 W5 W6 qx hup RV ot=>?_;have F3:=F2.same P4;have P5:=P3.trans P4;have W7:∀b o,s.heap.get? b=some o→b∉Z→b∉tabs→b≠L2:=fun b o e h1 h2 z=>by
  have:=P3.kept e (by simp) h1 h2
  rw[z,LU]at this;exact bk this
 refine wpAny_looks_onW vR z7 W5 fun bf RW up1=>?_;refine wpAny_landsW RW fun bu yE W8=>?_;have W9:s3.heap.UpToSlots bu:=(hup.trans up1).trans W8;have kb:∀ {h:Heap},(kM s3.heap env.locals L2).StaysIn h→∀b o,b≠env.locals→b≠L2→s3.heap.get? b=some o→h.get? b=some o:=fun hs b o q1 q2 e=>hs b o (by rw[lR q1 q2];exact e)
 have I2:Inv G B3 Z O bu:=P5.inv.Aa F3.cU o2 (kb yE.1);have KN:∀n c,(n,c)∈env.cells→c≠L2:=fun n c m z=>by
  refine cw (F2.dG n c m) ?_;intro zz zz zz zz v o' eo zz;rw[z,LU]at eo;exact bk eo
 have FH:bt G env B3 Z U bu:=F3.Aa KN (fun m h=>W9.ns h) (kb yE.1);refine wpAny_handleBy_builtin_as (X:="ZeroDivisionError") (T:="ZeroDivisionError") (b:=true) PySem.F.isExc_ZeroDivisionError PySem.F.notTuple_ZeroDivisionError PySem.F.self_ZeroDivisionError ?_;rw[show bH aI (.glob 139) z'=.Name (G.nm 139) z'.pos by rw[hG.nm];rfl]
 refine aW yE.there ?_;intro obx ebx ecx;refine Name_function_global F.kind RU (G.load (hG.gl 139 (.type "ZeroDivisionError") rfl) F.gl F.bi (fun a o e=>I2.holds a o (I2.base a o e)) ⟨rfl,⟨obx,ebx,ecx⟩,?_⟩) (G.odd 139).1;rw[if_pos rfl];refine lands_againW yE fun h3 yF Xa=>?_;have Xb:=W9.trans Xa;have I3:Inv G B3 Z O h3:=P5.inv.Aa F3.cU o2 (kb yF.1);have RX:bt G env B3 Z U h3:=F3.Aa KN (fun m h=>Xb.ns h) (kb yF.1);have Xc:∀a',a'∈fa G env [132]→a'∈fa G env own:=fun a' m=>by
  rcases List.mem_cons.mp m with h|h
  ·rw[h];exact .head _
  ·refine aW (List.mem_filterMap.mp h) ?_;intro x hx e
   rw[List.mem_singleton.mp hx]at e;exact .tail _ (List.mem_filterMap.mpr ⟨132,Jr,e⟩)
 rw[←hG.nm];refine gu (own:=[132]) (s:={s3 with heap:=h3}) (by simp) (.inl (by rw[hG.nm];exact Js)) I3 RX (v:=.raw (.ref ex)) .raw fun h4 tk F4 P6=>?_
 have RY:get (set U 132 (.raw (.ref ex))) 100=some (.list ps):=gn hp;have RZ:get (set U 132 (.raw (.ref ex))) 132=some (.raw (.ref ex)):=gs;refine Kl yF.first ?_;intro oe vse ee ece L4 eve
 refine pb (Xb.ns W4) ?_;intro oL esL epL eL Xd zz;have exL:ex≠env.locals:=fun z=>by
  rw[z,eL]at ee;cases Option.some.inj ee;rw[Xd]at L4;cases L4
 refine oo ((W6.of_slots ((up1.trans W8).trans Xa):h3.TupAt t [])) ?_;intro ot' kt' L5 Xe Dt;have tL:t≠env.locals:=fun z=>by
  rw[z,eL]at L5;cases Option.some.inj L5;rw[Xd]at Dt;cases Dt
 have exF:ex∉fa G env [132]:=fun m=>by
  rcases eu m with z|⟨n',ew⟩
  ·exact exL z
  ·refine cw (RX.dG n' _ (aY ew)) ?_;intro zz zz zz zz v o' eo ed
   rw[ee]at eo;cases Option.some.inj eo;rw[L4]at ed;cases ed
 have tF:t∉fa G env [132]:=fun m=>by
  rcases eu m with z|⟨n',ew⟩
  ·exact tL z
  ·refine cw (RX.dG n' _ (aY ew)) ?_;intro zz zz zz zz v o' eo ed
   rw[L5]at eo;cases Option.some.inj eo;rw[Dt]at ed;cases ed
 have hx4:h4.ExcAt ex "ZeroDivisionError" (.ref t):=⟨oe,vse,P6.kept ee exF RV.2.1 RV.2.2,ece,L4,eve⟩;have ht4:h4.TupAt t []:=⟨ot',kt',P6.kept L5 tF ot.2.1 ot.2.2,Xe,Dt⟩;have P8:aG G (fa G env own) B Z s B3 Z O {s3 with heap:=h4,toks:=tk}:=by
  refine⟨P5.le,P5.pre,P6.inv,fun b o hb e=>?_,fun a' m'=>?_,P5.rest.trans .heap,P5.dD,P5.c8⟩
  ·simp only[List.mem_append,not_or]at hb
   have e3:=P5.kept e (by simp) hb.2.1 hb.2.2
   have e4:=kb yF.1 b o (fun z=>hb.1 (by rw[z];exact .head _)) (W7 b o e hb.2.1 hb.2.2) e3
   exact P6.kept e4 (fun m=>hb.1 (Xc b m)) hb.2.1 hb.2.2
  ·exact F4.bL a' m'
 refine wpAny_execs_cons (wpAny_Return_some (wpAny_mono (RR hG BQ (U:=set U 132 (.raw (.ref ex))) (Q:=fun v ar=>v=.bool (a*b==c)∧ar=O) ?_ RY h0 h1 h2 g0 g1 g2 hz z0 z1 z2 hm RZ P6.inv F4 hx4 ht4 RV ot ⟨rfl,rfl⟩) ?_ fun zz zz x=>x.elim))
 ·have:=hA.units
  show A.units+10<cLine;unfold cLine;exact ag 2 0 (aa (ae (aj af (cY 16 (aj ab gU))) c7) (ak (aj af fb) (nk 9900))) (by kd_p) this
 ·rintro v s5 ⟨u,DZ,B5,iN,⟨rfl,iy⟩,P9,r9⟩
  have iy:=iy.symm;subst iy;have F5:=F4.same P9;refine aW F5.ns ?_;intro m5 hn5 zz;refine VR.tn r9 ?_;have tm:=P8.trans (P9.wide F4);rw[hG.nm];refine wpAny_nameGoes Js hn5 (by rw[F.kind];rfl) fun h6 m' Xf Xg=>?_
  refine oq Xf ?_;clear Xf;intro o6 es6 ep6 e6 r6;have Km:=Inv.pj (W:=fa G env own) (s:=s5) (tk:=s5.toks+1) (h':=h6) P9.inv (.head _) F5.cU (fun b o hb g=>(Xg.2 b hb).trans g) ⟨o6,e6⟩ tm.bL;refine⟨.ret (.bool (a*b==c)),[],O,B5,iN,q,tm.trans Km,?_,.ret .bool⟩;exact⟨F5.kind,F5.gl,F5.bi,⟨m',⟨o6,es6,ep6,e6,r6⟩,(fun x v hx zz=>by cases hx)⟩,(fun x v hx=>by cases hx),F5.cU,(fun n c m=>by refine cw (F5.dG n c m) ?_;intro a1 a2 a3 a4 v o' eo ed;exact⟨a1,a2,a3,a4,v,o',(Xg.2 c a4).trans eo,ed⟩),F5.inj,F5.all⟩
theorem BU{n:Nat}{A:Around}(hA:bY n A){env:Env}{own:List Nat}{xs ys:List Stmt}{U:aw}{O:Mu}{R:aw→Mu→Prop}{Q:Fl→aw→Mu→Prop}{B:ay}{Z:List Addr}{s:Shared}(I:Inv G B Z O s.heap)(F:bt G env B Z U s.heap)
  (h:cn G n env own (execs xs env) U O fun r ao ar=>r=.next∧R ao ar)
  (h':∀ao ar B' aH s',R ao ar→Inv G B' aH ar s'.heap→bt G env B' aH ao s'.heap→wpAny (model G.prog G.w) A (execs ys env) (PS G env own B' aH s' Q) bM s'):
  wpAny (model G.prog G.w) A (execs (xs++ys) env) (PS G env own B Z s Q) bM s:=by
 refine i5 (wpAny_mono (h A hA B Z s I F) ?_ fun zz zz x=>x);rintro f s1 ⟨r,a9,aA,B1,aE,⟨rfl,hR⟩,P1,F1,r1⟩;cases r1;exact wpAny_mono (h' a9 aA B1 aE s1 hR P1.inv F1) (fun zz zz h=>PS.after P1 h) fun zz zz x=>x
theorem gq{τ:Type}{turn:V→aw→Mu→List V→(aw→Mu→List V→Prop)→Prop}{J:aw→Prop}{O:Mu}{M:Nat}(f h:τ→V){ys:List τ}(step:∀y∈ys,∀U acc k,J U→acc.length+1≤M→(∀ao,J ao→k ao O (acc++[h y]))→turn (f y) U O acc k){U:aw}{k:aw→Mu→List V→Prop}(h0:J U)(hM:ys.length≤M)(hk:∀ao,J ao→k ao O (ys.map h)):cb turn (ys.map f) U O [] k:=by
 have e:∀l:List τ,(l.flatMap fun y=>[h y])=l.map h:=by
  intro l
  induction l with
  |nil=>rfl
  |cons x r ih=>rw[List.flatMap_cons,ih];rfl
 refine dW (J:=J) (M:=M) f (fun y=>[h y]) (fun y hy U acc k hJ hM hK=>step y hy U acc k hJ (by simpa using hM) hK) h0 (by rw[e,List.length_map];simpa using hM) fun ao hJ=>?_
 rw[e];exact hk ao hJ
structure Du(sc:Scope)(y0 y1 y2 c z:Expr):Prop where
 s:Dr sc y0
 t1:mA aI jn sc y1=true
 t2:mA aI jo sc y2=true
 t:Jq sc c z
noncomputable abbrev Jt(y0 y1 y2 c z e:Expr)(bs r:List Stmt)(bp ip ep rp hp tp:Pos):List Stmt:=.If (.BoolOp .Or [uS y0,my aI jn y1,my aI jo y2] bp) bs [] ip::OB c z e ep rp hp tp::r
theorem Fh(hG:bx G){n:Nat}{A:Around}(hA:bY (n+5) A){env:Env}(vR:A.frames=some [env])(z7:env.frame=some env.locals){cd:Addr}(gk:env.code=.ref cd)(jD:codeHdIn G.K cd 222=true)(hq:env.qual++"<lambda>"=ug)
  {own:List Nat}(Jr:132∈own){y0 y1 y2 c' z' e':Expr}{bs r:List Stmt}{bp ip ep rp vL tp:Pos}(hB:Du env.scope y0 y1 y2 c' z'){U:aw}{O:Mu}{ps:List (List Int×Int)}{a b c rest fi mi:Int}{ws:List Int}
  (uT:get U 105=some (.list (ps.map bT)))(l1:1≤ps.length)(lz:ps.length<64)(hs:∀ (i:Nat) p q,ps[i]?=some p→ps[i+1]?=some q→vQ (q.1,-q.2) (p.1,-p.2)=false)
  (Xh:get U 100=some (.list [.tuple [.int a,.int rest],.tuple [.int b,.int rest],.tuple [.int c,.int rest]]))(aah:get U 104=some (.int rest))(Ju:get U 102=some (.list (ws.map .int)))(hw:ws.sum=b)
  (LZ:get U 63=some (.int fi))(L0:get U 130=some (.int mi))(L3:Sz 10 fi)(RT:Sz 10 mi)(halt:cZ fi mi fi 0 0 0=0)(hm:IntMulOk a b)(rR:a*b=c)
  {B:ay}{Z:List Addr}{s:Shared}(I:Inv G B Z O s.heap)(F:bt G env B Z U s.heap):
  wpAny (model G.prog G.w) A (execs (Jt y0 y1 y2 c' z' e' bs r bp ip ep rp vL tp) env) (PS G env own B Z s fun r zz ar=>r=.ret (.bool true)) bM s:=by
 have R0:fX G (n+5) env (isTrue (.BoolOp .Or [uS y0,my aI jn y1,my aI jo y2] bp) env (eval (.BoolOp .Or [uS y0,my aI jn y1,my aI jo y2] bp) env)) U O fun b ar=>b=false∧ar=O:=by
  refine qY (ku (Ff hG hB.s gk jD hq uT l1 lz hs ?_));refine ku (nA hG.nm hG.gl jn hB.t1 rfl ?_);unfold jn;k_upd;refine dC ?_;k_upd;refine⟨_,Iter.list,?_⟩;show cb _ ([a,b,c].map fun x=>V.tuple [.int x,.int rest]) _ _ _ _;refine gq (M:=3) (J:=fun zz=>True) (fun x=>V.tuple [.int x,.int rest]) (fun zz=>.int rest) (fun y hy ao acc k zz hM hK=>?_) trivial (by simp) (fun ao zz=>?_)
  ·have aai:get (set ao 103 (.tuple [.int y,.int rest])) 103=some (.tuple [.int y,.int rest]):=gs
   first|show aX _ _ _ _ _ _ _|show d8 _ _ _ _ _ _ _|skip
   generalize set ao 103 (.tuple [.int y,.int rest])=LQ at *;refine cQ ?_;k_upd;refine jw (v:=.int rest) rfl (by decide) (.of (by simp)) ?_
   exact⟨.of (by exact Gu hM),hK LQ trivial⟩
  refine bK ?_;k_upd;refine⟨.of (by simp),bK ?_⟩
  k_upd;refine lq ⟨by decide,by decide,by simp⟩ ?_
  rw[eK];refine Hq (b:=true) ?_ ?_
  ·exact uR 48 [rest,rest,rest]
  ·k_upd
   refine ku (nA hG.nm hG.gl jo hB.t2 rfl ?_);unfold jo;k_upd;refine V_at (v:=.tuple [.int b,.int rest]) rfl (by simp) (.of (by simp)) ?_
   k_upd;refine jw (v:=.int b) rfl (by decide) (.of (by simp)) ?_
   k_upd;refine CS ?_;rw[hw];k_upd;rw[show(b !=b)=false by simp]
   exact xA ⟨rfl,rfl⟩
 refine wpAny_execs_cons (wpAny_If (wpAny_mono (R0 A hA B Z s I F) ?_ fun zz zz x=>x));rintro t s1 ⟨aA,B1,aE,⟨rfl,rfl⟩,P1⟩;have F1:=F.same P1;simp only[Bool.false_eq_true,if_false];refine wpAny_execs_nil ?_;refine wpAny_execs_cons (wpAny_mono (LY hG (n:=n+3) hA vR z7 (own:=own) Jr hB.t (Q:=fun r zz ar=>r=.ret (.bool true)) Xh rfl rfl rfl rfl rfl rfl (by simp) (by simp) (by simp) (by simp) hm LZ L0 L3 RT halt ?_ P1.inv F1) ?_ fun zz zz x=>x)
 ·rw[rR];simp
 ·rintro f s2 ⟨r',b9,aZ,B2,aV,rfl,P2,F2,r2⟩
  cases r2 with
  |ret r2=>exact⟨_,b9,aZ,B2,aV,rfl,(P1.wide F).trans P2,F2,.ret r2⟩
noncomputable abbrev Mo:=Nat×Nat×Nat
noncomputable abbrev Po:=List (Mo×Int)
noncomputable def gI(x y z:Int)(m:Mo):Int:=x ^ m.1*(y ^ m.2.1*z ^ m.2.2)
noncomputable def cD(x y z:Int):Po→Int
 |[]=>0
 |(m,c)::r=>c*gI x y z m+cD x y z r
noncomputable def wX(m:Mo)(c:Int):Po→Po
 |[]=>[(m,c)]
 |(m',c')::r=>if m=m' then(m',c+c')::r else(m',c')::wX m c r
theorem wY(x y z:Int)(m:Mo)(c:Int):∀p:Po,cD x y z (wX m c p)=c*gI x y z m+cD x y z p
 |[]=>rfl
 |(m',c')::r=>by
  unfold wX
  by_cases h:m=m'
  ·rw[if_pos h]
   subst h;show(c+c')*gI x y z m+cD x y z r=c*gI x y z m+(c'*gI x y z m+cD x y z r);rw[Int.add_mul,Int.add_assoc]
  ·rw[if_neg h]
   show c'*gI x y z m'+cD x y z (wX m c r)=c*gI x y z m+(c'*gI x y z m'+cD x y z r);rw[wY x y z m c r];exact ag 0 3 (aS (bh cu (bh aK aq)) (bh aK (bh cu aq))) (by kd_p)
noncomputable def norm:Po→Po
 |[]=>[]
 |(m,c)::r=>wX m c (norm r)
theorem wZ(x y z:Int):∀p:Po,cD x y z (norm p)=cD x y z p
 |[]=>rfl
 |(m,c)::r=>by
  show cD x y z (wX m c (norm r))=c*gI x y z m+cD x y z r;rw[wY,wZ x y z r]
theorem iJ(x y z:Int):∀p q:Po,cD x y z (p++q)=cD x y z p+cD x y z q
 |[],q=>by simp[cD]
 |(m,c)::r,q=>by
  show c*gI x y z m+cD x y z (r++q)=c*gI x y z m+cD x y z r+cD x y z q;rw[iJ x y z r q];exact ag 0 3 (aS (bh cu (bh aK aq)) (bh (bh cu aK) aq)) (by kd_p)
noncomputable def uU(p:Po):Po:=p.map fun t=>(t.1,-t.2)
theorem Ab(x y z:Int):∀p:Po,cD x y z (uU p) = - cD x y z p
 |[]=>rfl
 |(m,c)::r=>by
  show(-c)*gI x y z m+cD x y z (uU r) = -(c*gI x y z m+cD x y z r);rw[Ab x y z r,Int.neg_mul];exact NC
noncomputable def Jv(k:Int)(p:Po):Po:=p.map fun t=>(t.1,k*t.2)
theorem Dv(x y z k:Int):∀p:Po,cD x y z (Jv k p)=k*cD x y z p
 |[]=>by simp[Jv,cD]
 |(m,c)::r=>by
  show(k*c)*gI x y z m+cD x y z (Jv k r)=k*(c*gI x y z m+cD x y z r);rw[Dv x y z k r,Int.mul_add,Int.mul_assoc]
theorem Jw(x y z:Int)(m m':Mo):gI x y z (m.1+m'.1,m.2.1+m'.2.1,m.2.2+m'.2.2)=gI x y z m*gI x y z m':=by
 unfold gI;simp only[Int.pow_add]
 ac_rfl
noncomputable def Ac(m:Mo)(c:Int)(q:Po):Po:=q.map fun t=>((m.1+t.1.1,m.2.1+t.1.2.1,m.2.2+t.1.2.2),c*t.2)
theorem Ad(x y z:Int)(m:Mo)(c:Int):∀q:Po,cD x y z (Ac m c q)=c*gI x y z m*cD x y z q
 |[]=>by simp[Ac,cD]
 |(m',c')::r=>by
  show(c*c')*gI x y z (m.1+m'.1,m.2.1+m'.2.1,m.2.2+m'.2.2)+cD x y z (Ac m c r)=c*gI x y z m*(c'*gI x y z m'+cD x y z r);rw[Ad x y z m c r,Jw,Int.mul_add]
  congr 1
  ac_rfl
noncomputable def pX:Po→Po→Po
 |[],_=>[]
 |(m,c)::r,q=>Ac m c q++pX r q
theorem lg(x y z:Int):∀p q:Po,cD x y z (pX p q)=cD x y z p*cD x y z q
 |[],q=>by simp[pX,cD]
 |(m,c)::r,q=>by
  show cD x y z (Ac m c q++pX r q)=(c*gI x y z m+cD x y z r)*cD x y z q;rw[iJ,Ad,lg x y z r q,Int.add_mul]
noncomputable def uV(p:Po):Bool:=(norm p).all fun t=>t.2==0
theorem w0(x y z:Int):∀p:Po,(p.all fun t=>t.2==0)=true→cD x y z p=0
 |[],_=>rfl
 |(m,c)::r,h=>by
  simp only[List.all_cons,Bool.and_eq_true]at h;show c*gI x y z m+cD x y z r=0;rw[w0 x y z r h.2,eq_of_beq h.1];simp
theorem jh{p q:Po}(h:uV (p++uU q)=true)(x y z:Int):cD x y z p=cD x y z q:=by
 have h1:=w0 x y z _ h;rw[wZ,iJ,Ab]at h1;exact ag 0 2 (aa (aS (bh aK (cH aq)) aJ) (aS aK aq)) (by kd_p) h1
noncomputable def uW(a b c:Nat):Po:=[((a+2,b+1,c),1),((a+2,c,b+1),-1),((b+1,a+2,c),-1),((b+1,c,a+2),1),((c,a+2,b+1),1),((c,b+1,a+2),-1)]
theorem mX(x y z:Int)(a b c:Nat):cD x y z (uW a b c)=cZ x y z a b c:=by
 unfold cZ uW;have e1:((a:Int)+2).toNat=a+2:=by exact ND
 have e2:((b:Int)+1).toNat=b+1:=by exact NF
 have e3:(c:Int).toNat=c:=by exact NG
 rw[e1,e2,e3];simp only[cD,gI,Int.mul_sub,Int.one_mul,Int.add_zero];exact ag 0 6 (aS (bh FX (bh (xr (-1) kO) (bh (xr (-1) fw) (bh cu (bh aK (xr (-1) aq)))))) (bh (bR (bR FX kO) (bR fw cu)) (bR aK aq))) (by kd_p)
noncomputable def kN:List Str:=[Str.ofString "",Str.ofString "\"",Str.ofString "\\",Str.ofString "\"()",Str.ofString "\"("]
noncomputable def aD(f:List (List Int)):List Int:=f.reverse.flatten
noncomputable def uX(ls:List Int)(rise upper:Int):List Int:=(List.range (ls.length+1)).map fun k=>rise+((ls.take k).count upper:Nat)-((ls.take k).count (upper+1):Nat)
noncomputable def eE(ls:List Int)(rise upper:Int):Int:=(uX ls rise upper).foldl min rise
noncomputable def bJ:List (List Nat):=[[2,1],[2,1,1],[2,2,1],[1,1],[2,2]]
noncomputable def bZ:List (Nat×Nat×Nat):=[(0,0,0),(1,0,0),(2,0,0),(0,1,0),(1,1,0),(2,1,0),(0,2,0),(1,2,0),(2,2,0),(0,0,1),(1,0,1),(2,0,1),(0,1,1)]
noncomputable def rowsOf(s:Nat×Nat×Nat):List Int:=[((s.1+s.2.1+s.2.2:Nat):Int),((s.2.1+s.2.2:Nat):Int),(s.2.2:Int)]
noncomputable def bF(s:Nat×Nat×Nat)(ls:List Int):List Int:=[((s.1+s.2.1+s.2.2+ls.count 1:Nat):Int),((s.2.1+s.2.2+ls.count 2:Nat):Int),((s.2.2+ls.count 3:Nat):Int)]
noncomputable def pY(s:Nat×Nat×Nat)(ls:List Int):Bool:=decide (0≤eE ls s.1 1)&&decide (0≤eE ls s.2.1 2)
noncomputable def yG(s:Nat×Nat×Nat)(ls:List Int):List (List Int):=(List.range 3).map fun k=>List.replicate ((bF s ls).getD k 0).toNat ((k:Int)+1)
noncomputable def yH(s:Nat×Nat×Nat)(f:List (List Int)):Bool:=(gB f ((s.1+s.2.1+s.2.2:Nat):Int) ((s.2.1+s.2.2:Nat):Int) (s.2.2:Int)==yG s (aD f))==pY s (aD f)
noncomputable def dw(m:List (List Int×Int))(i:Nat):List Int:=(m.getD i ([],0)).1
noncomputable def mY(m:List (List Int×Int))(p:List Int×Int):List (List Int×Int):=
 let k:=cO (fun i=>fj p.1 (dw m i)) m.length 0 m.length
 m.take k++p::m.drop k
noncomputable def ji(s:Nat×Nat×Nat):List (List (List Int))→Nat→List (List Int×Int)→List (List Int×Int)
 |[],_,m=>m
 |f::r,t,m=>ji s r (t+1) (if pY s (aD f) then mY m (bF s (aD f),-(t:Int)) else m)
noncomputable def aF(s:Nat×Nat×Nat)(ah:List Nat):List (List Int×Int):=ji s (fillAll ah) 0 []
noncomputable def mZ(m:List (List Int×Int))(x:List Int):Nat:=cO (fun i=>!fj (dw m i) x) m.length 0 m.length
noncomputable def BV(m:List (List Int×Int))(x:List Int):Nat:=cO (fun i=>fj x (dw m i)) m.length 0 m.length
noncomputable def bO(m:List (List Int×Int)):List (List Int):=(List.range m.length).flatMap fun k=>if mZ m (dw m k)=k then[dw m k] else[]
noncomputable def b8(m:List (List Int×Int)):List Int:=(bO m).map fun x=>(BV m x:Int)-(mZ m x:Int)
noncomputable def pZ(m:List (List Int×Int)):Bool:=(List.range m.length).all fun i=>decide (i+1<m.length→vQ ((m.getD (i+1) ([],0)).1,-(m.getD (i+1) ([],0)).2) ((m.getD i ([],0)).1,-(m.getD i ([],0)).2)=false)
noncomputable def uY(f:List (List Int)):Po:=[(((aD f).count 1,(aD f).count 2,(aD f).count 3),1)]
noncomputable def nI(ah:List Nat):Po:=(fillAll ah).flatMap uY
noncomputable def uZ(x:List Int):Po:=uW (x.getD 0 0).toNat (x.getD 1 0).toNat (x.getD 2 0).toNat
noncomputable def Jx(m:List (List Int×Int)):Po:=((b8 m).zip (bO m)).flatMap fun p=>Jv p.1 (uZ p.2)
noncomputable def Xi(s:Nat×Nat×Nat)(ah:List Nat):Bool:=uV (Jx (aF s ah)++uU (pX (uZ (rowsOf s)) (nI ah)))
noncomputable def R1(ah:List Nat):Bool:=uV (uW ((ah.count 1)+(ah.count 2)) (ah.count 2) 0++uU (pX (uW 0 0 0) (nI ah)))
noncomputable def gr(s:Nat×Nat×Nat)(ah:List Nat):Bool:=(fillAll ah).all (yH s)&&pZ (aF s ah)&&decide (1≤(aF s ah).length)&&decide ((aF s ah).length<64)&&Xi s ah
noncomputable def nJ:Nat×Nat×Nat→Po
 |(0,0,0)=>[((0,0,0),1)]
 |(1,0,0)=>[((0,0,1),1),((0,1,0),1),((1,0,0),1)]
 |(2,0,0)=>[((0,0,2),1),((0,1,1),1),((0,2,0),1),((1,0,1),1),((1,1,0),1),((2,0,0),1)]
 |(0,1,0)=>[((0,1,1),1),((1,0,1),1),((1,1,0),1)]
 |(1,1,0)=>[((0,1,2),1),((0,2,1),1),((1,0,2),1),((1,1,1),2),((1,2,0),1),((2,0,1),1),((2,1,0),1)]
 |(2,1,0)=>[((0,1,3),1),((0,2,2),1),((0,3,1),1),((1,0,3),1),((1,1,2),2),((1,2,1),2),((1,3,0),1),((2,0,2),1),((2,1,1),2),((2,2,0),1),((3,0,1),1),((3,1,0),1)]
 |(0,2,0)=>[((0,2,2),1),((1,1,2),1),((1,2,1),1),((2,0,2),1),((2,1,1),1),((2,2,0),1)]
 |(1,2,0)=>[((0,2,3),1),((0,3,2),1),((1,1,3),1),((1,2,2),2),((1,3,1),1),((2,0,3),1),((2,1,2),2),((2,2,1),2),((2,3,0),1),((3,0,2),1),((3,1,1),1),((3,2,0),1)]
 |(2,2,0)=>[((0,2,4),1),((0,3,3),1),((0,4,2),1),((1,1,4),1),((1,2,3),2),((1,3,2),2),((1,4,1),1),((2,0,4),1),((2,1,3),2),((2,2,2),3),((2,3,1),2),((2,4,0),1),((3,0,3),1),((3,1,2),2),((3,2,1),2),((3,3,0),1),((4,0,2),1),((4,1,1),1),((4,2,0),1)]
 |(0,0,1)=>[((1,1,1),1)]
 |(1,0,1)=>[((1,1,2),1),((1,2,1),1),((2,1,1),1)]
 |(2,0,1)=>[((1,1,3),1),((1,2,2),1),((1,3,1),1),((2,1,2),1),((2,2,1),1),((3,1,1),1)]
 |(0,1,1)=>[((1,2,2),1),((2,1,2),1),((2,2,1),1)]
 |_=>[]
theorem BW:(bZ.all fun s=>uV (uZ (rowsOf s)++uU (pX (uW 0 0 0) (nJ s))))=true:=by decide +kernel
theorem Fi:bJ.all R1=true:=by decide +kernel
theorem BX:(bJ.all fun l=>decide (((fillAll l).length:Int)=((((l.count 1:Nat):Int)+1)*(((l.count 2:Nat):Int)+1)*(((l.count 1:Nat):Int)+((l.count 2:Nat):Int)+2)).fdiv 2))=true:=by decide +kernel
theorem L6:bJ.all (gr (0,0,0))=true:=by decide +kernel
theorem L7:bJ.all (gr (1,0,0))=true:=by decide +kernel
theorem L8:bJ.all (gr (2,0,0))=true:=by decide +kernel
theorem L9:bJ.all (gr (0,1,0))=true:=by decide +kernel
theorem Ma:bJ.all (gr (1,1,0))=true:=by decide +kernel
theorem Mb:bJ.all (gr (2,1,0))=true:=by decide +kernel
theorem Mc:bJ.all (gr (0,2,0))=true:=by decide +kernel
theorem Md:bJ.all (gr (1,2,0))=true:=by decide +kernel
theorem Me:bJ.all (gr (2,2,0))=true:=by decide +kernel
theorem Mf:bJ.all (gr (0,0,1))=true:=by decide +kernel
theorem Jy:bJ.all (gr (1,0,1))=true:=by decide +kernel
theorem Jz:bJ.all (gr (2,0,1))=true:=by decide +kernel
theorem JA:bJ.all (gr (0,1,1))=true:=by decide +kernel
theorem Fj:∀s∈bZ,bJ.all (gr s)=true:=by
 intro s h;simp only[bZ,List.mem_cons,List.not_mem_nil,or_false]at h;rcases h with rfl|rfl|rfl|rfl|rfl|rfl|rfl|rfl|rfl|rfl|rfl|rfl|rfl
 ·exact L6
 ·exact L7
 ·exact L8
 ·exact L9
 ·exact Ma
 ·exact Mb
 ·exact Mc
 ·exact Md
 ·exact Me
 ·exact Mf
 ·exact Jy
 ·exact Jz
 ·exact JA
noncomputable def asc(x:Str):Bool:=x.cps.toList.all fun c=>Nat.blt c 128
noncomputable def Mg(x:Str)(want:Bool):Bool:=checkOf x==want&&asc x&&Nat.ble x.length 1000&&asc (gQ x)
noncomputable def Mh(ls:List Int)(rise upper hide:Int):Bool:=kN.all fun e=>Mg (textOf ls rise upper hide++e) (decide (0≤eE ls rise upper)&&(e !=Str.ofString "\"("))
noncomputable def iK(h r:Nat):Bool:=bJ.all fun l=>(fillAll l).all fun f=>Mh (aD f) r 1 h&&Mh (aD f) r 2 h
theorem R2:iK 0 0=true:=by decide +kernel
theorem R3:iK 0 1=true:=by decide +kernel
theorem R4:iK 0 2=true:=by decide +kernel
theorem R5:iK 1 0=true:=by decide +kernel
theorem R6:iK 1 1=true:=by decide +kernel
theorem R7:iK 1 2=true:=by decide +kernel
theorem R8:iK 2 0=true:=by decide +kernel
theorem R9:iK 2 1=true:=by decide +kernel
theorem Sa:iK 2 2=true:=by decide +kernel
theorem Sb:iK 3 0=true:=by decide +kernel
theorem Sd:iK 3 1=true:=by decide +kernel
theorem Se:iK 3 2=true:=by decide +kernel
theorem Sf:iK 4 0=true:=by decide +kernel
theorem Sg:iK 4 1=true:=by decide +kernel
theorem Sh:iK 4 2=true:=by decide +kernel
theorem Si:iK 5 0=true:=by decide +kernel
theorem Sj:iK 5 1=true:=by decide +kernel
theorem Sk:iK 5 2=true:=by decide +kernel
theorem Sl:iK 6 0=true:=by decide +kernel
theorem Sm:iK 6 1=true:=by decide +kernel
theorem Sn:iK 6 2=true:=by decide +kernel
theorem So:iK 7 0=true:=by decide +kernel
theorem Sp:iK 7 1=true:=by decide +kernel
theorem Sq:iK 7 2=true:=by decide +kernel
theorem yI{P:Nat→Prop}(a:P 0)(b:P 1)(c:P 2):∀r<3,P r:=fun r h=>by
 cases r with
 |zero=>exact a
 |succ r=>cases r with
  |zero=>exact b
  |succ r=>cases r with
   |zero=>exact c
   |succ r=>exact absurd (Nat.le_of_succ_le_succ (Nat.le_of_succ_le_succ (Nat.le_of_succ_le_succ h))) (Nat.not_succ_le_zero _)
theorem lt4{P:Nat→Prop}(a:P 0)(b:P 1)(c:P 2)(d:P 3)(z:∀r<4,P (r+4)):∀r<8,P r:=fun r h=>by
 cases r with
 |zero=>exact a
 |succ r=>cases r with
  |zero=>exact b
  |succ r=>cases r with
   |zero=>exact c
   |succ r=>cases r with
    |zero=>exact d
    |succ r=>exact z r (Nat.le_of_succ_le_succ (Nat.le_of_succ_le_succ (Nat.le_of_succ_le_succ (Nat.le_of_succ_le_succ h))))
theorem Mi:∀h<8,∀r<3,iK h r=true:=
 lt4 (yI R2 R3 R4) (yI R5 R6 R7) (yI R8 R9 Sa) (yI Sb Sd Se) fun h k=>by
 cases h with
 |zero=>exact(yI Sf Sg Sh)
 |succ h=>exact yI (P:=fun h=>∀r<3,iK (h+5) r=true) (yI Si Sj Sk) (yI Sl Sm Sn) (yI So Sp Sq) h (Nat.lt_of_succ_lt_succ k)
noncomputable def BY(low blanks extra:Int):Bool:=(List.range 3).all fun a=>(List.range 3).all fun b=>if 1≤b∧b≤a then(List.range 3).all fun i=>(List.range 3).all fun j=>pS (sy (gR (bo a i) low blanks)) (sy (Dn a b j low blanks extra))==fu (bo a i) (bo b j) else true
theorem yJ{low blanks extra:Int}(h:BY low blanks extra=true):wR low blanks extra:=by
 intro a ha b hb h1 h2 i hi j hj;have h:=List.all_eq_true.mp h a (List.mem_range.mpr ha);have h:=List.all_eq_true.mp h b (List.mem_range.mpr hb);rw[if_pos ⟨h1,h2⟩]at h;have h:=List.all_eq_true.mp h i (List.mem_range.mpr hi);have h:=List.all_eq_true.mp h j (List.mem_range.mpr hj);exact eq_of_beq h
theorem Fm:([((1:Int),[(1:Int),2,3]),(2,[1,2,3,4])].all fun p=>([0,1,2]:List Int).all fun b=>p.2.all fun e=>BY p.1 b e)=true:=by decide +kernel
noncomputable def BZ(ah:List Nat):Bool:=decide (0<ah.length)&&decide (ah.length≤5)&&decide (1≤ah.getD 0 0)&&decide (ah.getD 0 0<3) &&
 ((List.range ah.length).all fun j=>decide (j+1<ah.length→1≤ah.getD j 0∧ah.getD j 0<3∧1≤ah.getD (j+1) 0∧ah.getD (j+1) 0≤ah.getD j 0)) &&
 ((List.range ah.length).all fun j=>((b5 ah j).all fun f=>!f.isEmpty&&decide (f.length≤10))&&decide ((b5 ah j).length≤100))
theorem jM{ah:List Nat}(h:BZ ah=true):Dp ah:=by
 unfold BZ at h;simp only[Bool.and_eq_true,decide_eq_true_eq]at h;obtain⟨⟨⟨⟨⟨h1,h2⟩,h3⟩,h4⟩,h5⟩,h6⟩:=h;refine⟨h1,h2,⟨h3,h4⟩,fun j hj=>?_,fun j hj=>?_⟩
 ·have:=List.all_eq_true.mp h5 j (List.mem_range.mpr (by exact NH hj))
  exact of_decide_eq_true this hj
 ·have:=List.all_eq_true.mp h6 j (List.mem_range.mpr hj)
  simp only[Bool.and_eq_true,decide_eq_true_eq]at this;refine⟨fun f hf=>?_,this.2⟩;have:=List.all_eq_true.mp this.1 f hf;simp only[Bool.and_eq_true,decide_eq_true_eq,Bool.not_eq_true',List.isEmpty_eq_false_iff]at this;exact this
theorem xd:bJ.all BZ=true:=by decide +kernel
theorem xe{τ:Type}(xs:List τ):pick xs none none (some (-1))=xs.reverse:=by
 unfold pick;rw[krv_bounds];show(sliceRange ((xs.length:Int)-1) (-1) (-1)).filterMap (xs[·]?)=_
 rw[krv_sliceRange,krv_range,List.filterMap_reverse];have:=krv_all xs.toArray;simp only[List.size_toArray,List.getElem?_toArray]at this;rw[this]
theorem vS(i:Nat)(cs:List Int)(x:Int):(iw i cs x).length=cs.length:=by
 unfold iw;simp
theorem p4:∀ (i:Nat) (cs xs:List Int),(jH i cs xs).length=cs.length
 |_,cs,[]=>rfl
 |i,cs,x::xs=>by
  show(jH (i+1) (iw i cs x) xs).length=_;rw[p4,vS]
theorem six{l:List Int}(h:l.length=6):∃a b c d e f,l=[a,b,c,d,e,f]:=by
 match l,h with
 |[a,b,c,d,e,f],_=>exact⟨a,b,c,d,e,f,rfl⟩
theorem B9(xs:List Int):∃a b c d e f,cellsOf xs=[a,b,c,d,e,f]:=six (by unfold cellsOf;rw[p4];rfl)
noncomputable def qQ(c:Int):Nat:=(c.fmod 3).toNat
noncomputable def qR(c:Int):Nat:=((c.fdiv 3).fmod 3).toNat
noncomputable def fV(c:Int):Int:=if c.fmod 9<4 then(c.fdiv 9).fmod 2 else 0
noncomputable def shapeOf(c:Int):Nat×Nat×Nat:=(qQ c,qR c,(fV c).toNat)
theorem nW(a:Int){b:Int}(h:0<b):a.fmod b=a%b:=Int.fmod_eq_emod_of_nonneg _ (by exact te h)
theorem fd(a:Int){b:Int}(h:0<b):a.fdiv b=a/b:=Int.fdiv_eq_ediv_of_nonneg _ (by exact te h)
theorem Ae(c:Int):0≤fV c∧fV c<2∧(fV c=1→c%9<4):=by
 unfold fV;rw[nW _ (by decide),fd _ (by decide),nW _ (by decide)]
 split<;>omega
theorem Ca(c:Int):shapeOf c∈bZ:=by
 have Xj:∀a<3,∀b<3,∀t<2,(if t=1 then decide (a+3*b<4) else true)=true→bZ.contains (a,b,t)=true:=by decide
 have key:∀a<3,∀b<3,∀t<2,(t=1→a+3*b<4)→(a,b,t)∈bZ:=fun a ha b hb t ht h=>List.contains_iff_mem.mp (Xj a ha b hb t ht (by split<;>simp_all))
 have h:=Ae c;have ha:qQ c<3:=by unfold qQ;rw[nW _ (by decide)];exact Tp
 have hb:qR c<3:=by unfold qR;rw[fd _ (by decide),nW _ (by decide)];exact Tq
 refine key _ ha _ hb _ (by omega) fun ht=>?_
 have h9:=h.2.2 (by omega)
 unfold qQ qR;rw[nW _ (by decide),fd _ (by decide),nW _ (by decide)]
 exact Tr h9
theorem Af(c:Int):rowsOf (shapeOf c)=[c.fmod 3+(c.fdiv 3).fmod 3+fV c,(c.fdiv 3).fmod 3+fV c,fV c]:=by
 have h:=Ae c;have h1:(qQ c:Int)=c.fmod 3:=by unfold qQ;rw[nW _ (by decide)];exact Tt
 have h2:(qR c:Int)=(c.fdiv 3).fmod 3:=by unfold qR;rw[fd _ (by decide),nW _ (by decide)];exact Tu
 unfold rowsOf shapeOf;simp only[List.cons.injEq,and_true];refine⟨?_,?_,?_⟩
 ·rw[←h1,←h2];push_cast;omega
 ·rw[←h2];push_cast;omega
 ·omega
noncomputable def fG(c:Int):List Nat:=bJ.getD (c.fmod 5).toNat []
theorem xf(c:Int):fG c∈bJ:=by
 have key:∀k<5,bJ.getD k []∈bJ:=by decide
 refine key _ ?_;rw[nW _ (by decide)]
 exact Tv
noncomputable def rS(c:Int):Int:=1+(c.fdiv 16).fmod 2
noncomputable def jN(c:Int):Int:=(c.fdiv 32).fmod 3
noncomputable def nK(c:Int):Int:=1+(c.fdiv 96).fmod (3+(c.fdiv 16).fmod 2)
theorem Mj(c:Int):lQ (rS c) (jN c) (nK c):=by
 have h1:rS c=1∨rS c=2:=by unfold rS;rw[fd _ (by decide),nW _ (by decide)];exact Tw
 have h2:jN c=0∨jN c=1∨jN c=2:=by unfold jN;rw[fd _ (by decide),nW _ (by decide)];exact Tx
 have h3:1≤nK c∧nK c≤rS c+2:=by
  unfold nK rS;have hb:0≤(c.fdiv 16).fmod 2∧(c.fdiv 16).fmod 2≤1:=by rw[fd _ (by decide),nW _ (by decide)];exact Tz
  generalize (c.fdiv 16).fmod 2=u at *;rw[nW _ (by exact NI hb)]
  have e1:=Int.emod_nonneg (c.fdiv 96) (b:=3+u) (by exact ag 0 1 (aa (aT (ai aJ aq) (ai aq bV)) (fH (bh (zk 3) aq) aJ)) (by kd_p) hb)
  have e2:=Int.emod_lt_of_pos (c.fdiv 96) (b:=3+u) (by exact NI hb)
  exact ag 0 2 (aa (ai aJ aK) (aa (aM aK (bh (zk 3) aq)) (aT (ai bV (bh bV aK)) (ai (bh bV aK) (bh (bh bV aq) jQ))))) (by kd_p) e1 e2
 have hl:BY (rS c) (jN c) (nK c)=true:=by
  have h:=Fm;generalize rS c=lo at *;generalize jN c=bl at *;generalize nK c=ex at *;simp only[List.all_cons,List.all_nil,Bool.and_true,Bool.and_eq_true]at h;rcases h1 with rfl|rfl
  ·have:ex=1∨ex=2∨ex=3:=by exact ag 0 1 (aa (aT (ai bV aq) (ai aq (bh bV jQ))) (lpo (aS aq bV) (lpo (aS aq jQ) (aS aq (zk 3))))) (by kd_p) h3
   rcases h2 with rfl|rfl|rfl<;>rcases this with rfl|rfl|rfl<;>simp_all
  ·have:ex=1∨ex=2∨ex=3∨ex=4:=by exact ag 0 1 (aa (aT (ai bV aq) (ai aq (bh jQ jQ))) (lpo (aS aq bV) (lpo (aS aq jQ) (lpo (aS aq (zk 3)) (aS aq (zk 4)))))) (by kd_p) h3
   rcases h2 with rfl|rfl|rfl<;>rcases this with rfl|rfl|rfl|rfl<;>simp_all
 exact⟨h1,by exact ag 0 1 (aa (lpo (aS aq aJ) (lpo (aS aq bV) (aS aq jQ))) (aT (ai aJ aq) (ai aq jQ))) (by kd_p) h2,by exact ag 0 3 (aa (lpo (aS aK bV) (aS aK jQ)) (aa (lpo (aS aq aJ) (lpo (aS aq bV) (aS aq jQ))) (aa (aT (ai bV cu) (ai cu (bh aK jQ))) (aT (ai bV cu) (ai cu (zk 4)))))) (by kd_p) h1 h2 h3,yJ hl⟩
section
local macro_rules | `(tactic| kd_all) => `(tactic| repeat (first | kd_in | refine ⟨by first | exact .lit rfl | exact .of (by simp), ?_⟩))
noncomputable def qS:V:=.list (kN.map .str)
structure m4(U:aw)(cs:List Int)(fi mi x y z:Int)(s:Nat×Nat×Nat)(ah:List Nat):Prop where
 c:get U 60=some (.list (cs.map .int))
 f:get U 63=some (.int fi)
 e:get U 127=some qS
 m:get U 130=some (.int mi)
 p:get U 69=some (.list [.int x,.int y,.int z])
 s:get U 68=some (.list ((rowsOf s).map .int))
 o:get U 113=some (.int (ah.count 1:Nat))
 t:get U 112=some (.int (ah.count 2:Nat))
theorem m4.set{U:aw}{cs:List Int}{fi mi x y z:Int}{s:Nat×Nat×Nat}{ah:List Nat}(h:m4 U cs fi mi x y z s ah){k:Nat}{v:V}(hk:k∉[60,63,127,130,69,68,113,112]):m4 (bg.set U k v) cs fi mi x y z s ah:=by
 simp only[List.mem_cons,List.not_mem_nil,or_false,not_or]at hk;refine DK hk ?_;clear hk;intro k1 k2 k3 k4 k5 k6 k7 k8;exact⟨by rw[get_set,if_neg k1];exact h.c,by rw[get_set,if_neg k2];exact h.f,by rw[get_set,if_neg k3];exact h.e,by rw[get_set,if_neg k4];exact h.m,by rw[get_set,if_neg k5];exact h.p,by rw[get_set,if_neg k6];exact h.s,by rw[get_set,if_neg k7];exact h.o,by rw[get_set,if_neg k8];exact h.t⟩
noncomputable def sH(c:Int):Int:=(c+50).fmod 100-50
noncomputable def sI(c0 c1:Int):Int:=sH c0+1+c1.fmod 100
noncomputable def Cb(c0 c1 c2:Int):Int:=sI c0 c1+1+c2.fmod 100
theorem Sr(ah:List Nat):(ah.map fun(n:Nat)=>V.int n)=(ah.map (fun(n:Nat)=>(n:Int))).map .int:=by rw[List.map_map];rfl
theorem count_cast(ah:List Nat)(k:Nat):(ah.map (fun(n:Nat)=>(n:Int))).count (k:Int)=ah.count k:=by
 induction ah with
 |nil=>rfl
 |cons x r ih=>
  rw[List.map_cons,List.count_cons,List.count_cons,ih]
  congr 1
  by_cases h:x=k
  ·simp[h]
  ·have:¬ ((x:Int)=(k:Int)):=by exact MX h
   simp[h,this]
theorem Fn(c:Int):(bJ.map fun l=>V.list (l.map fun(n:Nat)=>V.int n))[cE (c.fmod 5) (bJ.map fun l=>V.list (l.map fun(n:Nat)=>V.int n)).length]?=some (.list ((fG c).map fun(n:Nat)=>V.int n)):=by
 have hb:0≤c.fmod 5∧c.fmod 5<5:=by rw[nW _ (by decide)];exact TB
 have e:c.fmod 5=(((c.fmod 5).toNat:Nat):Int):=by exact NJ hb
 have hk:(c.fmod 5).toNat<bJ.length:=by show _<5;exact ag 0 1 (aa (aT (ai aJ aq) (aM aq (zk 5))) (aa (aS aq (az (dz aq))) (ak (dz aq) (nk 5)))) (by kd_p) hb e
 rw[e,gT,List.getElem?_map,List.getElem?_eq_getElem hk];unfold fG;rw[List.getD_eq_getElem?_getD,List.getElem?_eq_getElem hk]
 rfl
theorem jj(c:Int)(k:Int)(h:0<k):0≤c.fmod k∧c.fmod k<k:=by
 rw[nW _ h];exact⟨Int.emod_nonneg _ (by exact yR h),Int.emod_lt_of_pos _ h⟩
theorem rT{n:Nat}{O:Mu}{Q:V→Mu→Prop}{ah:List Nat}{k:Nat}(q:Q (.int (ah.count k:Nat)) O):aU G n (.builtin "list.count") [.list (ah.map fun(n:Nat)=>V.int n),.int (k:Int)] [] O Q:=by
 rw[Sr];refine dQ ?_;rw[count_cast];exact q
theorem Xk(r:aw)(a b c:V):bc r ([70,73,88].reverse.zip [a,b,c].reverse)=bg.set (bg.set (bg.set r 88 c) 73 b) 70 a:=rfl
theorem Xl(r:aw)(a b:V):bc r ([113,112].reverse.zip [a,b].reverse)=bg.set (bg.set r 112 b) 113 a:=rfl
noncomputable def nL:Ss:=(.cons (.asg (.name 68) (.list false (.cons (.bin .Add (.bin .Add (.bin .Mod (.sub (.var 60) (.int 3)) (.int 3)) (.bin .Mod (.bin .FloorDiv (.sub (.var 60) (.int 3)) (.int 3)) (.int 3))) (.var 129)) (.cons (.bin .Add (.bin .Mod (.bin .FloorDiv (.sub (.var 60) (.int 3)) (.int 3)) (.int 3)) (.var 129)) (.cons (.var 129) .nil))))) (.cons (.asg (.name 76) (.sub (.list false (.cons (.list false (.cons (.int 2) (.cons (.int 1) .nil))) (.cons (.list false (.cons (.int 2) (.cons (.int 1) (.cons (.int 1) .nil)))) (.cons (.list false (.cons (.int 2) (.cons (.int 2) (.cons (.int 1) .nil)))) (.cons (.list false (.cons (.int 1) (.cons (.int 1) .nil))) (.cons (.list false (.cons (.int 2) (.cons (.int 2) .nil))) .nil)))))) (.bin .Mod (.sub (.var 60) (.int 4)) (.int 5)))) (.cons (.kz [70,73,88] (.tup (.cons (.bin .Add (.int 1) (.bin .Mod (.bin .FloorDiv (.sub (.var 60) (.int 5)) (.int 16)) (.int 2))) (.cons (.bin .Mod (.bin .FloorDiv (.sub (.var 60) (.int 5)) (.int 32)) (.int 3)) (.cons (.bin .Add (.int 1) (.bin .Mod (.bin .FloorDiv (.sub (.var 60) (.int 5)) (.int 96)) (.bin .Add (.int 3) (.bin .Mod (.bin .FloorDiv (.sub (.var 60) (.int 5)) (.int 16)) (.int 2))))) .nil))))) (.cons (.kz [113,112] (.tup (.cons (.cA (.var 76) "count" (.cons (.int 1) .nil)) (.cons (.cA (.var 76) "count" (.cons (.int 2) .nil)) .nil)))) (.cons (.asg (.name 74) (.call (.glob 128) (.cons (.var 76) (.cons (.var 70) (.cons (.var 73) (.cons (.var 88) .nil)))))) (.cons (.iff (.cmp .NotEq (.call (.glob 6) (.cons (.var 74) .nil)) (.bin .FloorDiv (.bin .Mult (.bin .Mult (.bin .Add (.var 113) (.int 1)) (.bin .Add (.var 112) (.int 1))) (.bin .Add (.bin .Add (.var 113) (.var 112)) (.int 2))) (.int 2))) (.cons (.ret (.bool false)) .nil) .nil) (.cons (.asg (.g9 (.name 102) (.name 105)) (.tup (.cons (.list true .nil) (.cons (.list true .nil) .nil)))) .nil)))))))
noncomputable def nM:Ss:=(.cons (.asg (.name 129) (.za (.cmp .Lt (.bin .Mod (.sub (.var 60) (.int 3)) (.int 9)) (.int 4)) (.bin .Mod (.bin .FloorDiv (.sub (.var 60) (.int 3)) (.int 9)) (.int 2)) (.int 0))) nL)
theorem Cc(hG:bx G){n:Nat}{U:aw}{O:Mu}{K:Fl→aw→Mu→Prop}{c0 c1 c2 c3 c4 c5 fi mi x y z:Int}
  (ye:get U 60=some (.list ([c0,c1,c2,c3,c4,c5].map .int)))(Fo:get U 63=some (.int fi))(Dw:get U 127=some qS)(xg:get U 130=some (.int mi))(Su:get U 69=some (.list [.int x,.int y,.int z]))(aaj:get U 129=some (.int (fV c3)))
  (hK:∀U,m4 U [c0,c1,c2,c3,c4,c5] fi mi x y z (shapeOf c3) (fG c4)→get U 74=some (cF (fillAll (fG c4)))→
   get U 102=some (.ml O.length)→get U 105=some (.ml (O.length+1))→K .next U (O++[some []]++[some []])):
  aX G bX (n+5) nL U O K:=by
 have l6:cp ([c0,c1,c2,c3,c4,c5].map V.int).length:=.of (by simp)
 unfold nL;kd_all;refine V_at (v:=.int c3) rfl (by simp) l6 ?_
 kd_all;refine dB (by decide) ?_
 kd_all;refine V_at (v:=.int c3) rfl (by simp) l6 ?_
 kd_all;refine dO ⟨by decide,by decide +kernel⟩ ?_
 kd_all;refine dB (by decide) ?_
 kd_all;refine V_at (v:=.int c3) rfl (by simp) l6 ?_
 kd_all;refine dO ⟨by decide,by decide +kernel⟩ ?_
 kd_all;refine dB (by decide) ?_
 kd_all;refine V_at (v:=.int c4) rfl (by simp) l6 ?_
 kd_all;refine dB (by decide) ?_
 show gf _ _ (.list (bJ.map fun l=>V.list (l.map fun(n:Nat)=>V.int n))) _ _ _;refine V_at (Fn c4) (by have:=jj c4 5 (by decide);simp;exact NK this) (.of (by decide)) ?_
 have Xm:=xf c4;have Mk:=List.all_eq_true.mp xd _ Xm;have hU:=Mj c5;have hW:=List.all_eq_true.mp BX _ Xm;generalize aaa:fG c4=ah at *;kd_all;refine V_at (v:=.int c5) rfl (by simp) l6 ?_
 kd_all;refine dO ⟨by decide,by decide +kernel⟩ ?_
 kd_all;refine dB (by decide) ?_
 kd_all;refine V_at (v:=.int c5) rfl (by simp) l6 ?_
 kd_all;refine dO ⟨by decide,by decide +kernel⟩ ?_
 kd_all;refine dB (by decide) ?_
 kd_all;refine V_at (v:=.int c5) rfl (by simp) l6 ?_
 kd_all;refine dO ⟨by decide,by decide +kernel⟩ ?_
 kd_all;refine V_at (v:=.int c5) rfl (by simp) l6 ?_
 kd_all;refine dO ⟨by decide,by decide +kernel⟩ ?_
 kd_all;refine dB (by decide) ?_
 kd_all;refine dB (by have:=jj (c5.fdiv 16) 2 (by decide);exact ag 0 1 (aa (aT (ai aJ aq) (aM aq jQ)) (fH (bh (zk 3) aq) aJ)) (by kd_p) this) ?_
 kd_all;rw[Xk];refine bB ?_;kd_all;refine⟨_,dr,?_⟩;kd_all;refine rT (k:=1) ?_;kd_all;refine bB ?_;kd_all;refine⟨_,dr,?_⟩;kd_all;refine rT (k:=2) ?_;kd_all;rw[Xl];kd_all;refine CK hG (qP hG (n:=n) (jM Mk) hU ?_);kd_all;refine cM (cp.of (by have:=(jM Mk).fs (ah.length-1) (by have:=(jM Mk).ne;exact ag 1 0 (aa (ak b6 ab) (ak (bb ab aC) ab)) (by kd_p) this);rw[List.length_map];exact Nat.le_trans this.2 (by decide))).ok ?_
 kd_all;have JB:=(jM Mk).le;have n1:ah.count 1≤5:=Nat.le_trans List.count_le_length JB;have n2:ah.count 2≤5:=Nat.le_trans List.count_le_length JB;have vm:(2:Nat) ^ 10=1024:=by decide
 have s1:Sz 10 ((ah.count 1:Nat)+1:Int):=by unfold Sz;exact NL n1
 have s2:Sz 10 ((ah.count 2:Nat)+1:Int):=by unfold Sz;exact NL n2
 have s3:Sz 10 ((ah.count 1:Nat)+(ah.count 2:Nat)+2:Int):=by unfold Sz;exact ag 2 0 (aa (ae af (nk 5)) (aa (ae ab (nk 5)) (ak (gD (bh (bh (az af) (az ab)) jQ)) (nk (2 ^ 10))))) (by kd_p) n1 n2
 refine gg (gZ.sz s1 s2 (by decide)) ?_
 kd_all;refine gg (gZ.sz (s1.mul s2) s3 (by decide)) ?_
 kd_all;refine dO ⟨by decide,by decide +kernel⟩ ?_
 kd_all;rw[List.length_map];have hW:=of_decide_eq_true hW;rw[show(((fillAll ah).length:Int) !=((((ah.count 1:Nat):Int)+1)*(((ah.count 2:Nat):Int)+1)*(((ah.count 1:Nat):Int)+((ah.count 2:Nat):Int)+2)).fdiv 2)=false by rw[←hW];simp]
 kd_all;refine qO (fun x m=>nomatch m) ?_;kd_all;refine qO (fun x m=>nomatch m) ?_;kd_all;rw[List.length_append];refine hK _ ⟨?_,?_,?_,?_,?_,?_,?_,?_⟩ ?_ ?_ ?_<;>(repeat(rw[get_set,if_neg (by decide)]))<;>first|assumption|(rw[get_set,if_pos rfl];done)|(rw[get_set,if_pos rfl];rfl)|(rw[get_set,if_pos (by decide)];rfl)|skip
 ·rw[get_set,if_pos rfl,Af];rfl
theorem Ce(hG:bx G){n:Nat}{U:aw}{O:Mu}{K:Fl→aw→Mu→Prop}{c0 c1 c2 c3 c4 c5 fi mi x y z:Int}
  (ye:get U 60=some (.list ([c0,c1,c2,c3,c4,c5].map .int)))(Fo:get U 63=some (.int fi))(Dw:get U 127=some qS)(xg:get U 130=some (.int mi))(Su:get U 69=some (.list [.int x,.int y,.int z]))
  (hK:∀U,m4 U [c0,c1,c2,c3,c4,c5] fi mi x y z (shapeOf c3) (fG c4)→get U 74=some (cF (fillAll (fG c4)))→
   get U 102=some (.ml O.length)→get U 105=some (.ml (O.length+1))→K .next U (O++[some []]++[some []])):
  aX G bX (n+5) nM U O K:=by
 have l6:cp ([c0,c1,c2,c3,c4,c5].map V.int).length:=.of (by simp)
 have fin:∀tv,tv=fV c3→aX G bX (n+5) nL (bg.set U 129 (.int tv)) O K:=by
  rintro zz rfl;exact Cc hG (gn ye) (gn Fo) (gn Dw) (gn xg) (gn Su) (gs) hK
 unfold nM;kd_all;refine V_at (v:=.int c3) rfl (by simp) l6 ?_
 kd_all;refine dB (by decide) ?_
 kd_all
 by_cases h:c3.fmod 9<4
 ·rw[decide_eq_true h]
  kd_all;refine V_at (v:=.int c3) rfl (by simp) l6 ?_
  kd_all;refine dO ⟨by decide,by decide +kernel⟩ ?_
  kd_all;refine dB (by decide) ?_
  kd_all;exact fin _ (by unfold fV;rw[if_pos h])
 ·rw[decide_eq_false h]
  kd_all;exact fin _ (by unfold fV;rw[if_neg h])
noncomputable def nN:Ss:=(.cons (.asg (.name 69) (.za (.cmp .Eq (.bin .Mod (.bin .FloorDiv (.sub (.var 60) (.int 5)) (.int 7680)) (.int 2)) (.int 0)) (.var 69) (.slice (.var 69) .no .no (.neg (.int 1))))) nM)
noncomputable def qT:Ss:=(.cons (.asg (.name 60) (.call (.glob 131) (.cons (.var 62) .nil))) (.cons (.kz [63,127] (.tup (.cons (.bin .Sub (.bin .Mod (.bin .Add (.sub (.var 60) (.int 0)) (.int 50)) (.int 100)) (.int 50)) (.cons (.list false (.cons (.str "") (.cons (.str "\"") (.cons (.str "\\") (.cons (.str "\"()") (.cons (.str "\"(") .nil)))))) .nil)))) (.cons (.asg (.name 130) (.bin .Add (.bin .Add (.var 63) (.int 1)) (.bin .Mod (.sub (.var 60) (.int 1)) (.int 100)))) (.cons (.asg (.name 69) (.list false (.cons (.var 63) (.cons (.var 130) (.cons (.bin .Add (.bin .Add (.var 130) (.int 1)) (.bin .Mod (.sub (.var 60) (.int 2)) (.int 100))) .nil))))) nN))))
noncomputable def u5:Ss:=qT
theorem Ag:u5=qT:=rfl
theorem Sv(r:aw)(a b:V):bc r ([63,127].reverse.zip [a,b].reverse)=bg.set (bg.set r 127 b) 63 a:=rfl
theorem Cf(hG:bx G){n:Nat}{U:aw}{O:Mu}{K:Fl→aw→Mu→Prop}{c0 c1 c2 c3 c4 c5 fi mi x y z:Int}
  (ye:get U 60=some (.list ([c0,c1,c2,c3,c4,c5].map .int)))(Fo:get U 63=some (.int fi))(Dw:get U 127=some qS)(xg:get U 130=some (.int mi))(Su:get U 69=some (.list [.int x,.int y,.int z]))
  (hK:∀U x' z',(x'=x∧z'=z∨x'=z∧z'=x)→m4 U [c0,c1,c2,c3,c4,c5] fi mi x' y z' (shapeOf c3) (fG c4)→get U 74=some (cF (fillAll (fG c4)))→
   get U 102=some (.ml O.length)→get U 105=some (.ml (O.length+1))→K .next U (O++[some []]++[some []])):
  aX G bX (n+5) nN U O K:=by
 have l6:cp ([c0,c1,c2,c3,c4,c5].map V.int).length:=.of (by simp)
 have fin:∀x' z',(x'=x∧z'=z∨x'=z∧z'=x)→aX G bX (n+5) nM (bg.set U 69 (.list [.int x',.int y,.int z'])) O K:=by
  intro x' z' h;exact Ce hG (gn ye) (gn Fo) (gn Dw) (gn xg) (gs) fun U hL=>hK U x' z' h hL
 unfold nN;kd_all;refine V_at (v:=.int c5) rfl (by simp) l6 ?_
 kd_all;refine dO ⟨by decide,by decide +kernel⟩ ?_
 kd_all;refine dB (by decide) ?_
 kd_all;unfold Ur;split
 ·kd_all
  exact fin x z (.inl ⟨rfl,rfl⟩)
 ·kd_all
  refine tP (by decide) (gM.of (by simp)) ?_
  rw[xe];kd_all;exact fin z x (.inr ⟨rfl,rfl⟩)
theorem Fp(hG:bx G){n:Nat}{U:aw}{O:Mu}{K:Fl→aw→Mu→Prop}{xs:List Int}(hx:xs.length≤100000)
  (Xn:get U 62=some (.list (xs.map .int)))
  (hK:∀U c0 c1 c2 c3 c4 c5 x z,(x=sH c0∧z=Cb c0 c1 c2∨x=Cb c0 c1 c2∧z=sH c0)→m4 U [c0,c1,c2,c3,c4,c5] (sH c0) (sI c0 c1) x (sI c0 c1) z (shapeOf c3) (fG c4)→get U 74=some (cF (fillAll (fG c4)))→
   get U 102=some (.ml O.length)→get U 105=some (.ml (O.length+1))→K .next U (O++[some []]++[some []])):
  aX G bX (n+5) u5 U O K:=by
 rw[Ag];refine GC (B9 xs) ?_;intro c0 c1 c2 c3 c4 c5 hc;have l6:cp ([c0,c1,c2,c3,c4,c5].map V.int).length:=.of (by simp)
 have fin:∀U:aw,get U 60=some (.list ([c0,c1,c2,c3,c4,c5].map .int))→get U 63=some (.int (sH c0))→get U 127=some qS→get U 130=some (.int (sI c0 c1))→get U 69=some (.list [.int (sH c0),.int (sI c0 c1),.int (Cb c0 c1 c2)])→aX G bX (n+5) nN U O K:=by
  intro U Ez zF JC Xo JD;exact Cf hG Ez zF JC Xo JD fun U x' z' h=>hK U c0 c1 c2 c3 c4 c5 x' z' h
 unfold qT;kd_all;refine CK hG (vG hG (n:=n+4) hx ?_);rw[hc];kd_all;refine V_at (v:=.int c0) rfl (by simp) l6 ?_
 kd_all;refine dB (by decide) ?_
 kd_all;rw[Sv];kd_all;refine V_at (v:=.int c1) rfl (by simp) l6 ?_
 kd_all;refine dB (by decide) ?_
 kd_all;refine V_at (v:=.int c2) rfl (by simp) l6 ?_
 kd_all;refine dB (by decide) ?_
 kd_all;refine fin _ ?_ ?_ ?_ ?_ ?_<;>(repeat(rw[get_set,if_neg (by decide)]))<;>rw[get_set,if_pos rfl]<;>rfl
theorem Cg(upper hide:Int)(k:Nat)(l:Int):pieceOf upper (hide%8) k l=pieceOf upper hide k l:=by
 have:((hide%8)+3*(k:Int)).emod 8=(hide+3*(k:Int)).emod 8:=by show(hide%8+3*(k:Int))%8=(hide+3*(k:Int))%8;exact TF
 unfold pieceOf;rw[this]
theorem rU(upper hide:Int):∀ (ls:List Int) (k:Nat) (t:Str),jg upper (hide%8) k t ls=jg upper hide k t ls
 |[],k,t=>rfl
 |l::ls,k,t=>by
  show jg upper (hide%8) (k+1) (t++pieceOf upper (hide%8) k l) ls=jg upper hide (k+1) (t++pieceOf upper hide k l) ls;rw[Cg,rU upper hide ls]
theorem Fq(ls:List Int)(rise upper hide:Int):textOf ls rise upper ((((hide%8).toNat:Nat)):Int)=textOf ls rise upper hide:=by
 have:((((hide%8).toNat:Nat)):Int)=hide%8:=by exact TG
 rw[this];unfold textOf;rw[rU]
theorem foldl_min:∀ (l:List Int) (a:Int),l.foldl min a≤a∧(∀x∈l,l.foldl min a≤x)∧(l.foldl min a=a∨l.foldl min a∈l)
 |[],a=>⟨Int.le_refl _,(fun x h=>nomatch h),.inl rfl⟩
 |y::l,a=>by
  refine qa (foldl_min l (min a y)) ?_;intro h1 h2 h3;rw[List.foldl_cons];refine⟨by omega,fun x hx=>?_,?_⟩
  ·rcases List.mem_cons.mp hx with rfl|hx
   ·omega
   ·exact h2 x hx
  ·rcases h3 with h3|h3
   ·rw[h3]
    by_cases h:a≤y
    ·left;exact ag 0 3 (aa (aS aq (Aw cu aK)) (aa (ai cu aK) (aS (Aw cu aK) cu))) (by kd_p) h3 h
    ·right;rw[show min a y=y by exact ag 0 3 (aa (aS aq (Aw cu aK)) (aa (dH (ai cu aK)) (aS (Aw cu aK) aK))) (by kd_p) h3 h];exact .head _
   ·right;exact .tail _ h3
theorem Ci(ls:List Int)(rise upper:Int):eE ls rise upper∈uX ls rise upper:=by
 unfold eE;rcases(foldl_min (uX ls rise upper) rise).2.2 with h|h
 ·rw[h]
  unfold uX;exact List.mem_map.mpr ⟨0,List.mem_range.mpr (by exact ag 1 0 (ak b6 (aj ab aC)) (by kd_p)),by simp⟩
 ·exact h
theorem least_le(ls:List Int)(rise upper:Int):∀a∈uX ls rise upper,eE ls rise upper≤a:=(foldl_min _ _).2.1
theorem u6(k:Nat):∀ (xs ys:List Int),xs.length=ys.length→gv (List.zipWith (dN (k+1)) (xs.map .int) (ys.map .int))=some (decide (xs=ys))
 |[],[],_=>rfl
 |x::xs,y::ys,h=>by
  have:=u6 k xs ys (by simpa using h)
  rw[List.map_cons,List.map_cons,List.zipWith_cons_cons,pU];generalize List.zipWith (dN (k+1)) (xs.map V.int) (ys.map V.int)=l at *
  by_cases r7:x=y
  ·simp[gv,this,r7]
  ·simp[gv,this,r7]
theorem Cj(k:Nat)(xs ys:List Int):dN (k+2) (.list (xs.map .int)) (.list (ys.map .int))=some (decide (xs=ys)):=by
 unfold dN;simp only[List.length_map]
 by_cases h:xs.length=ys.length
 ·rw[if_pos h];exact u6 k xs ys h
 ·rw[if_neg h]
  have:xs≠ys:=fun e=>h (by rw[e])
  simp[this]
noncomputable def e7(r:List Int):V:=.list (r.map .int)
theorem u7:∀ (A B:List (List Int)),A.length=B.length→gv (List.zipWith (dN 49) (A.map e7) (B.map e7))=some (decide (A=B))
 |[],[],_=>rfl
 |x::xs,y::ys,h=>by
  have:=u7 xs ys (by simpa using h)
  rw[List.map_cons,List.map_cons,List.zipWith_cons_cons];unfold e7 at *;rw[Cj];generalize List.zipWith (dN 49) (xs.map _) (ys.map _)=l at *
  by_cases r7:x=y
  ·simp[gv,this,r7]
  ·simp[gv,this,r7]
theorem Fs(A B:List (List Int)):dN 50 (.list (A.map e7)) (.list (B.map e7))=some (decide (A=B)):=by
 unfold dN;simp only[List.length_map]
 by_cases h:A.length=B.length
 ·rw[if_pos h];exact u7 A B h
 ·rw[if_neg h]
  have:A≠B:=fun e=>h (by rw[e])
  simp[this]
theorem Ah{x:Str}(h:asc x=true):x.cps.all (· < 128)=true:=by
 unfold asc at h;rw[←Array.all_toList];refine List.all_eq_true.mpr fun c hc=>?_;have:=List.all_eq_true.mp h c hc;simpa[Nat.blt_eq] using this
theorem Ml{ah:List Nat}(hl:ah∈bJ){f:List (List Int)}(hf:f∈fillAll ah){r:Nat}(hr:r<3){u:Int}(hu:u=1∨u=2)(hide:Int){e:Str}(he:e∈kN):
  Mg (textOf (aD f) r u hide++e) (decide (0≤eE (aD f) r u)&&(e !=Str.ofString "\"("))=true:=by
 have h:=Mi (hide%8).toNat (by exact TH) r hr
 have h:=List.all_eq_true.mp (List.all_eq_true.mp h ah hl) f hf;have h:Mh (aD f) r u ((hide%8).toNat:Nat)=true:=by
  rcases hu with rfl|rfl
  ·exact(Bool.and_eq_true_iff.mp h).1
  ·exact(Bool.and_eq_true_iff.mp h).2
 unfold Mh at h;rw[Fq]at h;exact List.all_eq_true.mp h e he
noncomputable def JE(f:List (List Int)):Bool:=decide (f.length≤10)&&f.all (fun c=>decide (c.length≤3))&&decide ((aD f).length≤10)
theorem u9:(bJ.all fun l=>(fillAll l).all JE&&decide ((fillAll l).length≤100))=true:=by decide +kernel
theorem lS{ah:List Nat}(hl:ah∈bJ){f:List (List Int)}(hf:f∈fillAll ah):f.length≤10∧(∀c∈f,c.length≤3)∧(aD f).length≤10:=by
 have h:=(Bool.and_eq_true_iff.mp (List.all_eq_true.mp u9 ah hl)).1;have h:=List.all_eq_true.mp h f hf;unfold JE at h;simp only[Bool.and_eq_true,decide_eq_true_eq]at h;exact⟨h.1.1,fun c hc=>of_decide_eq_true (List.all_eq_true.mp h.1.2 c hc),h.2⟩
theorem Ft{ah:List Nat}(hl:ah∈bJ):(fillAll ah).length≤100:=of_decide_eq_true (Bool.and_eq_true_iff.mp (List.all_eq_true.mp u9 ah hl)).2
theorem qU{m:List (List Int×Int)}{i:Nat}{p:List Int×Int}(h:m[i]?=some p):dw m i=p.1:=by
 unfold dw;rw[List.getD_eq_getElem?_getD,h]
 rfl
theorem kn(m:List (List Int×Int)):Keyed (m.map bT) (dw m):=by
 intro i v hv;rw[List.getElem?_map]at hv;refine aW (Option.map_eq_some_iff.mp hv) ?_;intro p hp z1;subst z1;exact⟨[.list (p.1.map .int),.int p.2],rfl,by rw[qU hp];rfl,by simp⟩
theorem Fu(m:List (List Int×Int))(p:List Int×Int):(m.map bT).take (cO (fun i=>fj p.1 (dw m i)) (m.map bT).length 0 (m.map bT).length)++bT p::(m.map bT).drop (cO (fun i=>fj p.1 (dw m i)) (m.map bT).length 0 (m.map bT).length)=(mY m p).map bT:=by
 unfold mY;rw[List.length_map,List.map_append,List.map_cons,List.map_take,List.map_drop]
theorem Fv(m:List (List Int×Int))(p:List Int×Int):(mY m p).length=m.length+1:=by
 unfold mY;generalize cO _ _ _ _=k;simp only[List.length_append,List.length_cons,List.length_take,List.length_drop];exact ag 2 0 (ax (aj (jP af ab) (aj (bb ab af) aC)) (aj ab aC)) (by kd_p)
noncomputable def lT(s:Nat×Nat×Nat)(f:List (List Int))(t:Nat)(m:List (List Int×Int)):List (List Int×Int):=if pY s (aD f) then mY m (bF s (aD f),-(t:Int)) else m
theorem p5(s:Nat×Nat×Nat)(f:List (List Int)):∀ (l:List (List (List Int))) (t:Nat) (m:List (List Int×Int)),ji s (l++[f]) t m=lT s f (t+l.length) (ji s l t m)
 |[],t,m=>rfl
 |g::l,t,m=>by
  show ji s (l++[f]) (t+1) _=lT s f (t+(l.length+1)) (ji s l (t+1) _);rw[p5 s f l,show t+1+l.length=t+(l.length+1) by exact Ny]
theorem rV(s:Nat×Nat×Nat):∀ (l:List (List (List Int))) (t:Nat) (m:List (List Int×Int)),(ji s l t m).length≤m.length+l.length
 |[],t,m=>Nat.le_refl _
 |g::l,t,m=>by
  refine Nat.le_trans (rV s l (t+1) _) ?_;split
  ·rw[Fv,List.length_cons];exact ag 2 0 (ae (aj (aj af aC) ab) (aj af (aj ab aC))) (by kd_p)
  ·rw[List.length_cons];exact ag 2 0 (ae (aj af ab) (aj af (aj ab aC))) (by kd_p)
theorem nO{s:Nat×Nat×Nat}(hs:s∈bZ){ah:List Nat}(hl:ah∈bJ):
  (∀f∈fillAll ah,yH s f=true)∧pZ (aF s ah)=true∧1≤(aF s ah).length∧(aF s ah).length<64∧Xi s ah=true:=by
 have h:=List.all_eq_true.mp (Fj s hs) ah hl;unfold gr at h;simp only[Bool.and_eq_true,decide_eq_true_eq]at h;exact⟨fun f hf=>List.all_eq_true.mp h.1.1.1.1 f hf,h.1.1.1.2,h.1.1.2,h.1.2,h.2⟩
theorem str_len(a b:Str):(a++b).length=a.length+b.length:=by
 show(a.cps++b.cps).size=a.cps.size+b.cps.size;rw[Array.size_append]
theorem eg{U:aw}{x:Nat}:∀ {fr:List Nat},x∈fr→get (cz U fr) x=get U x
 |y::fr,h=>by
  unfold cz
  by_cases e:y=x
  ·subst e
   cases q:get U y with
   |none=>
    show get (cz U fr) y=none
    by_cases m:y∈fr
    ·rw[eg m,q]
    ·clear h
     induction fr with
     |nil=>rfl
     |cons z fr ih=>
      have mz:¬ z=y:=fun e=>m (by rw[e];exact .head _)
      have mf:y∉fr:=fun h=>m (.tail _ h);unfold cz;cases get U z with
      |none=>exact ih mf
      |some v=>show get ((z,v)::cz U fr) y=none;rw[nH,if_neg mz];exact ih mf
   |some v=>show get ((y,v)::cz U fr) y=some v;rw[nH,if_pos rfl]
  ·have h:x∈fr:=by
    rcases List.mem_cons.mp h with rfl|h
    ·exact absurd rfl e
    ·exact h
   cases q:get U y with
   |none=>exact eg h
   |some v=>show get ((y,v)::cz U fr) x=_;rw[nH,if_neg e];exact eg h
noncomputable def jk(s:Nat×Nat×Nat)(u:Int):Nat:=if u=1 then s.1 else s.2.1
theorem Mm{s:Nat×Nat×Nat}(h:s∈bZ)(u:Int):jk s u<3:=by
 have key:bZ.all (fun s=>decide (s.1<3)&&decide (s.2.1<3))=true:=by decide
 have:=List.all_eq_true.mp key s h;simp only[Bool.and_eq_true,decide_eq_true_eq]at this;unfold jk;split<;>(first|exact ag 2 0 (aa (aT (ak af cm) (ak ab cm)) (ak af cm)) (by kd_p) this|exact ag 2 0 (aa (aT (ak ab cm) (ak af cm)) (ak af cm)) (by kd_p) this)
theorem Ck(s:Nat×Nat×Nat){u:Int}(hu:u=1∨u=2):∃p q:Int,((rowsOf s).map V.int)[cE (u-1) ((rowsOf s).map V.int).length]?=some (.int p)∧((rowsOf s).map V.int)[cE u ((rowsOf s).map V.int).length]?=some (.int q)∧p-q=((jk s u:Nat):Int):=by
 rcases hu with rfl|rfl
 ·exact⟨_,_,rfl,rfl,by show((s.1+s.2.1+s.2.2:Nat):Int)-((s.2.1+s.2.2:Nat):Int)=(s.1:Int);exact ag 3 0 (aS (bR (az (aj (aj au af) ab)) (az (aj af ab))) (az au)) (by kd_p)⟩
 ·exact⟨_,_,rfl,rfl,by show((s.2.1+s.2.2:Nat):Int)-((s.2.2:Nat):Int)=(s.2.1:Int);exact ag 2 0 (aS (bR (az (aj af ab)) (az ab)) (az af)) (by kd_p)⟩
noncomputable def Cm:Ss:=(.cons (.iff (.cmp .IsNot (.call (.glob 123) (.cons (.bin .Add (.call (.glob 124) (.cons (.var 92) (.cons (.var 91) (.cons (.var 93) (.cons (.sub (.var 60) (.int 5)) .nil))))) (.var 125)) .nil)) (.v9 (.cmp .GtE (.var 122) (.int 0)) (.cmp .NotEq (.var 125) (.str "\"(")))) (.cons (.ret (.bool false)) .nil) .nil) (.cons (.asg (.name 118) (.v9 (.var 118) (.cmp .GtE (.var 122) (.int 0)))) .nil))
noncomputable def JF:Ss:=(.cons (.asg (.name 91) (.bin .Sub (.sub (.var 68) (.bin .Sub (.var 93) (.int 1))) (.sub (.var 68) (.var 93)))) (.cons (.asg (.name 122) (.call (.glob 126) (.cons (.ey false (.bin .Sub (.bin .Add (.var 91) (.cA (.slice (.var 92) .no (.var 80) .no) "count" (.cons (.var 93) .nil))) (.cA (.slice (.var 92) .no (.var 80) .no) "count" (.cons (.bin .Add (.var 93) (.int 1)) .nil))) 80 (.call (.glob 57) (.cons (.bin .Add (.call (.glob 6) (.cons (.var 92) .nil)) (.int 1)) .nil)) .nil [91,92,93] [80]) .nil))) Cm))
theorem Mn(hG:bx G)(dS:∀a∈tabs,G.Bs a=none){n:Nat}{U:aw}{O:Mu}{K:Fl→aw→Mu→Prop}{ls:List Int}{r u le c0 c1 c2 c3 c4 c5:Int}{e:Str}{k:Bool}
  (nX:get U 92=some (.list (ls.map .int)))(g91:get U 91=some (.int r))(Xp:get U 93=some (.int u))(ye:get U 60=some (.list ([c0,c1,c2,c3,c4,c5].map .int)))(Dx:get U 125=some (.str e))(va:get U 118=some (.bool k))(aak:get U 122=some (.int le))
  (Fw:ls.length≤100)(hr : -100≤r∧r≤100)(JG:Mg (textOf ls r u c5++e) (decide (0≤le)&&(e !=Str.ofString "\"("))=true)
  (hK:K .next (bg.set U 118 (.bool (k&&decide (0≤le)))) O):aX G bX (n+10) Cm U O K:=by
 have l6:cp ([c0,c1,c2,c3,c4,c5].map V.int).length:=.of (by simp)
 unfold Mg at JG;simp only[Bool.and_eq_true,Nat.ble_eq]at JG;obtain⟨⟨⟨h1,h2⟩,h3⟩,h4⟩:=JG;have h3':=h3;rw[str_len]at h3';have h1:=eq_of_beq h1;unfold Cm;kd_all;refine V_at (v:=.int c5) rfl (by simp) l6 ?_
 kd_all;refine CK hG (yg hG (n:=n+9) Fw hr ?_);kd_all;refine ja (lY.small (by omega) (by omega)) ?_
 kd_all;refine CK hG (E2 hG dS (n:=n) (Ah h2) h3 (Ah h4) ?_);rw[h1];kd_all
 by_cases hl:0≤le
 ·rw[decide_eq_true hl]at *
  kd_all;rw[Bool.true_and,bne_self_eq_false];kd_all;cases k<;>kd_all<;>first|exact hK|(rw[decide_eq_true hl];exact hK)
 ·rw[decide_eq_false hl]at *
  kd_all;rw[Bool.false_and,bne_self_eq_false];kd_all;cases k<;>kd_all<;>first|exact hK|(rw[decide_eq_false hl];exact hK)
theorem Sw(hG:bx G)(dS:∀a∈tabs,G.Bs a=none){n:Nat}{U:aw}{O:Mu}{K:Fl→aw→Mu→Prop}{s:Nat×Nat×Nat}(hs:s∈bZ){ah:List Nat}(hl:ah∈bJ){f:List (List Int)}(hf:f∈fillAll ah){u:Int}(hu:u=1∨u=2){c0 c1 c2 c3 c4 c5:Int}{e:Str}(he:e∈kN){k:Bool}
  (Zk:get U 68=some (.list ((rowsOf s).map .int)))(nX:get U 92=some (.list ((aD f).map .int)))(Xp:get U 93=some (.int u))(ye:get U 60=some (.list ([c0,c1,c2,c3,c4,c5].map .int)))(Dx:get U 125=some (.str e))(va:get U 118=some (.bool k))
  (hK:∀ao,(∀j,j∉[91,122,118]→get ao j=get U j)→get ao 118=some (.bool (k&&decide (0≤eE (aD f) (jk s u:Nat) u)))→K .next ao O):aX G bX (n+10) JF U O K:=by
 refine oo (Ck s hu) ?_;intro p q hp hq hpq;have l3:cp ((rowsOf s).map V.int).length:=.of (by simp[rowsOf])
 have hlen:=(lS hl hf).2.2;have Xq:=Mm hs u;have JG:=Ml hl hf Xq hu c5 he;unfold JF;kd_all;refine V_at hp (by rcases hu with rfl|rfl<;>simp[rowsOf]) l3 ?_
 kd_all;refine V_at hq (by rcases hu with rfl|rfl<;>simp[rowsOf]) l3 ?_
 kd_all;rw[hpq];generalize jk s u=r at *;generalize aD f=ls at *;have Xr:get (bg.set U 91 (.int (r:Int))) 91=some (.int (r:Int)):=gs;have Xs:get (bg.set U 91 (.int (r:Int))) 92=some (.list (ls.map .int)):=gn nX;have Xt:get (bg.set U 91 (.int (r:Int))) 93=some (.int u):=gn Xp;have k60:get (bg.set U 91 (.int (r:Int))) 60=some (.list ([c0,c1,c2,c3,c4,c5].map .int)):=gn ye;have Xu:get (bg.set U 91 (.int (r:Int))) 125=some (.str e):=gn Dx;have Xv:get (bg.set U 91 (.int (r:Int))) 118=some (.bool k):=gn va;have kk:∀j,j∉[91,122,118]→get (bg.set U 91 (.int (r:Int))) j=get U j:=by
  intro j hj;rw[get_set,if_neg (fun e=>hj (by rw[e];exact .head _))]
 generalize bg.set U 91 (.int (r:Int))=a9 at *;kd_all;refine dC ?_;kd_all;refine cM (cp.of (by rw[List.length_map];exact vV hlen)).ok ?_
 kd_all;refine dY ?_;refine⟨_,Iter.gE (eJ (by decide) (by decide) (by exact ag 1 0 (ai (zk (-1000000)) (bh (az ab) bV)) (by kd_p)) (by rw[List.length_map];exact ag 1 0 (aa (ae ab fb) (ai (bh (az ab) bV) (zk 1000000))) (by kd_p) hlen)),?_⟩
 have er:cI 0 (((ls.map V.int).length:Int)+1)=(List.range (ls.length+1)).map fun(i:Nat)=>V.int (i:Int):=by
  unfold cI;rw[List.length_map,show((ls.length:Int)+1-0).toNat=ls.length+1 by exact ag 1 0 (aa (ae ab fb) (ax (dz (bR (bh (az ab) bV) aJ)) (aj ab aC))) (by kd_p) hlen]
  exact List.map_congr_left fun i zz=>by rw[Int.zero_add]
 rw[er];refine gq (M:=200) (J:=fun ao=>get ao 91=some (.int (r:Int))∧get ao 92=some (.list (ls.map .int))∧get ao 93=some (.int u)) (fun(i:Nat)=>V.int (i:Int)) (fun(i:Nat)=>V.int ((r:Int)+((ls.take i).count u:Nat)-((ls.take i).count (u+1):Nat))) (fun i hi ao acc K' hJ hM fP=>?_) ⟨by rw[eg (by simp)];exact Xr,by rw[eg (by simp)];exact Xs,by rw[eg (by simp)];exact Xt⟩ (by simp;exact ag 1 0 (aa (ae ab fb) (ae ab (nk 199))) (by kd_p) hlen) (fun ao zz=>?_)
 ·have j91:get (bg.set ao 80 (.int (i:Int))) 91=some (.int (r:Int)):=gn hJ.1
  have Sx:get (bg.set ao 80 (.int (i:Int))) 92=some (.list (ls.map .int)):=gn hJ.2.1;have j93:get (bg.set ao 80 (.int (i:Int))) 93=some (.int u):=gn hJ.2.2;have Mp:get (bg.set ao 80 (.int (i:Int))) 80=some (.int (i:Int)):=gs;first|show aX _ _ _ _ _ _ _|show d8 _ _ _ _ _ _ _|skip
  generalize bg.set ao 80 (.int (i:Int))=b9 at *;refine cQ ?_;kd_all;refine bB ?_;kd_all;refine tP (by decide) (gM.of (by rw[List.length_map];exact vV hlen)) ?_
  rw[oV,←List.map_take];refine⟨_,dr,?_⟩;kd_all;refine dQ ?_;kd_all;refine bB ?_;kd_all;refine tP (by decide) (gM.of (by rw[List.length_map];exact vV hlen)) ?_
  rw[oV,←List.map_take];refine⟨_,dr,?_⟩;kd_all;refine dQ ?_;k_upd;exact⟨.of (by exact ag 1 0 (aa (ae (aj ab aC) (nk 200)) (ae (aj ab aC) aQ)) (by kd_p) hM),fP b9 ⟨j91,Sx,j93⟩⟩
 ·refine bK ?_
  have ep:((List.range (ls.length+1)).map fun(i:Nat)=>V.int ((r:Int)+((ls.take i).count u:Nat)-((ls.take i).count (u+1):Nat)))=(uX ls (r:Int) u).map .int:=by
   unfold uX;rw[List.map_map]
   rfl
  rw[ep];kd_all;refine K4 (Ci ls r u) (least_le ls r u) ?_;kd_all;refine Mn hG dS (ls:=ls) (r:=r) (u:=u) (le:=eE ls r u) (e:=e) (k:=k) (gn Xs) (gn Xr) (gn Xt) (gn k60) (gn Xu) (gn Xv) (gs) (by exact Nt hlen) (by exact ag 1 0 (aa (ak ab cm) (aT (ai (zk (-100)) (az ab)) (ai (az ab) dj))) (by kd_p) Xq) JG ?_
  refine hK _ (fun j hj=>?_) (gs);have n1:¬ 118=j:=fun e=>hj (by rw[←e];simp)
  have n2:¬ 122=j:=fun e=>hj (by rw[←e];simp)
  rw[get_set,if_neg (by first|exact n1|exact fun e=>n1 e.symm),get_set,if_neg (by first|exact n2|exact fun e=>n2 e.symm)]
  exact kk j hj
structure TA(U:aw)(cs:List Int)(fi mi x y z:Int)(s:Nat×Nat×Nat)(ah:List Nat):Prop where
 l:m4 U cs fi mi x y z s ah
 w:get U 102=some (.ml 0)
 d:get U 105=some (.ml 1)
theorem TA.set{U:aw}{cs:List Int}{fi mi x y z:Int}{s:Nat×Nat×Nat}{ah:List Nat}(h:TA U cs fi mi x y z s ah){k:Nat}{v:V}(hk:k∉[60,63,127,130,69,68,113,112,102,105]):TA (bg.set U k v) cs fi mi x y z s ah:=by
 simp only[List.mem_cons,List.not_mem_nil,or_false,not_or]at hk;refine yV hk ?_;clear hk;intro k1 k2 k3 k4 k5 k6 k7 k8 k9 SA;exact⟨h.l.set (by simp only[List.mem_cons,List.not_mem_nil,or_false,not_or];exact⟨k1,k2,k3,k4,k5,k6,k7,k8⟩),by rw[get_set,if_neg k9];exact h.w,by rw[get_set,if_neg SA];exact h.d⟩
theorem TA.keep{U ao:aw}{cs:List Int}{fi mi x y z:Int}{s:Nat×Nat×Nat}{ah:List Nat}(h:TA U cs fi mi x y z s ah)(hk:∀j∈[60,63,127,130,69,68,113,112,102,105],get ao j=get U j):TA ao cs fi mi x y z s ah:=
 ⟨⟨by rw[hk _ (by decide)];exact h.l.c,by rw[hk _ (by decide)];exact h.l.f,by rw[hk _ (by decide)];exact h.l.e,by rw[hk _ (by decide)];exact h.l.m,by rw[hk _ (by decide)];exact h.l.p,by rw[hk _ (by decide)];exact h.l.s,by rw[hk _ (by decide)];exact h.l.o,by rw[hk _ (by decide)];exact h.l.t⟩,
  by rw[hk _ (by decide)];exact h.w,by rw[hk _ (by decide)];exact h.d⟩
noncomputable def qV(x y z:Int)(ls:List Int):Int:=x ^ ls.count 1*y ^ ls.count 2*z ^ ls.count 3
noncomputable def gX(ws:List Int)(m:List (List Int×Int)):Mu:=[some (ws.map .int),some (m.map bT)]
noncomputable def JH:Ss:=(.cons (.expr (.cA (.var 102) "append" (.cons (.bin .Mult (.bin .Mult (.bin .Pow (.sub (.var 69) (.int 0)) (.cA (.var 92) "count" (.cons (.int 1) .nil))) (.bin .Pow (.sub (.var 69) (.int 1)) (.cA (.var 92) "count" (.cons (.int 2) .nil)))) (.bin .Pow (.sub (.var 69) (.int 2)) (.cA (.var 92) "count" (.cons (.int 3) .nil)))) .nil))) .nil)
noncomputable def JI:Ss:=(.cons (.iff (.val (.var 118)) (.cons (.expr (.mx (.glob 119) (.cons (.var 105) (.cons (.tup (.cons (.var 120) (.cons (.neg (.call (.glob 6) (.cons (.var 102) .nil))) .nil))) .nil)) "key" (.glob 116))) .nil) .nil) JH)
noncomputable def JJ:Ss:=(.cons (.iff (.cmp .IsNot (.cmp .Eq (.call (.glob 121) (.cons (.var 77) (.cons (.var 68) .nil))) (.ey false (.bin .Mult (.list false (.cons (.bin .Add (.var 80) (.int 1)) .nil)) (.sub (.var 120) (.var 80))) 80 (.call (.glob 57) (.cons (.int 3) .nil)) .nil [120] [80])) (.var 118)) (.cons (.ret (.bool false)) .nil) .nil) JI)
noncomputable def Dy:Ss:=(.cons (.for 93 (.list false (.cons (.int 1) (.cons (.int 2) .nil))) JF) JJ)
noncomputable def JK:Ss:=(.cons (.kz [125,118] (.tup (.cons (.sub (.var 127) (.bin .Mod (.bin .Add (.bin .FloorDiv (.sub (.var 60) (.int 5)) (.int 1920)) (.call (.glob 6) (.cons (.var 102) .nil))) (.int 5))) (.cons (.bool true) .nil)))) Dy)
noncomputable def JL:Ss:=(.cons (.asg (.name 120) (.ey false (.bin .Add (.sub (.var 68) (.var 80)) (.cA (.var 92) "count" (.cons (.bin .Add (.var 80) (.int 1)) .nil))) 80 (.call (.glob 57) (.cons (.int 3) .nil)) .nil [68,92] [80])) JK)
noncomputable def Dz:Ss:=(.cons (.asg (.name 92) (.tQ false (.var 71) 72 (.slice (.var 77) .no .no (.neg (.int 1))) .nil 71 (.var 72) .nil [] [72,71])) JL)
noncomputable def vb:Ss:=Dz
theorem Mq:vb=Dz:=rfl
section
variable{n:Nat}{U:aw}{K:Fl→aw→Mu→Prop}{cs:List Int}{fi mi x y z:Int}{s:Nat×Nat×Nat}{ah:List Nat}{ls:List Int}{ws:List Int}{m:List (List Int×Int)}
theorem JM(T:TA U cs fi mi x y z s ah)(hx:Sz 10 x)(hy:Sz 10 y)(hz:Sz 10 z)(nX:get U 92=some (.list (ls.map .int)))(Fw:ls.length≤10)(lP:ws.length≤100)
  (hK:K .next U (gX (ws++[qV x y z ls]) m)):aX G bX n JH U (gX ws m) K:=by
 have l3:cp [V.int x,V.int y,V.int z].length:=.of (by simp)
 have hc:∀k:Int,ls.count k≤10:=fun k=>Nat.le_trans List.count_le_length Fw;have Ju:=T.w;have JD:=T.l.p;have hi:((gX ws m)[0]?:Option (Option (List V)))=some (some (ws.map .int)):=rfl;unfold JH;kd_all;refine bB ?_;kd_all;refine⟨_,fB hi,?_⟩;kd_all;refine V_at (v:=.int x) rfl (by simp) l3 ?_
 kd_all;refine bB ?_;kd_all;refine⟨_,dr,?_⟩;kd_all;refine dQ ?_;kd_all;refine qk (pz.sz hx (by exact Int.natCast_nonneg _) 10 (by have:=hc 1;exact Gv this) (by decide)) ?_
 kd_all;refine V_at (v:=.int y) rfl (by simp) l3 ?_
 kd_all;refine bB ?_;kd_all;refine⟨_,dr,?_⟩;kd_all;refine dQ ?_;kd_all;refine qk (pz.sz hy (by exact Int.natCast_nonneg _) 10 (by have:=hc 2;exact Gv this) (by decide)) ?_
 kd_all;rw[Int.toNat_natCast,Int.toNat_natCast];have s1:=hx.ya (m:=10) (ls.count 1) (hc 1);have s2:=hy.ya (m:=10) (ls.count 2) (hc 2);have s3:=hz.ya (m:=10) (ls.count 3) (hc 3);refine gg (gZ.sz s1 s2 (by decide)) ?_
 kd_all;refine V_at (v:=.int z) rfl (by simp) l3 ?_
 kd_all;refine bB ?_;kd_all;refine⟨_,dr,?_⟩;kd_all;refine dQ ?_;kd_all;refine qk (pz.sz hz (by exact Int.natCast_nonneg _) 10 (by have:=hc 3;exact Gv this) (by decide)) ?_
 kd_all;rw[Int.toNat_natCast];refine gg (gZ.sz (s1.mul s2) s3 (by decide)) ?_
 kd_all;refine fC hi (by rw[sizeLine_eq,List.length_map];exact Nn lP) .int ?_
 kd_all;have e:(gX ws m).set 0 (some (ws.map .int++[V.int (qV x y z ls)]))=gX (ws++[qV x y z ls]) m:=by
  unfold gX;rw[List.map_append]
  rfl
 unfold qV at e hK;rw[e];exact hK
theorem SD(hG:bx G){kp:Bool}(T:TA U cs fi mi x y z s ah)(hx:Sz 10 x)(hy:Sz 10 y)(hz:Sz 10 z)(nX:get U 92=some (.list (ls.map .int)))(Fw:ls.length≤10)(lP:ws.length≤100)(hm:m.length≤1000)
  (vc:get U 120=some (.list ((bF s ls).map .int)))(va:get U 118=some (.bool kp))
  (hK:K .next U (gX (ws++[qV x y z ls]) (if kp then mY m (bF s ls,-(ws.length:Int)) else m))):aX G bX (n+3) JI U (gX ws m) K:=by
 have Ju:=T.w;have uT:=T.d;have hi:((gX ws m)[0]?:Option (Option (List V)))=some (some (ws.map .int)):=rfl;unfold JI;kd_all;cases kp
 ·kd_all
  exact JM T hx hy hz nX Fw lP hK
 ·kd_all
  refine fh hi (by rw[List.length_map];have:(2:Nat) ^ 62=4611686018427387904:=(by decide);exact NM lP) ?_
  kd_all;refine CK hG (qG hG (n:=n) (j:=1) (xs:=m.map bT) (sh:=dw m) (x:=bF s ls) (rest:=[.int (-((ws.map V.int).length:Int))]) rfl (kn m) (by rw[List.length_map];exact MW hm) (by simp) (fun v hv=>by cases hv with|head=>exact .int|tail _ h=>cases h) (mO _ _ _ (Nat.zero_le _)).2 ?_)
  have e:(gX ws m).set 1 (some ((m.map bT).take (cO (fun i=>fj (bF s ls) (dw m i)) (m.map bT).length 0 (m.map bT).length)++V.tuple (V.list ((bF s ls).map V.int)::[V.int (-((ws.map V.int).length:Int))])::(m.map bT).drop (cO (fun i=>fj (bF s ls) (dw m i)) (m.map bT).length 0 (m.map bT).length)))=gX ws (mY m (bF s ls,-(ws.length:Int))):=by
   have:=Fu m (bF s ls,-(ws.length:Int));unfold gX;rw[←this,List.length_map (as:=ws)]
   rfl
  rw[e];kd_all;exact JM (m:=mY m (bF s ls,-(ws.length:Int))) T hx hy hz nX Fw lP hK
theorem SE(hG:bx G)(hs:s∈bZ)(hl:ah∈bJ){f:List (List Int)}(hf:f∈fillAll ah)(T:TA U cs fi mi x y z s ah)(hx:Sz 10 x)(hy:Sz 10 y)(hz:Sz 10 z)(nX:get U 92=some (.list ((aD f).map .int)))(lP:ws.length≤100)(hm:m.length≤1000)
  (su:get U 77=some (cG f))(vc:get U 120=some (.list ((bF s (aD f)).map .int)))(va:get U 118=some (.bool (pY s (aD f))))
  (hK:K .next U (gX (ws++[qV x y z (aD f)]) (lT s f ws.length m))):aX G bX (n+3) JJ U (gX ws m) K:=by
 have SF:=T.l.s;have hC:=lS hl hf;have Fx:s.1<3∧s.2.1<3∧s.2.2<3:=by
  have key:bZ.all (fun s=>decide (s.1<3)&&decide (s.2.1<3)&&decide (s.2.2<3))=true:=by decide
  have:=List.all_eq_true.mp key s hs;simp only[Bool.and_eq_true,decide_eq_true_eq]at this;exact ag 3 0 (aa (aT (aT (ak au cm) (ak af cm)) (ak ab cm)) (aT (ak au cm) (aT (ak af cm) (ak ab cm)))) (by kd_p) this
 have hp:yH s f=true:=(nO hs hl).1 f hf;unfold JJ;kd_all;refine CK hG (uE hG (n:=n+1) (F:=f) (a:=((s.1+s.2.1+s.2.2:Nat):Int)) (b:=((s.2.1+s.2.2:Nat):Int)) (c:=(s.2.2:Int)) (by omega) (fun c hc=>by have:=hC.2.1 c hc;exact ag 1 0 (aa (ae ab cm) (ae ab cy)) (by kd_p) this) (by exact ag 3 0 (aa (aT (ak au cm) (aT (ak af cm) (ak ab cm))) (aT (ai aJ (az (aj (aj au af) ab))) (ai (az (aj (aj au af) ab)) dj))) (by kd_p) Fx) (by exact ag 3 0 (aa (aT (ak ab cm) (aT (ak au cm) (ak af cm))) (aT (ai aJ (az (aj au af))) (ai (az (aj au af)) dj))) (by kd_p) Fx) (by exact ag 3 0 (aa (aT (ak af cm) (aT (ak ab cm) (ak au cm))) (aT (ai aJ (az au)) (ai (az au) dj))) (by kd_p) Fx) ?_)
 kd_all;refine dC ?_;kd_all;refine dY ?_;refine⟨_,Iter.gE (by decide),?_⟩
 have e3:cI 0 3=(List.range 3).map fun(i:Nat)=>V.int (i:Int):=rfl;rw[e3];refine gq (M:=3) (J:=fun ao=>get ao 120=some (.list ((bF s (aD f)).map .int))) (fun(i:Nat)=>V.int (i:Int)) (fun(i:Nat)=>e7 (List.replicate ((bF s (aD f)).getD i 0).toNat ((i:Int)+1))) (fun i hi ao acc K' hJ hM fP=>?_) (by rw[eg (by simp)];exact vc) (by simp) (fun ao zz=>?_)
 ·have Xw:get (bg.set ao 80 (.int (i:Int))) 120=some (.list ((bF s (aD f)).map .int)):=gn hJ
  have Mp:get (bg.set ao 80 (.int (i:Int))) 80=some (.int (i:Int)):=gs;first|show aX _ _ _ _ _ _ _|show d8 _ _ _ _ _ _ _|skip
  generalize bg.set ao 80 (.int (i:Int))=b9 at *;have hi:=List.mem_range.mp hi;have hv:((bF s (aD f)).map V.int)[cE (i:Int) ((bF s (aD f)).map V.int).length]?=some (.int ((bF s (aD f)).getD i 0)):=by
   have:i=0∨i=1∨i=2:=by exact CB hi
   rcases this with rfl|rfl|rfl<;>rfl
  have hg:0≤(bF s (aD f)).getD i 0∧(bF s (aD f)).getD i 0≤20:=by
   have c1:(aD f).count 1≤10:=Nat.le_trans List.count_le_length hC.2.2;have c2:(aD f).count 2≤10:=Nat.le_trans List.count_le_length hC.2.2;have c3:(aD f).count 3≤10:=Nat.le_trans List.count_le_length hC.2.2;have:i=0∨i=1∨i=2:=by exact CB hi
   rcases this with rfl|rfl|rfl
   ·show 0≤(((s.1+s.2.1+s.2.2+(aD f).count 1:Nat):Int))∧(((s.1+s.2.1+s.2.2+(aD f).count 1:Nat):Int))≤(20:Int);exact ag 4 0 (aa (aT (ak aO cm) (aT (ak au cm) (ak af cm))) (aa (ae ab fb) (aT (ai aJ (az (aj (aj (aj aO au) af) ab))) (ai (az (aj (aj (aj aO au) af) ab)) dA)))) (by kd_p) Fx c1
   ·show 0≤(((s.2.1+s.2.2+(aD f).count 2:Nat):Int))∧(((s.2.1+s.2.2+(aD f).count 2:Nat):Int))≤(20:Int);exact ag 4 0 (aa (aT (ak ab cm) (aT (ak aO cm) (ak au cm))) (aa (ae af fb) (aT (ai aJ (az (aj (aj aO au) af))) (ai (az (aj (aj aO au) af)) dA)))) (by kd_p) Fx c2
   ·show 0≤(((s.2.2+(aD f).count 3:Nat):Int))∧(((s.2.2+(aD f).count 3:Nat):Int))≤(20:Int);exact ag 4 0 (aa (aT (ak af cm) (aT (ak ab cm) (ak aO cm))) (aa (ae au fb) (aT (ai aJ (az (aj aO au))) (ai (az (aj aO au)) dA)))) (by kd_p) Fx c3
  refine cQ ?_;kd_all;refine V_at hv (by exact NN hi) (.of (by simp[bF])) ?_
  generalize (bF s (aD f)).getD i 0=gi at *;have zF:(2:Int) ^ 63=9223372036854775808:=by decide
  have Ek:(2:Nat) ^ 24=16777216:=by decide
  refine lq ⟨by exact ag 0 1 (aa (aT (ai aJ aq) (ai aq dA)) (ai (cH (zk (2 ^ 63))) aq)) (by kd_p) hg,by exact ag 0 1 (aa (aT (ai aJ aq) (ai aq dA)) (aM aq (zk (2 ^ 63)))) (by kd_p) hg,by simp;exact ag 0 1 (aa (aT (ai aJ aq) (ai aq dA)) (ai aq (zk 16777216))) (by kd_p) hg⟩ ?_
  rw[eK];have:=fP b9 Xw;unfold e7 at this;rw[List.map_replicate]at this;exact⟨.of (by exact Gu hM),this⟩
 refine bK ?_;have eb:((List.range 3).map fun(i:Nat)=>e7 (List.replicate ((bF s (aD f)).getD i 0).toNat ((i:Int)+1)))=(yG s (aD f)).map e7:=by
  unfold yG;rw[List.map_map]
  rfl
 rw[eb];refine AP (Fs _ _) ?_;kd_all;unfold yH at hp;have hp:=eq_of_beq hp;rw[show decide (gB f ((s.1+s.2.1+s.2.2:Nat):Int) ((s.2.1+s.2.2:Nat):Int) (s.2.2:Int)=yG s (aD f))=pY s (aD f) by rw[←hp];exact Bool.eq_iff_iff.mpr (by simp),bne_self_eq_false]
 kd_all;exact SD hG T hx hy hz nX hC.2.2 lP hm vc va hK
end
theorem JN(c:Int):∃e∈kN,(kN.map V.str)[cE (c.fmod 5) (kN.map V.str).length]?=some (.str e):=by
 have hb:=jj c 5 (by decide)
 obtain⟨k,hk,e⟩:∃k:Nat,k<kN.length∧c.fmod 5=(k:Int):=⟨(c.fmod 5).toNat,by show _<5;exact ag 0 1 (aa (aT (ai aJ aq) (aM aq (zk 5))) (ak (dz aq) (nk 5))) (by kd_p) hb,by exact NJ hb⟩
 refine⟨kN[k],List.getElem_mem hk,?_⟩;rw[e,gT,List.getElem?_map,List.getElem?_eq_getElem (by simpa using hk)]
 rfl
noncomputable def Mr(s:Nat×Nat×Nat)(ls:List Int):Nat→Bool
 |0=>true
 |1=>true&&decide (0≤eE ls (jk s 1:Nat) 1)
 |_=>(true&&decide (0≤eE ls (jk s 1:Nat) 1))&&decide (0≤eE ls (jk s 2:Nat) 2)
theorem SG(r:aw)(a b:V):bc r ([125,118].reverse.zip [a,b].reverse)=bg.set (bg.set r 118 b) 125 a:=rfl
section
variable{n:Nat}{U:aw}{K:Fl→aw→Mu→Prop}{c0 c1 c2 c3 c4 c5:Int}{fi mi x y z:Int}{s:Nat×Nat×Nat}{ah:List Nat}{ws:List Int}{m:List (List Int×Int)}{f:List (List Int)}
theorem SH(hG:bx G)(dS:∀a∈tabs,G.Bs a=none)(hs:s∈bZ)(hl:ah∈bJ)(hf:f∈fillAll ah)(T:TA U [c0,c1,c2,c3,c4,c5] fi mi x y z s ah)(hx:Sz 10 x)(hy:Sz 10 y)(hz:Sz 10 z)(nX:get U 92=some (.list ((aD f).map .int)))(lP:ws.length≤100)(hm:m.length≤1000)
  (su:get U 77=some (cG f))(vc:get U 120=some (.list ((bF s (aD f)).map .int)))(va:get U 118=some (.bool true)){e:Str}(he:e∈kN)(Dx:get U 125=some (.str e))
  (hK:∀ao,(∀j,j∉[91,122,118,93]→get ao j=get U j)→K .next ao (gX (ws++[qV x y z (aD f)]) (lT s f ws.length m))):aX G bX (n+10) Dy U (gX ws m) K:=by
 unfold Dy;refine ic (gN ?_);kd_all;refine⟨_,Iter.list,?_⟩;refine dy (J:=fun i ao ar=>ar=gX ws m∧(∀j,j∉[91,122,118,93]→get ao j=get U j)∧get ao 118=some (.bool (Mr s (aD f) i))) (fun i v a9 aA k hx hJ hk hb hr=>?_) (fun a9 aA hJ=>?_) ⟨rfl,fun zz zz=>rfl,va⟩
 ·refine qa hJ ?_;clear hJ;intro z1;subst z1;intro hJ JO
  have OC:∃u:Int,(u=1∨u=2)∧v=.int u∧Mr s (aD f) (i+1)=(Mr s (aD f) i&&decide (0≤eE (aD f) (jk s u:Nat) u)):=by
   match i,hx with
   |0,hx=>cases hx;exact⟨1,.inl rfl,rfl,rfl⟩
   |1,hx=>cases hx;exact⟨2,.inr rfl,rfl,rfl⟩
  refine gJ OC ?_;clear OC;intro u hu z1;subst z1;intro hkp;have h:∀j,j∉[91,122,118,93]→get (bg.set a9 93 (.int u)) j=get U j:=by
   intro j hj;rw[get_set,if_neg (fun e=>hj (by rw[←e];simp))]
   exact hJ j hj
  refine Sw hG dS hs hl hf hu he (k:=Mr s (aD f) i) (by rw[h _ (by decide)];exact T.l.s) (by rw[h _ (by decide)];exact nX) (gs) (by rw[h _ (by decide)];exact T.l.c) (by rw[h _ (by decide)];exact Dx) (gn JO) fun b9 h2 SI=>?_
  refine hk b9 _ ⟨rfl,fun j hj=>?_,by rw[SI,hkp]⟩
  rw[h2 j (fun hm=>hj (by simp only[List.mem_cons,List.not_mem_nil,or_false]at hm ⊢;exact ag 1 0 (aa (lpo (ax ab (nk 91)) (lpo (ax ab (nk 122)) (ax ab (nk 118)))) (lpo (ax ab (nk 91)) (lpo (ax ab (nk 122)) (lpo (ax ab (nk 118)) (ax ab (nk 93)))))) (by kd_p) hm))]
  exact h j hj
 ·refine qa hJ ?_;clear hJ;intro z1;subst z1;intro hJ JO
  exact SE (n:=n+7) hG hs hl hf (T.keep fun j hj=>hJ j (by intro hm;simp only[List.mem_cons,List.not_mem_nil,or_false]at hm hj;exact NO hm hj)) hx hy hz (by rw[hJ _ (by decide)];exact nX) lP hm (by rw[hJ _ (by decide)];exact su) (by rw[hJ _ (by decide)];exact vc) JO (hK _ hJ)
theorem SJ(hG:bx G)(dS:∀a∈tabs,G.Bs a=none)(hs:s∈bZ)(hl:ah∈bJ)(hf:f∈fillAll ah)(T:TA U [c0,c1,c2,c3,c4,c5] fi mi x y z s ah)(hx:Sz 10 x)(hy:Sz 10 y)(hz:Sz 10 z)(nX:get U 92=some (.list ((aD f).map .int)))(lP:ws.length≤100)(hm:m.length≤1000)
  (su:get U 77=some (cG f))(vc:get U 120=some (.list ((bF s (aD f)).map .int)))
  (hK:∀ao,TA ao [c0,c1,c2,c3,c4,c5] fi mi x y z s ah→K .next ao (gX (ws++[qV x y z (aD f)]) (lT s f ws.length m))):aX G bX (n+10) JK U (gX ws m) K:=by
 have Ju:=T.w;have Ez:=T.l.c;have JC:=T.l.e;unfold qS at JC;have l6:cp ([c0,c1,c2,c3,c4,c5].map V.int).length:=.of (by simp)
 have hi:((gX ws m)[0]?:Option (Option (List V)))=some (some (ws.map .int)):=rfl;have Bh:(2:Nat) ^ 62=4611686018427387904:=by decide
 unfold JK;generalize hP:Dy=P3;kd_all;refine V_at (v:=.int c5) rfl (by simp) l6 ?_
 kd_all;refine dO ⟨by decide,by decide +kernel⟩ ?_
 kd_all;refine fh hi (by rw[List.length_map];exact NM lP) ?_
 kd_all;refine dB (by decide) ?_
 refine aW (JN (c5.fdiv 1920+((ws.map V.int).length:Int))) ?_;intro e he EC;refine V_at EC (by have:=jj (c5.fdiv 1920+((ws.map V.int).length:Int)) 5 (by decide);exact NK this) (.of (by decide)) ?_
 kd_all;rw[SG,←hP];have T':TA (bg.set (bg.set U 118 (.bool true)) 125 (.str e)) [c0,c1,c2,c3,c4,c5] fi mi x y z s ah:=(T.set (by decide)).set (by decide)
 refine SH hG dS hs hl hf T' hx hy hz (gn (gn nX)) lP hm (gn (gn su)) (gn (gn vc)) (gn gs) he (gs) fun ao h=>?_;exact hK ao (T'.keep fun j hj=>h j (by intro hm;simp only[List.mem_cons,List.not_mem_nil,or_false]at hm hj;exact NO hm hj))
theorem SK(hG:bx G)(dS:∀a∈tabs,G.Bs a=none)(hs:s∈bZ)(hl:ah∈bJ)(hf:f∈fillAll ah)(T:TA U [c0,c1,c2,c3,c4,c5] fi mi x y z s ah)(hx:Sz 10 x)(hy:Sz 10 y)(hz:Sz 10 z)(nX:get U 92=some (.list ((aD f).map .int)))(lP:ws.length≤100)(hm:m.length≤1000)
  (su:get U 77=some (cG f))
  (hK:∀ao,TA ao [c0,c1,c2,c3,c4,c5] fi mi x y z s ah→K .next ao (gX (ws++[qV x y z (aD f)]) (lT s f ws.length m))):aX G bX (n+10) JL U (gX ws m) K:=by
 have SF:=T.l.s;unfold JL;kd_all;refine dC ?_;kd_all;refine dY ?_;refine⟨_,Iter.gE (by decide),?_⟩
 have e3:cI 0 3=(List.range 3).map fun(i:Nat)=>V.int (i:Int):=rfl;rw[e3];refine gq (M:=3) (J:=fun ao=>get ao 68=some (.list ((rowsOf s).map .int))∧get ao 92=some (.list ((aD f).map .int))) (fun(i:Nat)=>V.int (i:Int)) (fun(i:Nat)=>V.int ((bF s (aD f)).getD i 0)) (fun i hi ao acc K' hJ hM fP=>?_) ⟨by rw[eg (by simp)];exact SF,by rw[eg (by simp)];exact nX⟩ (by simp) (fun ao zz=>?_)
 ·have j68:get (bg.set ao 80 (.int (i:Int))) 68=some (.list ((rowsOf s).map .int)):=gn hJ.1
  have Sx:get (bg.set ao 80 (.int (i:Int))) 92=some (.list ((aD f).map .int)):=gn hJ.2;have Mp:get (bg.set ao 80 (.int (i:Int))) 80=some (.int (i:Int)):=gs;first|show aX _ _ _ _ _ _ _|show d8 _ _ _ _ _ _ _|skip
  generalize bg.set ao 80 (.int (i:Int))=b9 at *;have hi:=List.mem_range.mp hi;have hv:((rowsOf s).map V.int)[cE (i:Int) ((rowsOf s).map V.int).length]?=some (.int ((rowsOf s).getD i 0)):=by
   have:i=0∨i=1∨i=2:=by exact CB hi
   rcases this with rfl|rfl|rfl<;>rfl
  have hg:(rowsOf s).getD i 0+(((aD f).count ((i:Int)+1):Nat):Int)=(bF s (aD f)).getD i 0:=by
   have:i=0∨i=1∨i=2:=by exact CB hi
   rcases this with rfl|rfl|rfl<;>rfl
  refine cQ ?_;kd_all;refine V_at hv (by exact NN hi) (.of (by simp[rowsOf])) ?_
  kd_all;refine bB ?_;kd_all;refine⟨_,dr,?_⟩;kd_all;refine dQ ?_;k_upd;rw[hg];exact⟨.of (by exact Gu hM),fP b9 ⟨j68,Sx⟩⟩
 refine bK ?_;rw[show((List.range 3).map fun(i:Nat)=>V.int ((bF s (aD f)).getD i 0))=(bF s (aD f)).map .int from rfl];kd_all;exact SJ hG dS hs hl hf (T.set (by decide)) hx hy hz (gn nX) lP hm (gn su) (gs) hK
theorem SM(hG:bx G)(dS:∀a∈tabs,G.Bs a=none)(hs:s∈bZ)(hl:ah∈bJ)(hf:f∈fillAll ah)(T:TA U [c0,c1,c2,c3,c4,c5] fi mi x y z s ah)(hx:Sz 10 x)(hy:Sz 10 y)(hz:Sz 10 z)(lP:ws.length≤100)(hm:m.length≤1000)
  (su:get U 77=some (cG f))
  (hK:∀ao,TA ao [c0,c1,c2,c3,c4,c5] fi mi x y z s ah→K .next ao (gX (ws++[qV x y z (aD f)]) (lT s f ws.length m))):aX G bX (n+10) Dz U (gX ws m) K:=by
 have hC:=lS hl hf;have Xx:=su;unfold cG at Xx;unfold Dz;kd_all;refine zf ?_;kd_all;refine tP (by decide) (gM.of (by rw[List.length_map];omega)) ?_
 rw[xe,←List.map_reverse];refine⟨_,Iter.list,?_⟩;have ef:f.reverse.flatMap (fun c:List Int=>c.map V.int)=(aD f).map .int:=by
  unfold aD;rw[List.map_flatten,List.flatMap_def]
 have el:((aD f).map V.int).length≤10:=by rw[List.length_map];exact hC.2.2
 refine dW (M:=10) (J:=fun zz=>True) (fun c:List Int=>V.list (c.map .int)) (fun c:List Int=>c.map V.int) (fun c hc ao acc K' hJ hM fP=>?_) trivial (by rw[ef];simpa using el) (fun ao zz=>?_)
 ·have j72:get (bg.set ao 72 (.list (c.map .int))) 72=some (.list (c.map .int)):=gs
  first|show aX _ _ _ _ _ _ _|show d8 _ _ _ _ _ _ _|skip
  generalize bg.set ao 72 (.list (c.map .int))=b9 at *;refine cQ ?_;kd_all;refine⟨_,Iter.list,?_⟩;have ec:c.flatMap (fun l:Int=>[V.int l])=c.map .int:=by
   clear hC el ef j72 hM fP hc
   induction c with
   |nil=>rfl
   |cons a r ih=>rw[List.flatMap_cons,ih];rfl
  refine dW (M:=10) (J:=fun zz=>True) (fun l:Int=>V.int l) (fun l:Int=>[V.int l]) (fun l hl gG Ww K2 Jc BJ E8=>?_) trivial (by rw[ec];exact hM) (fun gG zz=>by rw[ec];exact fP _ trivial)
  have j71:get (bg.set gG 71 (.int l)) 71=some (.int l):=gs;first|show aX _ _ _ _ _ _ _|show d8 _ _ _ _ _ _ _|skip
  generalize bg.set gG 71 (.int l)=ph at *;refine cQ ?_;k_upd;exact⟨.of (by simp at BJ;exact ag 1 0 (aa (ae ab (nk 9)) (ae (aj ab aC) aQ)) (by kd_p) BJ),E8 ph trivial⟩
 refine bK ?_;rw[ef,List.nil_append];kd_all;exact SK hG dS hs hl hf (T.set (by decide)) hx hy hz (gs) lP hm (gn su) hK
end
noncomputable def iM(x y z:Int)(F:List (List (List Int))):List Int:=F.map fun f=>qV x y z (aD f)
theorem JP(hG:bx G)(dS:∀a∈tabs,G.Bs a=none){n:Nat}{U:aw}{K:Fl→aw→Mu→Prop}{c0 c1 c2 c3 c4 c5:Int}{fi mi x y z:Int}{s:Nat×Nat×Nat}{ah:List Nat}(hs:s∈bZ)(hl:ah∈bJ)(T:TA U [c0,c1,c2,c3,c4,c5] fi mi x y z s ah)(hx:Sz 10 x)(hy:Sz 10 y)(hz:Sz 10 z)
  (SN:get U 74=some (cF (fillAll ah)))
  (hK:∀ao,TA ao [c0,c1,c2,c3,c4,c5] fi mi x y z s ah→K .next ao (gX (iM x y z (fillAll ah)) (aF s ah))):wpS G bX (n+10) (.for 77 (.var 74) vb) U (gX [] []) K:=by
 have hle:=Ft hl;unfold cF at SN;try refine gN ?_
 kd_all;refine⟨_,Iter.list,?_⟩;rw[Mq];refine dy (J:=fun i ao ar=>TA ao [c0,c1,c2,c3,c4,c5] fi mi x y z s ah∧ar=gX (iM x y z ((fillAll ah).take i)) (ji s ((fillAll ah).take i) 0 [])) (fun i v a9 aA k A6 hJ hk hb hr=>?_) (fun a9 aA hJ=>?_) ⟨T,rfl⟩
 ·obtain⟨T1,rfl⟩:=hJ
  rw[List.getElem?_map]at A6;refine aW (Option.map_eq_some_iff.mp A6) ?_;intro f hf z1;subst z1;have Xy:=List.mem_of_getElem? hf;have hi:i<(fillAll ah).length:=(List.getElem?_eq_some_iff.mp hf).1;have e1:(fillAll ah).take (i+1)=(fillAll ah).take i++[f]:=by rw[List.take_add_one,hf];rfl
  have el:((fillAll ah).take i).length=i:=by rw[List.length_take];exact ag 2 0 (aa (ak af ab) (ax (jP af ab) af)) (by kd_p) hi
  have SO:(iM x y z ((fillAll ah).take i)).length=i:=by unfold iM;rw[List.length_map,el]
  have hm:=rV s ((fillAll ah).take i) 0 [];rw[el]at hm;refine SM hG dS hs hl Xy (T1.set (by decide)) hx hy hz (by exact ag 4 0 (aa (ae au cy) (aa (ak af au) (aa (ax ab af) (aa (ax aO af) (ae aO cy))))) (by kd_p) hle hi el SO) (by simp at hm;exact ag 5 0 (aa (ae aO cy) (aa (ak au aO) (aa (ax af au) (aa (ax ab au) (aa (ae dc au) (ae dc bw)))))) (by kd_p) hle hi el SO hm) (gs) fun b9 T2=>hk b9 _ ⟨T2,?_⟩
  rw[e1,p5,el,SO,Nat.zero_add];unfold iM;rw[List.map_append]
  rfl
 ·obtain⟨T1,rfl⟩:=hJ
  rw[List.length_map,List.take_of_length_le (Nat.le_refl _)];exact hK a9 T1
structure CA(U:aw)(c5 fi mi x y z:Int)(s:Nat×Nat×Nat)(ah:List Nat):Prop where
 c:∃c0 c1 c2 c3 c4,get U 60=some (.list ([c0,c1,c2,c3,c4,c5].map .int))
 f:get U 63=some (.int fi)
 m:get U 130=some (.int mi)
 p:get U 69=some (.list [.int x,.int y,.int z])
 h:get U 68=some (.list ((rowsOf s).map .int))
 o:get U 113=some (.int (ah.count 1:Nat))
 t:get U 112=some (.int (ah.count 2:Nat))
 w:get U 102=some (.list ((iM x y z (fillAll ah)).map .int))
 d:get U 105=some (.list ((aF s ah).map bT))
theorem CA.set{U:aw}{c5 fi mi x y z:Int}{s:Nat×Nat×Nat}{ah:List Nat}(h:CA U c5 fi mi x y z s ah){k:Nat}{v:V}(hk:k∉[60,63,130,69,68,113,112,102,105]):CA (bg.set U k v) c5 fi mi x y z s ah:=by
 simp only[List.mem_cons,List.not_mem_nil,or_false,not_or]at hk;refine Az hk ?_;clear hk;intro k1 k2 k4 k5 k6 k7 k8 k9 SA;refine CE h.c ?_;intro c0 c1 c2 c3 c4 hc;exact⟨⟨c0,c1,c2,c3,c4,by rw[get_set,if_neg k1];exact hc⟩,by rw[get_set,if_neg k2];exact h.f,by rw[get_set,if_neg k4];exact h.m,by rw[get_set,if_neg k5];exact h.p,by rw[get_set,if_neg k6];exact h.h,by rw[get_set,if_neg k7];exact h.o,by rw[get_set,if_neg k8];exact h.t,by rw[get_set,if_neg k9];exact h.w,by rw[get_set,if_neg SA];exact h.d⟩
theorem JQ{n:Nat}{U:aw}{K:Fl→aw→Mu→Prop}{c0 c1 c2 c3 c4 c5:Int}{fi mi x y z:Int}{s:Nat×Nat×Nat}{ah:List Nat}{r:Ss}(T:TA U [c0,c1,c2,c3,c4,c5] fi mi x y z s ah)
  (h:∀ao ar,CA ao c5 fi mi x y z s ah→aX G bX n r ao ar K):aX G bX n (.sa 102 (.sa 105 r)) U (gX (iM x y z (fillAll ah)) (aF s ah)) K:=by
 have hd:=T.d;refine nz (xs:=(iM x y z (fillAll ah)).map .int) T.w rfl ?_;refine nz (i:=1) (xs:=(aF s ah).map bT) (gn T.d) rfl ?_;refine h _ _ ⟨⟨c0,c1,c2,c3,c4,?_⟩,?_,?_,?_,?_,?_,?_,?_,?_⟩
 ·rw[get_set,if_neg (by decide),get_set,if_neg (by decide)];exact T.l.c
 ·rw[get_set,if_neg (by decide),get_set,if_neg (by decide)];exact T.l.f
 ·rw[get_set,if_neg (by decide),get_set,if_neg (by decide)];exact T.l.m
 ·rw[get_set,if_neg (by decide),get_set,if_neg (by decide)];exact T.l.p
 ·rw[get_set,if_neg (by decide),get_set,if_neg (by decide)];exact T.l.s
 ·rw[get_set,if_neg (by decide),get_set,if_neg (by decide)];exact T.l.o
 ·rw[get_set,if_neg (by decide),get_set,if_neg (by decide)];exact T.l.t
 ·rw[get_set,if_neg (by decide),get_set];rfl
 ·rw[get_set];rfl
theorem Fy{m:List (List Int×Int)}{p q:List Int×Int}(h:q∈mY m p):q=p∨q∈m:=by
 unfold mY at h;rcases List.mem_append.mp h with h|h
 ·exact .inr (List.mem_of_mem_take h)
 ·rcases List.mem_cons.mp h with h|h
  ·exact .inl h
  ·exact .inr (List.mem_of_mem_drop h)
theorem rW(s:Nat×Nat×Nat):∀ (l:List (List (List Int))) (t:Nat) (m:List (List Int×Int)) (p:List Int×Int),p∈ji s l t m→p∈m∨∃f∈l,p.1=bF s (aD f)
 |[],t,m,p,h=>.inl h
 |g::l,t,m,p,h=>by
  rcases rW s l (t+1) _ p h with h|⟨f,hf,e⟩
  ·split at h
   ·rcases Fy h with rfl|h
    ·exact .inr ⟨g,.head _,rfl⟩
    ·exact .inl h
   ·exact .inl h
  ·exact .inr ⟨f,.tail _ hf,e⟩
theorem count3:∀ls:List Int,ls.count 1+ls.count 2+ls.count 3≤ls.length
 |[]=>Nat.le_refl _
 |l::ls=>by
  have:=count3 ls;rw[List.count_cons,List.count_cons,List.count_cons,List.length_cons]
  by_cases h1:l=1
  ·subst h1;simp;exact ag 4 0 (aa (ae (aj (aj aO au) af) ab) (ae (aj (aj (aj aO aC) au) af) (aj ab aC))) (by kd_p) this
  ·by_cases h2:l=2
   ·subst h2;simp;exact ag 4 0 (aa (ae (aj (aj aO au) af) ab) (ae (aj (aj aO (aj au aC)) af) (aj ab aC))) (by kd_p) this
   ·by_cases h3:l=3
    ·subst h3;simp;exact ag 4 0 (aa (ae (aj (aj aO au) af) ab) (ae (aj (aj aO au) (aj af aC)) (aj ab aC))) (by kd_p) this
    ·simp[h1,h2,h3];exact ag 4 0 (aa (ae (aj (aj aO au) af) ab) (ae (aj (aj aO au) af) (aj ab aC))) (by kd_p) this
theorem o7{s:Nat×Nat×Nat}(hs:s∈bZ):s.1+2*s.2.1+3*s.2.2≤6:=by
 have key:bZ.all (fun s=>decide (s.1+2*s.2.1+3*s.2.2≤6))=true:=by decide
 exact of_decide_eq_true (List.all_eq_true.mp key s hs)
theorem vd{s:Nat×Nat×Nat}(hs:s∈bZ){ah:List Nat}(hl:ah∈bJ){x:List Int}(hx:x∈bO (aF s ah)):∃a b c:Nat,x=[(a:Int),(b:Int),(c:Int)]∧a+b+c≤16:=by
 unfold bO at hx;refine aW (List.mem_flatMap.mp hx) ?_;intro k hk hx;have hk:=List.mem_range.mp hk;split at hx
 ·have hx:=List.mem_singleton.mp hx
  have hp:(aF s ah)[k]?=some (aF s ah)[k]:=List.getElem?_eq_getElem hk;rw[qU hp]at hx;rcases rW s _ _ _ _ (List.getElem_mem hk) with h|⟨f,hf,e⟩
  ·cases h
  ·rw[e]at hx
   refine⟨_,_,_,hx,?_⟩;have h6:=o7 hs;have:=count3 (aD f);have:=(lS hl hf).2.2;exact ag 7 0 (aa (ae (aj (aj S3 (cY 2 FW)) (cY 3 dc)) (nk 6)) (aa (ae (aj (aj aO au) af) ab) (aa (ae ab fb) (ae (aj (aj (aj (aj (aj S3 FW) dc) aO) (aj (aj FW dc) au)) (aj dc af)) (nk 16))))) (by kd_p) h6 (by assumption) this
 ·cases hx
theorem JR(p:Nat→Bool)(m:Nat)(h:m<64):0≤cO p m 0 m∧cO p m 0 m≤64:=⟨Nat.zero_le _,by have:=(mO (p:=p) m 0 m (Nat.zero_le _)).2;exact ag 2 0 (aa (ak ab d7) (aa (ae af ab) (ae af d7))) (by kd_p) h this⟩
theorem JS{m:List (List Int×Int)}(h:m.length<64){k:Int}(hk:k∈b8 m) : -64≤k∧k≤64:=by
 unfold b8 at hk;refine aW (List.mem_map.mp hk) ?_;intro x zz z1;subst z1;have h1:=JR (fun i=>fj x (dw m i)) m.length h;have h2:=JR (fun i=>!fj (dw m i) x) m.length h;show -64≤((cO (fun i=>fj x (dw m i)) m.length 0 m.length:Nat):Int)-((cO (fun i=>!fj (dw m i) x) m.length 0 m.length:Nat):Int)∧((cO (fun i=>fj x (dw m i)) m.length 0 m.length:Nat):Int)-((cO (fun i=>!fj (dw m i) x) m.length 0 m.length:Nat):Int)≤64;exact ag 2 0 (aa (aT (ae b6 af) (ae af d7)) (aa (aT (ae b6 ab) (ae ab d7)) (aT (ai (zk (-64)) (bR (az af) (az ab))) (ai (bR (az af) (az ab)) (zk 64))))) (by kd_p) h1 h2
theorem o8(m:List (List Int×Int)):(bO m).length≤m.length:=by
 have:∀l:List Nat,(l.flatMap fun k=>if mZ m (dw m k)=k then[dw m k] else[]).length≤l.length:=by
  intro l
  induction l with
  |nil=>exact Nat.le_refl _
  |cons a r ih=>
   rw[List.flatMap_cons,List.length_append,List.length_cons];split
   ·rw[List.length_singleton];exact ag 2 0 (aa (ae af ab) (ae (aj aC af) (aj ab aC))) (by kd_p) ih
   ·rw[List.length_nil];exact ag 2 0 (aa (ae af ab) (ae (aj b6 af) (aj ab aC))) (by kd_p) ih
 have h:=this (List.range m.length);rw[List.length_range]at h;exact h
theorem ve{p B r:Int}(hB:0<B)(h0:0≤r)(h1:r<B):(p*B+r).fdiv B=p∧(p*B+r).fmod B=r:=by
 rw[fd _ hB,nW _ hB];refine⟨?_,?_⟩
 ·rw[Int.add_comm,Int.add_mul_ediv_right _ _ (by exact yR hB),Int.ediv_eq_zero_of_lt h0 h1];exact ag 0 1 (aS (bh aJ aq) aq) (by kd_p)
 ·rw[Int.add_comm,Int.add_mul_emod_self_right,Int.emod_eq_of_lt h0 h1]
theorem Cn{p B r:Int}(hB:B<0)(h0:r≤0)(h1:B<r):(p*B+r).fdiv B=p∧(p*B+r).fmod B=r:=by
 have h:=ve (p:=p) (B := -B) (r := -r) (by exact ag 0 1 (aa (aM aq aJ) (aM aJ (cH aq))) (by kd_p) hB) (by exact ag 0 1 (aa (ai aq aJ) (ai aJ (cH aq))) (by kd_p) h0) (by exact ag 0 2 (aa (aM aq aK) (aM (cH aK) (cH aq))) (by kd_p) h1)
 have e:p * -B + -r = -(p*B+r):=by rw[Int.mul_neg];exact NC
 rw[e]at h;have hd:(p*B+r).fdiv B=p:=by rw[←Int.neg_fdiv_neg];exact h.1
 refine⟨hd,?_⟩;rw[Int.fmod_def,hd,Int.mul_comm B p];exact ag 0 2 (aS (bR (bh aK aq) aK) aq) (by kd_p)
noncomputable def restOf(B k:Int):Int:=((if B<0 then -B else B)*k).fdiv 8*(if 0<B then 1 else -1)
theorem Fz{B k:Int}(h:0<B):restOf B k=(B*k)/8:=by
 unfold restOf;rw[if_neg (by exact ag 0 1 (aa (aM aJ aq) (dH (aM aq aJ))) (by kd_p) h),if_pos h,fd (B*k) (b:=8) (by decide),Int.mul_one]
theorem FA{B k:Int}(h:B<0):restOf B k = -((-B*k)/8):=by
 unfold restOf;rw[if_pos h,if_neg (by exact ag 0 1 (aa (aM aq aJ) (dH (aM aJ aq))) (by kd_p) h),fd (-B*k) (b:=8) (by decide),Int.mul_neg,Int.mul_one]
theorem vf{B k:Int}(h:0<B)(hk:0≤k∧k<8):0≤restOf B k∧restOf B k<B:=by
 rw[Fz h];have h1:0≤B*k:=Int.mul_nonneg (by exact te h) hk.1
 have h2:B*k≤B*7:=Int.mul_le_mul_of_nonneg_left (by exact NP hk) (by exact te h)
 exact TJ h h1 h2
theorem vg{B k:Int}(h:B<0)(hk:0≤k∧k<8):restOf B k≤0∧B<restOf B k:=by
 rw[FA h];have h1:0 ≤ -B*k:=Int.mul_nonneg (by exact NQ h) hk.1
 have h2 : -B*k ≤ -B*7:=Int.mul_le_mul_of_nonneg_left (by exact NP hk) (by exact NQ h)
 exact TK h h1 h2
theorem m6{B k:Int}(hB:B≠0)(hk:0≤k∧k<8)(p:Int):(p*B+restOf B k).fdiv B=p∧(p*B+restOf B k).fmod B=restOf B k:=by
 by_cases h:0<B
 ·exact ve h (vf h hk).1 (vf h hk).2
 ·exact Cn (by exact yS hB h) (vg (by exact yS hB h) hk).1 (vg (by exact yS hB h) hk).2
theorem FD{B k:Int}(hB:B≠0)(hk:0≤k∧k<8):(restOf B k).natAbs≤B.natAbs:=by
 by_cases h:0<B
 ·have:=vf h hk;exact ag 0 2 (aa (aM aJ aq) (aa (aT (ai aJ aK) (aM aK aq)) (ae (gD aK) (gD aq)))) (by kd_p) h this
 ·have:=vg (B:=B) (by exact yS hB h) hk;exact ag 0 2 (aa (dH (aM aJ aq)) (aa (aT (ai aK aJ) (aM aq aK)) (ae (gD aK) (gD aq)))) (by kd_p) h this
theorem s9{x y z:Int}(hx:Sz 10 x)(hy:Sz 10 y)(hz:Sz 10 z)(a b c:Nat):Sz (10*(a+b+c+3)+6) (cZ x y z a b c):=by
 have e1:((a:Int)+2).toNat=a+2:=by exact ND
 have e2:((b:Int)+1).toNat=b+1:=by exact NF
 have e3:((c:Int)).toNat=c:=by exact NG
 unfold cZ;rw[e1,e2,e3];have key:∀A B C:Nat,A+B+C=a+b+c+3→Sz (10*(a+b+c+3)+4) (x ^ A*(y ^ B*z ^ C-y ^ C*z ^ B)):=by
  intro A B C h;have t1:=((hy.pow B).mul (hz.pow C)).mono (k:=10*(B+C)+2) (by exact ag 2 0 (ae (aj (aj (cY 10 af) aC) (aj (cY 10 ab) aC)) (aj (cY 10 (aj af ab)) gU)) (by kd_p))
  have t2:=((hy.pow C).mul (hz.pow B)).mono (k:=10*(B+C)+2) (by exact ag 2 0 (ae (aj (aj (cY 10 af) aC) (aj (cY 10 ab) aC)) (aj (cY 10 (aj ab af)) gU)) (by kd_p))
  exact((hx.pow A).mul (t1.sub t2)).mono (by exact ag 6 0 (aa (ax (aj (aj FW dc) aO) (aj (aj (aj au af) ab) cm)) (ae (aj (aj (cY 10 FW) aC) (aj (aj (cY 10 (aj dc aO)) gU) aC)) (aj (cY 10 (aj (aj (aj au af) ab) cm)) (nk 4)))) (by kd_p) h)
 have aal:∀A B C:Nat,A+B+C=a+b+c+3→Sz (10*(a+b+c+3)+4) (x ^ A*(y ^ B*z ^ C-y ^ C*z ^ B)):=key;exact(((key (a+2) (b+1) c (by exact ag 3 0 (ax (aj (aj (aj au gU) (aj af aC)) ab) (aj (aj (aj au af) ab) cm)) (by kd_p))).sub (key (b+1) (a+2) c (by exact ag 3 0 (ax (aj (aj (aj au aC) (aj af gU)) ab) (aj (aj (aj af au) ab) cm)) (by kd_p)))).add ((key c (a+2) (b+1) (by exact ag 3 0 (ax (aj (aj au (aj af gU)) (aj ab aC)) (aj (aj (aj af ab) au) cm)) (by kd_p))).mono (by exact ag 3 0 (ae (aj (cY 10 (aj (aj (aj au af) ab) cm)) (nk 4)) (aj (aj (cY 10 (aj (aj (aj au af) ab) cm)) (nk 4)) aC)) (by kd_p)))).mono (by exact Nat.le_refl _)
noncomputable def Ai:Ss:=(.cons (.asg (.name 100) (.ey false (.call (.glob 37) (.cons (.bin .Add (.var 99) (.var 104)) (.cons (.var 107) .nil))) 99 (.var 108) .nil [104,107] [99])) .nil)
noncomputable def Aj:Ss:=(.cons (.asg (.name 108) (.list false (.cons (.call (.glob 110) (.cons (.var 69) (.cons (.var 68) .nil))) (.cons (.call (.glob 110) (.cons (.var 69) (.cons (.list false (.cons (.bin .Add (.var 113) (.var 112)) (.cons (.var 112) (.cons (.int 0) .nil)))) .nil))) (.cons (.call (.glob 101) (.cons (.ey false (.bin .Mult (.sub (.var 109) (.var 80)) (.call (.glob 110) (.cons (.var 69) (.cons (.sub (.var 111) (.var 80)) .nil)))) 80 (.call (.glob 57) (.cons (.call (.glob 6) (.cons (.var 111) .nil)) .nil)) .nil [109,69,111] [80]) .nil)) .nil))))) Ai)
noncomputable def Ak:Ss:=(.cons (.asg (.name 104) (.bin .Mult (.bin .FloorDiv (.bin .Mult (.call (.glob 114) (.cons (.var 107) .nil)) (.bin .Mod (.bin .FloorDiv (.sub (.var 60) (.int 5)) (.int 960)) (.int 8))) (.int 8)) (.za (.cmp .Gt (.var 107) (.int 0)) (.int 1) (.neg (.int 1))))) Aj)
noncomputable def Al:Ss:=(.cons (.asg (.name 107) (.call (.glob 110) (.cons (.var 69) (.cons (.list false (.cons (.int 0) (.cons (.int 0) (.cons (.int 0) .nil)))) .nil)))) Ak)
noncomputable def Am:Ss:=(.cons (.asg (.name 109) (.ey false (.bin .Sub (.mx (.glob 42) (.cons (.var 105) (.cons (.var 115) .nil)) "key" (.glob 116)) (.mx (.glob 117) (.cons (.var 105) (.cons (.var 115) .nil)) "key" (.glob 116))) 115 (.var 111) .nil [105] [115])) Al)
noncomputable def DA:Ss:=(.cons (.asg (.name 111) (.ey false (.sub (.sub (.var 105) (.var 80)) (.int 0)) 80 (.call (.glob 57) (.cons (.call (.glob 6) (.cons (.var 105) .nil)) .nil)) (.cons (.cmp .Eq (.mx (.glob 117) (.cons (.var 105) (.cons (.sub (.sub (.var 105) (.var 80)) (.int 0)) .nil)) "key" (.glob 116)) (.var 80)) .nil) [105] [80])) Am)
noncomputable def vk:Ss:=DA
theorem Ms:vk=DA:=rfl
noncomputable def xh(x y z:Int)(l:List Int):Int:=cZ x y z (l.getD 0 0) (l.getD 1 0) (l.getD 2 0)
noncomputable def xj(x y z:Int)(m:List (List Int×Int)):Int:=((List.range (bO m).length).map fun i=>(b8 m).getD i 0*xh x y z ((bO m).getD i [])).sum
noncomputable def OD(S:List Int)(r B:Int):V:=.list (S.map fun v=>.tuple [.int ((v+r).fdiv B),.int ((v+r).fmod B)])
section
variable{n:Nat}{U:aw}{O:Mu}{K:Fl→aw→Mu→Prop}{c5:Int}{fi mi x y z:Int}{s:Nat×Nat×Nat}{ah:List Nat}
theorem SP(hG:bx G){S:List Int}{r B:Int}(hS:∀v∈S,Sz 240 v)(hl:S.length≤10)(hr:Sz 240 r)(hB:B≠0)(sB:Sz 4000 B)
  (aam:get U 108=some (.list (S.map .int)))(JT:get U 104=some (.int r))(OE:get U 107=some (.int B))
  (hK:K .next (bg.set U 100 (OD S r B)) O):aX G bX (n+320) Ai U O K:=by
 unfold Ai;kd_all;refine dC ?_;kd_all;refine⟨_,Iter.list,?_⟩;refine gq (M:=10) (J:=fun ao=>get ao 104=some (.int r)∧get ao 107=some (.int B)) (fun v:Int=>V.int v) (fun v:Int=>V.tuple [.int ((v+r).fdiv B),.int ((v+r).fmod B)]) (fun v hv ao acc K' hJ hM fP=>?_) ⟨by rw[eg (by simp)];exact JT,by rw[eg (by simp)];exact OE⟩ hl (fun ao zz=>?_)
 ·have Xz:get (bg.set ao 99 (.int v)) 104=some (.int r):=gn hJ.1
  have XA:get (bg.set ao 99 (.int v)) 107=some (.int B):=gn hJ.2;have j99:get (bg.set ao 99 (.int v)) 99=some (.int v):=gs;first|show aX _ _ _ _ _ _ _|show d8 _ _ _ _ _ _ _|skip
  generalize bg.set ao 99 (.int v)=b9 at *;refine cQ ?_;k_upd;refine CK hG (uB hG (n:=n+319) (by exact ag 1 0 (ae (nk 306) (aj ab (nk 319))) (by kd_p)) hB sB (((hS v hv).add hr).mono (by decide)) ?_)
  exact⟨.of (by exact ag 1 0 (aa (ae (aj ab aC) fb) (ae (aj ab aC) aQ)) (by kd_p) hM),fP b9 ⟨Xz,XA⟩⟩
 refine bK ?_;kd_all<;>exact hK
theorem SQ(hG:bx G)(hs:s∈bZ)(hl:ah∈bJ)(C:CA U c5 fi mi x y z s ah)(hx:Sz 10 x)(hy:Sz 10 y)(hz:Sz 10 z)
  (OG:get U 111=some (.list ((bO (aF s ah)).map e7)))(XB:get U 109=some (.list ((b8 (aF s ah)).map .int)))
  (hK:aX G bX (n+320) Ai (bg.set U 108 (.list ([cZ x y z ((s.1+s.2.1+s.2.2:Nat):Int) ((s.2.1+s.2.2:Nat):Int) (s.2.2:Int),cZ x y z ((ah.count 1:Nat)+(ah.count 2:Nat)) (ah.count 2:Nat) 0,xj x y z (aF s ah)].map .int))) O K):aX G bX (n+320) Aj U O K:=by
 have JD:=C.p;have SF:=C.h;have aan:=C.o;have aao:=C.t;have h6:=o7 hs;have JB:ah.length≤5:=(jM (List.all_eq_true.mp xd _ hl)).le;have n1:ah.count 1≤5:=Nat.le_trans List.count_le_length JB;have n2:ah.count 2≤5:=Nat.le_trans List.count_le_length JB;have yC:=fun{x}=>vd hs hl (x:=x);have rX:=(nO hs hl).2.2.2.1;have XC:=fun{k}=>JS rX (k:=k);have gW:=o8 (aF s ah);have vT:(b8 (aF s ah)).length=(bO (aF s ah)).length:=by unfold b8;rw[List.length_map]
 unfold Aj;generalize hP:Ai=P5 at *;kd_all;refine CK hG (dT hG (n:=n+319) (a:=((s.1+s.2.1+s.2.2:Nat):Int)) (b:=((s.2.1+s.2.2:Nat):Int)) (c:=(s.2.2:Int)) hx hy hz (by exact ag 3 0 (aa (ae (aj (aj au (cY 2 af)) (cY 3 ab)) (nk 6)) (aT (ai aJ (az (aj (aj au af) ab))) (ai (az (aj (aj au af) ab)) dA))) (by kd_p) h6) (by exact ag 3 0 (aa (ae (aj (aj ab (cY 2 au)) (cY 3 af)) (nk 6)) (aT (ai aJ (az (aj au af))) (ai (az (aj au af)) dA))) (by kd_p) h6) (by exact ag 3 0 (aa (ae (aj (aj af (cY 2 ab)) (cY 3 au)) (nk 6)) (aT (ai aJ (az au)) (ai (az au) dA))) (by kd_p) h6) ?_)
 kd_all;refine CK hG (dT hG (n:=n+319) hx hy hz (by exact ag 2 0 (aa (ae af (nk 5)) (aa (ae ab (nk 5)) (aT (ai aJ (bh (az af) (az ab))) (ai (bh (az af) (az ab)) dA)))) (by kd_p) n1 n2) (by exact ag 1 0 (aa (ae ab (nk 5)) (aT (ai aJ (az ab)) (ai (az ab) dA))) (by kd_p) n2) (by decide) ?_)
 kd_all;refine dC ?_;kd_all;refine cM (cp.of (by rw[List.length_map];exact ag 3 0 (aa (ak af d7) (aa (ae au af) (aa (ax ab au) (ae au aQ)))) (by kd_p) rX gW vT)).ok ?_
 kd_all;refine dY ?_;rw[List.length_map];refine⟨_,Iter.gE (eJ (by decide) (by decide) (by exact ag 2 0 (aa (ax ab af) (ai (zk (-1000000)) (az af))) (by kd_p) vT) (by exact ag 3 0 (aa (ak af d7) (aa (ae au af) (aa (ax ab au) (ai (az au) (zk 1000000))))) (by kd_p) rX gW vT)),?_⟩
 have er:cI 0 (((bO (aF s ah)).length:Int))=(List.range (bO (aF s ah)).length).map fun(i:Nat)=>V.int (i:Int):=by
  unfold cI;rw[show(((bO (aF s ah)).length:Int)-0).toNat=(bO (aF s ah)).length by exact ag 2 0 (aa (ax ab af) (ax (dz (bR (az af) aJ)) af)) (by kd_p) vT]
  exact List.map_congr_left fun i zz=>by rw[Int.zero_add]
 rw[er];refine gq (M:=100) (J:=fun ao=>get ao 109=some (.list ((b8 (aF s ah)).map .int))∧get ao 69=some (.list [.int x,.int y,.int z])∧get ao 111=some (.list ((bO (aF s ah)).map e7))) (fun(i:Nat)=>V.int (i:Int)) (fun(i:Nat)=>V.int ((b8 (aF s ah)).getD i 0*xh x y z ((bO (aF s ah)).getD i []))) (fun i hi ao acc K' hJ hM fP=>?_) ⟨by rw[eg (by simp)];exact XB,by rw[eg (by simp)];exact JD,by rw[eg (by simp)];exact OG⟩ (by simp;exact ag 3 0 (aa (ak af d7) (aa (ae au af) (aa (ax ab au) (ae au cy)))) (by kd_p) rX gW vT) (fun ao zz=>?_)
 ·have XD:get (bg.set ao 80 (.int (i:Int))) 109=some (.list ((b8 (aF s ah)).map .int)):=gn hJ.1
  have j69:get (bg.set ao 80 (.int (i:Int))) 69=some (.list [.int x,.int y,.int z]):=gn hJ.2.1;have XE:get (bg.set ao 80 (.int (i:Int))) 111=some (.list ((bO (aF s ah)).map e7)):=gn hJ.2.2;have Mp:get (bg.set ao 80 (.int (i:Int))) 80=some (.int (i:Int)):=gs;first|show aX _ _ _ _ _ _ _|show d8 _ _ _ _ _ _ _|skip
  generalize bg.set ao 80 (.int (i:Int))=b9 at *;have hi:=List.mem_range.mp hi;have kA:i<(b8 (aF s ah)).length:=by exact NA vT hi
  refine oq (yC (List.getElem_mem hi)) ?_;intro a b c hk rR;have ho:=XC (List.getElem_mem kA);have eo:(b8 (aF s ah)).getD i 0=(b8 (aF s ah))[i]:=by rw[List.getD_eq_getElem?_getD,List.getElem?_eq_getElem kA];rfl
  have ek:(bO (aF s ah)).getD i []=[(a:Int),(b:Int),(c:Int)]:=by rw[List.getD_eq_getElem?_getD,List.getElem?_eq_getElem hi,hk];rfl
  have eo':((b8 (aF s ah)).map V.int)[cE (i:Int) ((b8 (aF s ah)).map V.int).length]?=some (.int ((b8 (aF s ah)).getD i 0)):=by rw[gT,List.getElem?_map,List.getElem?_eq_getElem kA,eo];rfl
  have ek':((bO (aF s ah)).map e7)[cE (i:Int) ((bO (aF s ah)).map e7).length]?=some (.list [.int (a:Int),.int (b:Int),.int (c:Int)]):=by rw[gT,List.getElem?_map,List.getElem?_eq_getElem hi,hk];rfl
  rw[ek]at fP;rw[←eo]at ho;have so:Sz 7 ((b8 (aF s ah)).getD i 0):=kH (m:=128) (by exact ag 2 2 (aa (ak af ab) (aa (aT (ai (zk (-64)) aK) (ai aK (zk 64))) (aa (aS aK aq) (aM (cH (az (nk 128))) aK)))) (by kd_p) kA ho eo) (by exact ag 2 2 (aa (ak af ab) (aa (aT (ai (zk (-64)) aK) (ai aK (zk 64))) (aa (aS aK aq) (aM aK (az (nk 128)))))) (by kd_p) kA ho eo) (by decide)
  refine cQ ?_;kd_all;refine V_at eo' (by exact NR rX gW vT hi kA) (.of (by rw[List.length_map];exact ag 4 0 (aa (ak au d7) (aa (ae af au) (aa (ax aO af) (aa (ak ab aO) (ae aO aQ))))) (by kd_p) rX gW vT kA)) ?_
  kd_all;refine V_at ek' (by exact NR rX gW vT hi kA) (.of (by rw[List.length_map];exact ag 4 0 (aa (ak au d7) (aa (ae aO au) (aa (ax af aO) (aa (ak ab af) (ae aO aQ))))) (by kd_p) rX gW vT kA)) ?_
  kd_all;refine CK hG (dT hG (n:=n+319) hx hy hz (by exact ag 5 0 (aa (ak aO au) (aa (ae (aj (aj dc af) ab) (nk 16)) (aT (ai aJ (az dc)) (ai (az dc) dA)))) (by kd_p) kA rR) (by exact ag 5 0 (aa (ak aO au) (aa (ae (aj (aj af dc) ab) (nk 16)) (aT (ai aJ (az dc)) (ai (az dc) dA)))) (by kd_p) kA rR) (by exact ag 5 0 (aa (ak aO au) (aa (ae (aj (aj af ab) dc) (nk 16)) (aT (ai aJ (az dc)) (ai (az dc) dA)))) (by kd_p) kA rR) ?_)
  k_upd;refine gg (gZ.sz so (s9 hx hy hz a b c) (by exact ag 5 0 (aa (ak af ab) (aa (ae (aj (aj dc aO) au) (nk 16)) (ae (aj (nk 7) (aj (cY 10 (aj (aj (aj dc aO) au) cm)) (nk 6))) (nk 100000000)))) (by kd_p) kA rR)) ?_
  exact⟨.of (by exact ag 3 0 (aa (ae (aj au aC) cy) (aa (ak af ab) (ae (aj au aC) aQ))) (by kd_p) hM kA),fP b9 ⟨XD,j69,XE⟩⟩
 refine bK ?_;rw[show((List.range (bO (aF s ah)).length).map fun(i:Nat)=>V.int ((b8 (aF s ah)).getD i 0*xh x y z ((bO (aF s ah)).getD i [])))=((List.range (bO (aF s ah)).length).map fun(i:Nat)=>((b8 (aF s ah)).getD i 0*xh x y z ((bO (aF s ah)).getD i []))).map .int by rw[List.map_map];rfl]
 kd_all;refine CS ?_;kd_all<;>exact hK
theorem SR{B:Int}(C:CA U c5 fi mi x y z s ah)(sB:Sz 1000 B)(OE:get U 107=some (.int B))
  (hK:aX G bX (n+320) Aj (bg.set U 104 (.int (restOf B ((c5.fdiv 960).fmod 8)))) O K):aX G bX (n+320) Ak U O K:=by
 refine CE C.c ?_;intro c0 c1 c2 c3 c4 Ez;have l6:cp ([c0,c1,c2,c3,c4,c5].map V.int).length:=.of (by simp)
 have hb:=jj (c5.fdiv 960) 8 (by decide)
 unfold Ak;generalize hP:Aj=P4 at *;kd_all;refine K3 ?_;kd_all;refine V_at (v:=.int c5) rfl (by simp) l6 ?_
 kd_all;refine dO ⟨by decide,by decide +kernel⟩ ?_
 kd_all;refine dB (by decide) ?_
 kd_all;unfold restOf at hK;generalize (c5.fdiv 960).fmod 8=k at *;have sk:Sz 4 k:=by unfold Sz;exact ag 0 1 (aa (aT (ai aJ aq) (aM aq (zk 8))) (ak (gD aq) (nk (2 ^ 4)))) (by kd_p) hb
 have sA:Sz 1000 (if B<0 then -B else B):=by split;exact sB.neg;exact sB
 have sM:=sA.mul sk;refine gg (gZ.sz sA sk (by decide)) ?_
 kd_all;refine dO ⟨by decide,by decide +kernel⟩ ?_
 kd_all;have sD:Sz 1004 (((if B<0 then -B else B)*k).fdiv 8):=by
  unfold Sz at *;rw[fd _ (by decide)]
  omega
 by_cases h:0<B
 ·rw[decide_eq_true h]
  rw[if_pos h]at hK;kd_all;refine gg (gZ.sz sD (k:=1) (by unfold Sz;decide) (by decide)) ?_
  kd_all<;>exact hK
 ·rw[decide_eq_false h]
  rw[if_neg h]at hK;kd_all;refine gg (gZ.sz sD (k:=1) (by unfold Sz;decide) (by decide)) ?_
  kd_all<;>exact hK
theorem SS(hG:bx G)(C:CA U c5 fi mi x y z s ah)(hx:Sz 10 x)(hy:Sz 10 y)(hz:Sz 10 z)
  (hK:aX G bX (n+320) Ak (bg.set U 107 (.int (cZ x y z 0 0 0))) O K):aX G bX (n+320) Al U O K:=by
 have JD:=C.p;unfold Al;generalize hP:Ak=P3 at *;kd_all;refine CK hG (dT hG (n:=n+319) hx hy hz (by decide) (by decide) (by decide) ?_)
 kd_all<;>exact hK
theorem SU(hG:bx G)(C:CA U c5 fi mi x y z s ah)(hm:(aF s ah).length<64)
  (OG:get U 111=some (.list ((bO (aF s ah)).map e7)))
  (hK:aX G bX (n+320) Al (bg.set U 109 (.list ((b8 (aF s ah)).map .int))) O K):aX G bX (n+320) Am U O K:=by
 have uT:=C.d;have gW:=o8 (aF s ah);unfold Am;generalize hP:Al=P2 at *;kd_all;refine dC ?_;kd_all;refine⟨_,Iter.list,?_⟩;refine gq (M:=100) (J:=fun ao=>get ao 105=some (.list ((aF s ah).map bT))) e7 (fun k=>V.int ((BV (aF s ah) k:Int)-(mZ (aF s ah) k:Int))) (fun k hk ao acc K' hJ hM fP=>?_) (by rw[eg (by simp)];exact uT) (by exact NS hm gW) (fun ao zz=>?_)
 ·have DB:get (bg.set ao 115 (e7 k)) 105=some (.list ((aF s ah).map bT)):=gn hJ
  have aap:get (bg.set ao 115 (e7 k)) 115=some (.list (k.map .int)):=gs;first|show aX _ _ _ _ _ _ _|show d8 _ _ _ _ _ _ _|skip
  generalize bg.set ao 115 (e7 k)=b9 at *;refine cQ ?_;kd_all;refine CK hG (mM hG (n:=n+318) (.inl rfl) (kn _) (by rw[List.length_map];exact Gw hm) ?_)
  kd_all;refine CK hG (i6 hG (n:=n+318) (.inl rfl) (kn _) (by rw[List.length_map];exact Gw hm) ?_)
  k_upd;rw[List.length_map];exact⟨.of (by exact ag 1 0 (aa (ae (aj ab aC) cy) (ae (aj ab aC) aQ)) (by kd_p) hM),fP b9 DB⟩
 refine bK ?_;rw[show((bO (aF s ah)).map fun k=>V.int ((BV (aF s ah) k:Int)-(mZ (aF s ah) k:Int)))=(b8 (aF s ah)).map .int by unfold b8;rw[List.map_map];rfl]
 kd_all<;>exact hK
theorem SV(hG:bx G)(C:CA U c5 fi mi x y z s ah)(hm:(aF s ah).length<64)
  (hK:aX G bX (n+320) Am (bg.set U 111 (.list ((bO (aF s ah)).map e7))) O K):aX G bX (n+320) DA U O K:=by
 have uT:=C.d;have gW:=o8 (aF s ah);unfold DA;generalize hP:Am=P1 at *;kd_all;refine dC ?_;kd_all;refine cM (cp.of (by rw[List.length_map];exact NT hm)).ok ?_
 kd_all;refine dY ?_;rw[List.length_map];refine⟨_,Iter.gE (eJ (by decide) (by decide) (by exact ag 1 0 (aa (ak ab d7) (ai (zk (-1000000)) (az ab))) (by kd_p) hm) (by exact ag 1 0 (aa (ak ab d7) (ai (az ab) (zk 1000000))) (by kd_p) hm)),?_⟩
 have er:cI 0 (((aF s ah).length:Int))=(List.range (aF s ah).length).map fun(i:Nat)=>V.int (i:Int):=by
  unfold cI;rw[show(((aF s ah).length:Int)-0).toNat=(aF s ah).length by exact ag 1 0 (aa (ak ab d7) (ax (dz (bR (az ab) aJ)) ab)) (by kd_p) hm]
  exact List.map_congr_left fun i zz=>by rw[Int.zero_add]
 rw[er];have ek:(List.range (aF s ah).length).flatMap (fun i=>if mZ (aF s ah) (dw (aF s ah) i)=i then[e7 (dw (aF s ah) i)] else[])=(bO (aF s ah)).map e7:=by
  unfold bO;rw[List.map_flatMap]
  congr 1
  funext i
  split<;>rfl
 refine dW (M:=100) (J:=fun ao=>get ao 105=some (.list ((aF s ah).map bT))) (fun(i:Nat)=>V.int (i:Int)) (fun i=>if mZ (aF s ah) (dw (aF s ah) i)=i then[e7 (dw (aF s ah) i)] else[]) (fun i hi ao acc K' hJ hM fP=>?_) (by rw[eg (by simp)];exact uT) (by rw[ek,List.length_map];simp;exact NS hm gW) (fun ao zz=>?_)
 ·have DB:get (bg.set ao 80 (.int (i:Int))) 105=some (.list ((aF s ah).map bT)):=gn hJ
  have Mp:get (bg.set ao 80 (.int (i:Int))) 80=some (.int (i:Int)):=gs;first|show aX _ _ _ _ _ _ _|show d8 _ _ _ _ _ _ _|skip
  generalize bg.set ao 80 (.int (i:Int))=b9 at *;have hi:=List.mem_range.mp hi;have hp:(aF s ah)[i]?=some (aF s ah)[i]:=List.getElem?_eq_getElem hi;have EC:((aF s ah).map bT)[cE (i:Int) ((aF s ah).map bT).length]?=some (.tuple [.list ((dw (aF s ah) i).map .int),.int (aF s ah)[i].2]):=by
   rw[gT,List.getElem?_map,hp,qU hp];rfl
  have ym:cp ((aF s ah).map bT).length:=.of (by rw[List.length_map];exact NT hm)
  refine kQ ?_;kd_all;refine V_at EC (by exact vU) ym ?_
  kd_all;refine jw (v:=.list ((dw (aF s ah) i).map .int)) rfl (by decide) (.of (by simp)) ?_
  kd_all;refine CK hG (i6 hG (n:=n+318) (.inl rfl) (kn _) (by rw[List.length_map];exact Gw hm) ?_)
  kd_all;rw[List.length_map];show(match ((mZ (aF s ah) (dw (aF s ah) i):Nat):Int)==(i:Int) with|false=>_|true=>_)
  by_cases c:mZ (aF s ah) (dw (aF s ah) i)=i
  ·rw[if_pos c]at hM fP
   rw[show(((mZ (aF s ah) (dw (aF s ah) i):Nat):Int)==(i:Int))=true by rw[c];simp]
   kd_all;refine V_at EC (by exact ag 3 0 (aa (ax ab af) (ai (cH (az au)) (az af))) (by kd_p) c) ym ?_
   kd_all;refine jw (v:=.list ((dw (aF s ah) i).map .int)) rfl (by decide) (.of (by simp)) ?_
   exact⟨.of (by simp at hM;exact Nv hM),fP b9 DB⟩
  ·rw[if_neg c,List.append_nil]at fP
   rw[show(((mZ (aF s ah) (dw (aF s ah) i):Nat):Int)==(i:Int))=false by simpa using fun h=>c (by exact ag 2 0 (aa (aS (az af) (az ab)) (ax af ab)) (by kd_p) h)]
   exact fP b9 DB
 refine bK ?_;rw[ek,List.nil_append];kd_all<;>exact hK
end
noncomputable def qW:Ss→Ss→Ss
 |.nil,b=>b
 |.cons s r,b=>.cons s (qW r b)
 |.sa x r,b=>.sa x (qW r b)
theorem yK{nm:Nat→Str}{b:Ss}{sc:Scope}{own:List Nat}:∀ (a:Ss) {ys:List Stmt},cW nm (qW a b) sc own ys=true→∃zs,dP nm (qW a b) ys=dP nm a ys++dP nm b zs∧cW nm a sc own ys=true∧cW nm b sc own zs=true
 |.nil,ys,h=>⟨ys,rfl,rfl,h⟩
 |.cons s r,ys,h=>by
  refine gJ (yK r (aR h)) ?_;intro zs e h1 h2;exact⟨zs,congrArg (pB nm s _ :: ·) e,Bool.and_eq_true_iff.mpr ⟨aL h,h1⟩,h2⟩
 |.sa _ r,ys,h=>yK r (ys:=ys) h
theorem FE{n:Nat}{a b:Ss}{K:Fl→aw→Mu→Prop}{U:aw}{O:Mu}(w:aX G bX n a U O (fun f U O=>match f with | .next=>aX G bX n b U O K|f=>K f U O)):aX G bX n (qW a b) U O K:=fun hg sc own ys env hk h hs=>by
 refine gJ (yK a h) ?_;intro zs e h1 h2;rw[e];refine wt (cn.mono (w hg sc own ys env hk h1 hs) fun f a9 aA w1=>?_);cases f with
 |next=>exact w1 hg sc own zs env hk h2 hs
 |brk=>exact w1
 |cont=>exact w1
 |ret v=>exact w1
section
variable{x y z:Int}
theorem JU(t:Int):t ^ 1=t:=by rw[Int.pow_succ,Int.pow_zero,Int.one_mul]
theorem XF(x y z:Int):cZ x y z 0 0 0=(x-y)*((x-z)*(y-z)):=by
 have h:uV (uW 0 0 0++uU (pX [((1,0,0),1),((0,1,0),-1)] (pX [((1,0,0),1),((0,0,1),-1)] [((0,1,0),1),((0,0,1),-1)])))=true:=by decide +kernel
 have h:=jh h x y z;rw[mX,lg,lg]at h;have e1:cD x y z [((1,0,0),1),((0,1,0),-1)]=x-y:=by simp[cD,gI,JU];exact Gx
 have e2:cD x y z [((1,0,0),1),((0,0,1),-1)]=x-z:=by simp[cD,gI,JU];exact Gx
 have e3:cD x y z [((0,1,0),1),((0,0,1),-1)]=y-z:=by simp[cD,gI,JU];exact Gx
 rw[e1,e2,e3]at h;exact h
theorem Mt(h1:x≠y)(h2:x≠z)(h3:y≠z):cZ x y z 0 0 0≠0:=by
 rw[XF];refine Int.mul_ne_zero (by exact ag 0 3 (aa (fH cu aK) (aa (fH cu aq) (aa (fH aK aq) (fH (bR cu aK) aJ)))) (by kd_p) h1 h2 h3) (Int.mul_ne_zero (by exact ag 0 3 (aa (fH cu aK) (aa (fH aq aK) (fH (bR cu aK) aJ))) (by kd_p) h2 h3) (by exact ag 0 2 (aa (fH aK aq) (fH (bR aK aq) aJ)) (by kd_p) h3))
theorem FF(x y:Int):cZ x y x 0 0 0=0:=by
 rw[XF,Int.sub_self,Int.zero_mul,Int.mul_zero]
theorem p6(ah:List Nat):cD x y z (nI ah)=(iM x y z (fillAll ah)).sum:=by
 unfold nI iM;generalize fillAll ah=F
 induction F with
 |nil=>rfl
 |cons f r ih=>
  rw[List.flatMap_cons,iJ,ih,List.map_cons,List.sum_cons];have:cD x y z (uY f)=qV x y z (aD f):=by
   unfold uY qV;simp only[cD,gI];rw[Int.one_mul,Int.add_zero,Int.mul_assoc]
  rw[this]
theorem DC{a b c:Nat}:cD x y z (uZ [(a:Int),(b:Int),(c:Int)])=xh x y z [(a:Int),(b:Int),(c:Int)]:=by
 unfold uZ;rw[mX]
 rfl
theorem An(x y z:Int):∀ (A:List Int) (B:List (List Int)),A.length=B.length→(∀b∈B,∃i j k:Nat,b=[(i:Int),(j:Int),(k:Int)])→
  cD x y z ((A.zip B).flatMap fun p=>Jv p.1 (uZ p.2))=((List.range B.length).map fun i=>A.getD i 0*xh x y z (B.getD i [])).sum
 |[],[],_,_=>rfl
 |a::A,b::B,h,hB=>by
  have ih:=An x y z A B (by simpa using h) (fun b hb=>hB b (.tail _ hb))
  rw[List.zip_cons_cons,List.flatMap_cons,iJ,ih,Dv,List.length_cons,List.range_succ_eq_map,List.map_cons,List.sum_cons,List.map_map];refine Gz (hB b (.head _)) ?_;intro i j k z1;subst z1;rw[DC]
  rfl
theorem FG{s:Nat×Nat×Nat}(hs:s∈bZ){ah:List Nat}(hl:ah∈bJ):cD x y z (Jx (aF s ah))=xj x y z (aF s ah):=by
 unfold Jx xj;refine An x y z _ _ (by unfold b8;rw[List.length_map]) fun b hb=>?_
 refine oq (vd hs hl hb) ?_;intro i j k e zz;exact⟨i,j,k,e⟩
theorem xk(s:Nat×Nat×Nat):cD x y z (uZ (rowsOf s))=cZ x y z ((s.1+s.2.1+s.2.2:Nat):Int) ((s.2.1+s.2.2:Nat):Int) (s.2.2:Int):=DC (a:=s.1+s.2.1+s.2.2) (b:=s.2.1+s.2.2) (c:=s.2.2)
theorem FI{s:Nat×Nat×Nat}(hs:s∈bZ):cZ x y z ((s.1+s.2.1+s.2.2:Nat):Int) ((s.2.1+s.2.2:Nat):Int) (s.2.2:Int)=cZ x y z 0 0 0*cD x y z (nJ s):=by
 have h:=jh (List.all_eq_true.mp BW s hs) x y z;rw[xk,lg,mX]at h;exact h
theorem JV{ah:List Nat}(hl:ah∈bJ):cZ x y z ((ah.count 1:Nat)+(ah.count 2:Nat)) (ah.count 2:Nat) 0=cZ x y z 0 0 0*(iM x y z (fillAll ah)).sum:=by
 have h:=jh (List.all_eq_true.mp Fi ah hl) x y z;rw[lg,mX,mX,p6]at h;exact h
theorem SW{s:Nat×Nat×Nat}(hs:s∈bZ){ah:List Nat}(hl:ah∈bJ):xj x y z (aF s ah)=cZ x y z ((s.1+s.2.1+s.2.2:Nat):Int) ((s.2.1+s.2.2:Nat):Int) (s.2.2:Int)*(iM x y z (fillAll ah)).sum:=by
 have h:=jh (nO hs hl).2.2.2.2 x y z;rw[lg,xk,p6,FG hs hl]at h;exact h
theorem Ao{k:Nat}{v a:Int}(hv:v≠0)(h:Sz k (v*a)):Sz k a:=by
 unfold Sz at *;rw[Int.natAbs_mul]at h;have:1≤v.natAbs:=by exact ag 0 1 (aa (fH aq aJ) (ae aC (gD aq))) (by kd_p) hv
 have:=Nat.le_mul_of_pos_left a.natAbs (show 0<v.natAbs by exact ag 0 1 (aa (ae aC (gD aq)) (ak b6 (gD aq))) (by kd_p) this)
 exact ag 2 1 (aa (ak ab af) (aa (ae (gD aq) ab) (ak (gD aq) af))) (by kd_p) h this
theorem Co{ah:List Nat}(hl:ah∈bJ):ah.count 1+ah.count 2+ah.count 2≤5:=by
 have key:bJ.all (fun l=>decide (l.count 1+l.count 2+l.count 2≤5))=true:=by decide
 exact of_decide_eq_true (List.all_eq_true.mp key ah hl)
theorem Ap{m:List (List Int×Int)}(h:pZ m=true)(i:Nat)(p q:List Int×Int)(hp:m[i]?=some p)(hq:m[i+1]?=some q):vQ (q.1,-q.2) (p.1,-p.2)=false:=by
 unfold pZ at h;have hi:i+1<m.length:=(List.getElem?_eq_some_iff.mp hq).1;have h:=of_decide_eq_true (List.all_eq_true.mp h i (List.mem_range.mpr (by exact NH hi))) hi
 rw[List.getD_eq_getElem?_getD,List.getD_eq_getElem?_getD,hp,hq]at h;exact h
end
def JW(U:aw):Prop:=∃ (ps:List (List Int×Int)) (a b c rest fi mi:Int) (ws:List Int),get U 105=some (.list (ps.map bT))∧1≤ps.length∧ps.length<64∧(∀ (i:Nat) p q,ps[i]?=some p→ps[i+1]?=some q→vQ (q.1,-q.2) (p.1,-p.2)=false) ∧
  get U 100=some (.list [.tuple [.int a,.int rest],.tuple [.int b,.int rest],.tuple [.int c,.int rest]])∧get U 104=some (.int rest)∧get U 102=some (.list (ws.map .int))∧ws.sum=b ∧
  get U 63=some (.int fi)∧get U 130=some (.int mi)∧Sz 10 fi∧Sz 10 mi∧cZ fi mi fi 0 0 0=0∧IntMulOk a b∧a*b=c
theorem FJ(hG:bx G){n:Nat}{U:aw}{O:Mu}{K:Fl→aw→Mu→Prop}{c5:Int}{fi mi x y z:Int}{s:Nat×Nat×Nat}{ah:List Nat}(hs:s∈bZ)(hl:ah∈bJ)(C:CA U c5 fi mi x y z s ah)(hx:Sz 10 x)(hy:Sz 10 y)(hz:Sz 10 z)(LZ:Sz 10 fi)(L0:Sz 10 mi)
  (h1:x≠y)(h2:x≠z)(h3:y≠z)(hK:∀ao,JW ao→K .next ao O):aX G bX (n+320) vk U O K:=by
 refine O1 (nO hs hl) ?_;intro f1 f2 f3 f4 f5;have hV:=Mt h1 h2 h3;have hk:=jj (c5.fdiv 960) 8 (by decide)
 have sV:Sz 36 (cZ x y z 0 0 0):=s9 hx hy hz 0 0 0;have h6:=o7 hs;have h5:=Co hl;have s1:Sz 96 (cZ x y z ((s.1+s.2.1+s.2.2:Nat):Int) ((s.2.1+s.2.2:Nat):Int) (s.2.2:Int)):=(s9 hx hy hz _ _ _).mono (by exact ag 3 0 (aa (ae (aj (aj au (cY 2 af)) (cY 3 ab)) (nk 6)) (ae (aj (cY 10 (aj (aj (aj (aj (aj au af) ab) (aj af ab)) ab) cm)) (nk 6)) (nk 96))) (by kd_p) h6)
 have s2:Sz 86 (cZ x y z ((ah.count 1:Nat)+(ah.count 2:Nat)) (ah.count 2:Nat) 0):=(s9 hx hy hz (ah.count 1+ah.count 2) (ah.count 2) 0).mono (by exact ag 2 0 (aa (ae (aj (aj af ab) ab) (nk 5)) (ae (aj (cY 10 (aj (aj (aj (aj af ab) ab) b6) cm)) (nk 6)) (nk 86))) (by kd_p) h5)
 have e1:=FI (x:=x) (y:=y) (z:=z) hs;have e2:=JV (x:=x) (y:=y) (z:=z) hl;have e3:=SW (x:=x) (y:=y) (z:=z) hs hl;have sA:Sz 96 (cD x y z (nJ s)):=Ao hV (by rw[←e1];exact s1)
 have sW:Sz 86 ((iM x y z (fillAll ah)).sum):=Ao hV (by rw[←e2];exact s2)
 have s3:Sz 182 (xj x y z (aF s ah)):=by rw[e3];exact s1.mul sW
 have C1:=C.set (k:=111) (v:=.list ((bO (aF s ah)).map e7)) (by decide)
 have C2:=C1.set (k:=109) (v:=.list ((b8 (aF s ah)).map .int)) (by decide)
 have C3:=C2.set (k:=107) (v:=.int (cZ x y z 0 0 0)) (by decide)
 have C4:=C3.set (k:=104) (v:=.int (restOf (cZ x y z 0 0 0) ((c5.fdiv 960).fmod 8))) (by decide)
 rw[Ms];refine SV hG C f4 (SU hG C1 f4 (gs) (SS hG C2 hx hy hz (SR C3 (sV.mono (by decide)) (gs) (SQ hG hs hl C4 hx hy hz (gn (gn (gn gs))) (gn (gn gs)) ?_))))
 have sr:Sz 240 (restOf (cZ x y z 0 0 0) ((c5.fdiv 960).fmod 8)):=by
  have:=FD hV hk;have sV':=sV.mono (k:=240) (by decide)
  unfold Sz at *;exact ag 0 2 (aa (ak (gD aq) (nk (2 ^ 36))) (aa (ae (gD aK) (gD aq)) (ak (gD aK) (nk (2 ^ 240))))) (by kd_p) sV this
 refine SP hG (S:=[cZ x y z ((s.1+s.2.1+s.2.2:Nat):Int) ((s.2.1+s.2.2:Nat):Int) (s.2.2:Int),cZ x y z ((ah.count 1:Nat)+(ah.count 2:Nat)) (ah.count 2:Nat) 0,xj x y z (aF s ah)]) (r:=restOf (cZ x y z 0 0 0) ((c5.fdiv 960).fmod 8)) (B:=cZ x y z 0 0 0) ?_ (by simp) sr hV (sV.mono (by decide)) (gs) (gn gs) (gn (gn gs)) ?_
 ·intro v hv
  rcases List.mem_cons.mp hv with rfl|hv
  ·exact s1.mono (by decide)
  ·rcases List.mem_cons.mp hv with rfl|hv
   ·exact s2.mono (by decide)
   ·rcases List.mem_cons.mp hv with rfl|hv
    ·exact s3.mono (by decide)
    ·cases hv
 ·refine hK _ ⟨aF s ah,cD x y z (nJ s),(iM x y z (fillAll ah)).sum,cD x y z (nJ s)*(iM x y z (fillAll ah)).sum,restOf (cZ x y z 0 0 0) ((c5.fdiv 960).fmod 8),fi,mi,iM x y z (fillAll ah),?_,f3,f4,fun i p q=>Ap f2 i p q,?_,?_,?_,rfl,?_,?_,LZ,L0,FF _ _,sA.H7 sW (by decide),rfl⟩
  ·rw[get_set,if_neg (by decide),get_set,if_neg (by decide)];exact C4.d
  ·rw[get_set,if_pos rfl,e1,e2,e3,e1]
   generalize cZ x y z 0 0 0=V at *;generalize cD x y z (nJ s)=A at *;generalize (iM x y z (fillAll ah)).sum=W at *;have r1:=m6 hV hk A;have r2:=m6 hV hk W;have r3:=m6 hV hk (A*W);have m1:V*A=A*V:=Int.mul_comm _ _;have m2:V*W=W*V:=Int.mul_comm _ _;have m3:A*V*W=A*W*V:=Int.mul_right_comm _ _ _;unfold OD;simp only[List.map_cons,List.map_nil];rw[m1,m2,m3,r1.1,r1.2,r2.1,r2.2,r3.1,r3.2]
  ·rw[get_set,if_neg (by decide),get_set,if_neg (by decide),get_set];rfl
  ·rw[get_set,if_neg (by decide),get_set,if_neg (by decide)];exact C4.w
  ·rw[get_set,if_neg (by decide),get_set,if_neg (by decide)];exact C4.f
  ·rw[get_set,if_neg (by decide),get_set,if_neg (by decide)];exact C4.m
noncomputable def jO:Ss:=qW u5 (.cons (.for 77 (.var 74) vb) (.sa 102 (.sa 105 vk)))
theorem Aq(hG:bx G)(dS:∀a∈tabs,G.Bs a=none){n:Nat}{U:aw}{xs:List Int}(hx:xs.length≤100000)(Xn:get U 62=some (.list (xs.map .int))):
  aX G bX (n+320) jO U [] fun r ao zz=>r=.next∧JW ao:=by
 unfold jO;refine FE ?_;refine Fp (n:=n+315) hG hx Xn fun a9 c0 c1 c2 c3 c4 c5 x z JX L SN JY JZ=>?_;have hf : -50≤sH c0∧sH c0≤49:=by unfold sH;have:=jj (c0+50) 100 (by decide);exact ag 0 1 (aa (aT (ai aJ aq) (aM aq dj)) (aT (ai (zk (-50)) (bR aq (zk 50))) (ai (bR aq (zk 50)) (zk 49)))) (by kd_p) this
 have hm:sH c0<sI c0 c1∧sI c0 c1≤149:=by unfold sI;have:=jj c1 100 (by decide);exact ag 0 2 (aa (aT (ai (zk (-50)) aK) (ai aK (zk 49))) (aa (aT (ai aJ aq) (aM aq dj)) (aT (aM aK (bh (bh aK bV) aq)) (ai (bh (bh aK bV) aq) (zk 149))))) (by kd_p) hf this
 have hl:sI c0 c1<Cb c0 c1 c2∧Cb c0 c1 c2≤249:=by unfold Cb;have:=jj c2 100 (by decide);exact ag 0 3 (aa (aT (ai (zk (-50)) aq) (ai aq (zk 49))) (aa (aT (aM aq cu) (ai cu (zk 149))) (aa (aT (ai aJ aK) (aM aK dj)) (aT (aM cu (bh (bh cu bV) aK)) (ai (bh (bh cu bV) aK) (zk 249)))))) (by kd_p) hf hm this
 have vm:(2:Nat) ^ 10=1024:=by decide
 have sf:Sz 10 (sH c0):=by unfold Sz;exact ag 0 1 (aa (aT (ai (zk (-50)) aq) (ai aq (zk 49))) (ak (gD aq) (nk (2 ^ 10)))) (by kd_p) hf
 have sm:Sz 10 (sI c0 c1):=by unfold Sz;exact ag 0 2 (aa (aT (ai (zk (-50)) aq) (ai aq (zk 49))) (aa (aT (aM aq aK) (ai aK (zk 149))) (ak (gD aK) (nk (2 ^ 10))))) (by kd_p) hf hm
 have sl:Sz 10 (Cb c0 c1 c2):=by unfold Sz;exact ag 0 3 (aa (aT (ai (zk (-50)) aK) (ai aK (zk 49))) (aa (aT (aM aK aq) (ai aq (zk 149))) (aa (aT (aM aq cu) (ai cu (zk 249))) (ak (gD cu) (nk (2 ^ 10)))))) (by kd_p) hf hm hl
 have sx:Sz 10 x:=by rcases JX with⟨rfl,_⟩|⟨rfl,_⟩<;>assumption
 have sz:Sz 10 z:=by rcases JX with⟨_,rfl⟩|⟨_,rfl⟩<;>assumption
 have hs:=Ca c3;have XG:=xf c4;have T:TA a9 [c0,c1,c2,c3,c4,c5] (sH c0) (sI c0 c1) x (sI c0 c1) z (shapeOf c3) (fG c4):=⟨L,JY,JZ⟩;refine ic (JP (n:=n+310) hG dS hs XG T sx sm sz SN fun b9 T2=>?_);refine JQ T2 fun gG dK C=>?_;exact FJ hG hs XG C sx sm sz sf sm (by exact ag 0 5 (aa (lpo (aT (aS kO cu) (aS aK aq)) (aT (aS kO aq) (aS aK cu))) (aa (aT (aM cu fw) (ai fw (zk 149))) (aa (aT (aM fw aq) (ai aq (zk 249))) (fH kO fw)))) (by kd_p) JX hm hl) (by exact ag 0 5 (aa (lpo (aT (aS kO cu) (aS fw aK)) (aT (aS kO aK) (aS fw cu))) (aa (aT (aM cu aq) (ai aq (zk 149))) (aa (aT (aM aq aK) (ai aK (zk 249))) (fH kO fw)))) (by kd_p) JX hm hl) (by exact ag 0 5 (aa (lpo (aT (aS cu aK) (aS fw aq)) (aT (aS cu aq) (aS fw aK))) (aa (aT (aM aK kO) (ai kO (zk 149))) (aa (aT (aM kO aq) (ai aq (zk 249))) (fH kO fw)))) (by kd_p) JX hm hl) fun ao h=>⟨rfl,h⟩
theorem FK{n:Nat}{a:Addr}{fd:FuncData}{oc:Value}{od:Option Addr}{osl:Array (Option Value)}{body:List Stmt}{vs:List V}(own:List Nat)(ps:List (Nat×V))
  (En:G.K.lookup a=some ⟨oc,od,.func fd,osl⟩)(jD:codeIn G.K fd.code fd.qualname=true)(fq:fd.body=.stmts body)(zt:fd.closure=[])(hg:fd.globals=mainGlobals)(hb:fd.builtins=builtinsNs)
  (ue:fd.scope.isCoroutine=false)(l0:fd.scope.isGenerator=false)(hk:fd.scope.kind=.function)
  (lC:∀s xs B Z,G.K.In s.heap→aB B Z vs xs→∃binds,BindsTo s fd ⟨xs,[]⟩ binds∧fZ (G:=G) B Z binds ps)
  (si:∀p∈ps,p.1∈own∧(fd.scope.names.lookup (G.nm p.1)=some .local∨fd.scope.names.lookup (G.nm p.1)=some .cell))
  {A:Around}(hA:bY (n+1) A)(vR:A.frames=some [])
  (h:∀ (env:Env) (A':Around) (B:ay) (Z:List Addr) (s:Shared),env.scope=fd.scope→env.code=fd.code→env.qual=fd.qualname++".<locals>."→env.frame=some env.locals→A'.frames=some [env]→bY n A'→
   Inv G B Z [] s.heap→bt G env B Z (bc [] ps) s.heap→wpAny (model G.prog G.w) A' (execs body env) (PS G env own B Z s fun r zz zz=>r=.ret (.bool true)) bM s)
  {B:ay}{s:Shared}{xs:List Value}(I:Inv G B [] [] s.heap)(rv:aB B [] vs xs):
  wpAny (model G.prog G.w) A (call (.ref a) xs []) (fun x s'=>x=.bool true∧∃B' aH ar,aG G [] B [] s B' aH ar s') bM s:=by
 refine aW (lC s xs B [] I.jS rv) ?_;intro binds qx kF;refine wpAny_call (codeAny_call_function hA.room (I.jS a _ En) rfl ue l0 fq (codeRec_of I.jS jD) (qx _ _ _ _ ?_));rw[zt,hg,hb];refine dp ?_;have k1:=bN s.heap {cls:=.type "frame",data:=.dict #[]};have k2:=pushCells_keeps fd.scope.names (s.heap.push {cls:=.type "frame",data:=.dict #[]});have k:∀b o,s.heap.get? b=some o→(pushCells (s.heap.push {cls:=.type "frame",data:=.dict #[]}) fd.scope.names).get? b=some o:=fun b o e=>k2 b o (k1 b o e);have F:=bt.fresh (scope:=fd.scope) (cl:=[]) (fo:={cls:=.type "frame",data:=.dict #[]})
  (env:=newEnv fd.scope s.heap.objs.size mainGlobals (cellsFrom (s.heap.objs.size+1) fd.scope.names []) (fd.qualname++".<locals>.") (some a) fd.code none builtinsNs) I ⟨_,rfl⟩ ⟨(fun zz zz m=>nomatch m),.nil⟩ (fun zz zz=>trivial) rfl rfl rfl hk rfl rfl
 refine jm (s:={s with heap:=_}) kF (fun p hp=>si p hp) (I.keeps k) F ?_
 intro bf tk F1 P1;refine⟨P1.inv.noLimit,codeAny_func ?_⟩;refine wpAny_mono (h _ _ B [] _ rfl rfl rfl rfl (by show A.frames.map _=_;rw[vR];rfl) (hA.deeper _) P1.inv F1) ?_ fun zz zz x=>x.elim
 rintro fl s' ⟨r,ao,ar,B',aH,q,P',F',r'⟩;subst q;have P:=P1.trans P';have out:=aG.wm (s:=s) I.ei.1 k .heap P (fun a' m=>by
  rcases eu m with e|⟨n',ew⟩
  ·rw[e];exact cx _
  ·have m':(n',a')∈cellsFrom (s.heap.objs.size+1) fd.scope.names []:=mem_of_lookup ew
   have ok:=cJ fd.scope.names (s.heap.push {cls:=.type "frame",data:=.dict #[]}) (s.heap.objs.size+1) [] [] (fun zz zz m=>nomatch m) (fun zz zz m=>nomatch m) .nil (by rw[Heap.size_push];exact Nat.le_refl _)
   rw[Heap.size_push]at ok;rcases ok.1 n' a' m' with z|z
   ·cases z
   ·exact fz (by omega))
 cases r' with
 |ret r=>refine VR.tn r ?_;exact⟨rfl,_,_,_,out⟩
noncomputable def Mv:Stmt→Stmt×ExceptHandler
 |.Try b h _ _ _=>(b.headD default,h.headD default)
 |_=>default
noncomputable def hpt:ExceptHandler→Expr×Stmt
 |.ExceptHandler t _ b _=>(t.getD default,b.headD default)
section
variable(P:Params)
noncomputable abbrev xl:List Stmt:=du (ba (KP P) 225).body
noncomputable abbrev p7:Stmt:=(xl P).getD 20 default
noncomputable abbrev Ar:Stmt:=(xl P).getD 21 default
noncomputable abbrev OH:Expr:=sk 0 (Mv (Ar P)).1
noncomputable abbrev DD:Expr×Stmt:=hpt (Mv (Ar P)).2
theorem XH:xl P=dP aI jO (xl P)++Jt (bj 0 (sk 0 (p7 P))) (bj 1 (sk 0 (p7 P))) (bj 2 (sk 0 (p7 P))) (OH P) (DD P).1 (sk 0 (DD P).2) (sb 0 (p7 P)) ((xl P).drop 22)
  (sk 0 (p7 P)).pos (p7 P).pos (Mv (Ar P)).1.pos (DD P).2.pos (Mv (Ar P)).2.pos (Ar P).pos:=by kd_p
theorem XI:Du (ba (KP P) 225).scope (bj 0 (sk 0 (p7 P))) (bj 1 (sk 0 (p7 P))) (bj 2 (sk 0 (p7 P))) (OH P) (DD P).1:=
 ⟨⟨by kd_p,⟨by kd_p,by kd_p,by kd_p,by kd_p,by kd_p,by kd_p⟩,by kd_p,by kd_p⟩,by kd_p,by kd_p,⟨by kd_p,by kd_p,by kd_p,by kd_p,by kd_p,by kd_p⟩⟩
theorem XJ:cW aI jO (ba (KP P) 225).scope x5 (xl P)=true:=by kd_p
theorem As:(vz (KP P) 225&&(codeHdIn (KP P) 224 222&&((ba (KP P) 225).code == .ref 224&&(((ba (KP P) 225).qualname++".<locals>.")++"<lambda>"==ug&&jT aI (ba (KP P) 225).scope x5 62))))=true:=by kd_p
end
theorem Mw(hG:bx G)(dS:∀a∈tabs,G.Bs a=none){n:Nat}{A:Around}(hA:bY (n+321) A)(vR:A.frames=some []){xs:List Int}(hx:xs.length≤100000)
  {B:ay}{s:Shared}{v:Value}(I:Inv G B [] [] s.heap)(rv:VR B [] (.list (xs.map .int)) v):
  wpAny (model G.prog G.w) A (call (.ref 225) [v] []) (fun x s'=>x=.bool true∧∃B' aH ar,aG G [] B [] s B' aH ar s') bM s:=by
 obtain⟨P,hP⟩:=hG.K;have hf:=aL (As P);have h4:=aL (aR (As P));have h5:=aL (aR (aR (As P)));have h6:=aL (aR (aR (aR (As P))));have h7:=aR (aR (aR (aR (As P))));have h2:=XI P;have h1:=XJ P;have h3:=XH P;unfold vz at hf;split at hf
 ·rename_i oc od fd osl e
  have lE:ba (KP P) 225=fd:=by unfold ba;rw[e]
  rw[lE]at h1 h2 h5 h6 h7
  replace h3:=congrArg du (congrArg FuncData.body lE).symm |>.trans h3
  simp only[Bool.and_eq_true,Bool.not_eq_true']at hf;obtain⟨⟨⟨⟨⟨⟨⟨f1,f2⟩,f3⟩,f4⟩,f5⟩,f6⟩,f7⟩,f8⟩:=hf;have fq:fd.body=.stmts (du fd.body):=by
   cases q:fd.body<;>first|rfl|(rw[q]at f1;cases f1)
  have hk:fd.scope.kind=.function:=eq_of_beq f8;refine FK (n:=n+320) (fd:=fd) (body:=du fd.body) x5 [(62,.list (xs.map .int))] (by rw[hP];exact e) (by rw[hP];exact f2) fq (List.isEmpty_iff.mp f3) (eq_of_beq f4) (eq_of_beq f5) f6 f7 hk ?_ (fun p hq=>?_) hA vR ?_ I (.cons rv .nil)
  ·intro s' jU B' aH X Qv
   refine aB.aN Qv ?_;intro y _ r1 r;refine aB.bE r ?_;rw[hP]at X;have hpk:∀S,peek (KP P) S (bindArgs fd ⟨[y],[]⟩)=some [(aI 62,y)]:=by
    intro S;rw[←lE]
    kd_p
   exact⟨_,kp_binds X hpk,qy hG.nm (ps:=[(62,.list (xs.map .int))]) (.cons r1 .nil)⟩
  ·cases List.mem_singleton.mp hq
   exact fA (G:=G) (env:=zc fd.scope) rfl hG.nm h7
  ·intro env A' B1 aE s1 hs gk hq z7 XK jR I1 F1
   rw[h3];refine BU (n:=n+320) (R:=fun U _=>JW U) jR I1 F1 (eM hG.nm hG.gl jO hk h1 hs (Aq (n:=n) hG dS hx (by rfl))) ?_
   intro ao ar B2 aV s2 hE I2 F2;refine ko hE ?_;clear hE;intro ps a b c rest fi mi ws JZ l1 lz hso XM JT JY hw Fo xg sf sm halt hm rR;exact Fh (n:=n+315) hG jR XK z7 (own:=x5) (cd:=224) (by rw[gk];exact eq_of_beq h5) (by rw[hP];exact h4) (by rw[hq];exact eq_of_beq h6) (by decide) (by rw[hs];exact h2) JZ l1 lz hso XM JT JY hw Fo xg sf sm halt hm rR I2 F2
 ·exact iO hf
noncomputable def lh(h:Heap):ay:=fun a=>if a∈tabs then none else h.get? a
theorem J1{h:Heap}{a:Addr}{o:Obj}(e:lh h a=some o):h.get? a=some o:=by
 unfold lh at e;split at e
 ·exact bk e
 ·exact e
theorem nQ{h:Heap}{a:Addr}(ha:a∉tabs):lh h a=h.get? a:=by unfold lh;rw[if_neg ha]
theorem xm{h:Heap}:∀a∈tabs,lh h a=none:=fun a ha=>by unfold lh;rw[if_pos ha]
noncomputable def noTabs(K:Frag):Bool:=tabs.all fun a=>(K.lookup a).isNone
theorem Cp(P:Params):noTabs (KP P)=true:=by kd_p
theorem Mx{P:Params}{a:Addr}{o:Obj}(e:(KP P).lookup a=some o):a∉tabs:=fun m=>by
 have:=List.all_eq_true.mp (Cp P) a m;rw[e]at this;cases this
theorem DE{h:Heap}{a:Addr}{m:Str→Option Value}(hT:∀P∈tabs,h.get? P=some (tabObj #[]))(hn:h.Ns a m):a∉tabs:=fun ha=>by
 refine pb hn ?_;clear hn;intro o es ep e d zz;rw[hT a ha]at e;cases Option.some.inj e;cases d
theorem p8{h h':Heap}{a:Addr}{m:Str→Option Value}(hT:∀P∈tabs,h.get? P=some (tabObj #[]))(hk:∀a o,lh h a=some o→h'.get? a=some o)(hn:h.Ns a m):h'.Ns a m:=by
 have ha:=DE hT hn;refine oq hn ?_;clear hn;intro o es ep e r;exact⟨o,es,ep,hk a o (by rw[nQ ha];exact e),r⟩
noncomputable def yL:List Str→Bool
 |[]=>true
 |x::r=>!r.contains x&&yL r
theorem rY:∀ {l:List Str},yL l=true→∀ (i j:Nat) (s:Str),l[i]?=some s→l[j]?=some s→i=j
 |[],_,i,j,s,h,_=>by cases h
 |x::r,hd,i,j,s,h1,h2=>by
  have hd:=Bool.and_eq_true_iff.mp hd;have hx:x∉r:=fun m=>by
   have:=hd.1;rw[List.contains_iff_mem.mpr m]at this;cases this
  match i,j with
  |0,0=>rfl
  |0,j+1=>
   cases h1;exact absurd (List.mem_of_getElem? (by simpa using h2)) hx
  |i+1,0=>
   cases h2;exact absurd (List.mem_of_getElem? (by simpa using h1)) hx
  |i+1,j+1=>rw[rY hd.2 i j s (by simpa using h1) (by simpa using h2)]
noncomputable def o9(s:Str):Bool:=s.cps.size !=1||Nat.blt (s.cps.getD 0 0) 1000
theorem DF:(yL vx&&vx.all o9&&vx.all (fun s=>!(s==("__debug__":Str)) && !(s==("__classdict__":Str))))=true:=by decide +kernel
theorem p9{i:Nat}{s:Str}(h:vx[i]?=some s):aI i=s:=by unfold aI;rw[h]
theorem m7{i:Nat}(h:vx[i]?=none):aI i=⟨#[i+1000]⟩:=by unfold aI;rw[h]
theorem xn{s:Str}{i:Nat}(h:o9 s=true):s≠⟨#[i+1000]⟩:=fun e=>by
 subst e;unfold o9 at h;simp[Nat.blt_eq]at h;exact ag 1 0 (aa (ak (aj ab bw) bw) Kh) (by kd_p) h
theorem J7(i j:Nat)(h:aI i=aI j):i=j:=by
 have ok:=DF;simp only[Bool.and_eq_true]at ok;cases hi:vx[i]? with
 |some s=>
  cases hj:vx[j]? with
  |some t=>
   rw[p9 hi,p9 hj]at h;subst h;exact rY ok.1.1 i j s hi hj
  |none=>
   rw[p9 hi,m7 hj]at h;exact absurd h (xn (List.all_eq_true.mp ok.1.2 s (List.mem_of_getElem? hi)))
 |none=>
  cases hj:vx[j]? with
  |some t=>
   rw[m7 hi,p9 hj]at h;exact absurd h.symm (xn (List.all_eq_true.mp ok.1.2 t (List.mem_of_getElem? hj)))
  |none=>
   rw[m7 hi,m7 hj]at h;have:(#[i+1000]:Array Nat)=#[j+1000]:=congrArg Str.cps h;simp at this;exact this
theorem J8(i:Nat):(aI i==("__debug__":Str))=false∧(aI i==("__classdict__":Str))=false:=by
 have ok:=DF;simp only[Bool.and_eq_true]at ok;cases hi:vx[i]? with
 |some s=>
  have:=List.all_eq_true.mp ok.2 s (List.mem_of_getElem? hi);simp only[Bool.and_eq_true,Bool.not_eq_true']at this;rw[p9 hi];exact this
 |none=>
  rw[m7 hi];have h1:(⟨#[i+1000]⟩:Str)≠("__debug__":Str):=fun e=>by
   have h:(1:Nat)=9:=congrArg (fun s:Str=>s.cps.size) e;exact absurd h (by decide)
  have h2:(⟨#[i+1000]⟩:Str)≠("__classdict__":Str):=fun e=>by
   have h:(1:Nat)=13:=congrArg (fun s:Str=>s.cps.size) e;exact absurd h (by decide)
  exact⟨beq_false_of_ne h1,beq_false_of_ne h2⟩
noncomputable def yM(K:Frag)(x:Str):Option Value:=match K.lookup mainGlobals with
 |some ⟨_,_,.dict es _,_⟩=>nsFind es x
 |_=>none
noncomputable def J9(K:Frag):Bool:=(match K.lookup mainGlobals with|some ⟨_,_,.dict _ _,_⟩=>true|_=>false)&&(UT.all fun p=>match yM K (aI p.1) with|some u=>u==p.2|none=>bootBuiltins (aI p.1)==some p.2&&aI p.1 !="__name__")&&yM K (Str.ofString "law")==some (.ref 225)
theorem DG(P:Params):J9 (KP P)=true:=by kd_p
theorem xo{K:Frag}{h:Heap}{mg:Str→Option Value}(hK:K.In h)(hB:J9 K=true)(hn:h.Ns mainGlobals mg)(x:Str):yM K x=mg x:=by
 unfold J9 at hB;simp only[Bool.and_eq_true]at hB;have h1:=hB.1.1;unfold yM;split at h1
 ·rename_i c d es n sl e
  refine br hn ?_;clear hn;intro o sj ep e' d' _ f;have:=hK _ _ e;rw[e']at this;cases Option.some.inj this;cases d';exact f x
 ·exact iO h1
theorem Ka{prog:Program}{w:World}{P:Params}{h:Heap}{mg mb:Str→Option Value}(hK:(KP P).In h)(hT:∀P∈tabs,h.get? P=some (tabObj #[]))(hg:h.Ns mainGlobals mg)(hb:h.Ns builtinsNs mb)(Cq:∀x:Str,x≠"__name__"→mb x=bootBuiltins x)
  {A:Around}{E:Value→Shared→Prop}{s:Shared}{env:Env}{x:Nat}{v:Value}{Q:Value→Shared→Prop}(hx:bX x=some v)(h1:env.globals=mainGlobals)(h2:env.builtins=builtinsNs)
  (hs:∀a o,lh h a=some o→s.heap.get? a=some o)(q:Q v s):wpAny (model prog w) A (loadGlobal env (aI x)) Q E s:=by
 have hB:=DG P;have AB:=hB;unfold J9 at AB;simp only[Bool.and_eq_true]at AB;have Au:=List.all_eq_true.mp AB.1.2 (x,v) (CT hx);dsimp only at Au;have hf:=xo hK hB hg (aI x);rw[hf]at Au;have XN:s.heap.Ns env.globals mg:=by rw[h1];exact p8 hT hs hg
 have yd:s.heap.Ns env.builtins mb:=by rw[h2];exact p8 hT hs hb
 cases hm:mg (aI x) with
 |some u=>
  rw[hm]at Au;have:u=v:=eq_of_beq Au;subst this;exact loadGlobal_global XN hm q
 |none=>
  rw[hm]at Au;simp only[Bool.and_eq_true]at Au;refine loadGlobal_builtin XN hm yd (v:=v) ?_ q;rw[Cq _ (by simpa using Au.2)]
  exact eq_of_beq Au.1
noncomputable def yN(prog:Program)(w:World){P:Params}{h:Heap}{mg mb:Str→Option Value}(hK:(KP P).In h)(hT:∀P∈tabs,h.get? P=some (tabObj #[]))(hg:h.Ns mainGlobals mg)(hb:h.Ns builtinsNs mb)(Cq:∀x:Str,x≠"__name__"→mb x=bootBuiltins x)(pP:h.NoLimit):dk where
 prog:=prog
 w:=w
 Bs:=lh h
 A₀:=[]
 K:=KP P
 hK:=fun a o e=>by rw[nQ (Mx e)];exact hK a o e
 TI:=oN
 hT:=Eo
 nm:=aI
 gl:=bX
 nolimit:=fun h' hk=>let⟨mc,a,b⟩:=pP;⟨mc,p8 hT hk a,b⟩
 inj:=J7
 odd:=J8
 load:=fun hx h1 h2 hs q=>Ka hK hT hg hb Cq hx h1 h2 hs q
section
variable{prog:Program}{w:World}{P:Params}{h:Heap}{mg mb:Str→Option Value}{hK:(KP P).In h}{hT:∀P∈tabs,h.get? P=some (tabObj #[])}{hg:h.Ns mainGlobals mg}{hb:h.Ns builtinsNs mb}{Cq:∀x:Str,x≠"__name__"→mb x=bootBuiltins x}{pP:h.NoLimit}
theorem My(EV:∃bm ob,mg "__builtins__"=some (.ref bm)∧bm≠builtinsNs∧h.get? bm=some ob∧ob.cls=.type "module"∧ob.dict=some builtinsNs∧ob.data=.plain):
  bx (yN prog w hK hT hg hb Cq pP):=by
 refine⟨rfl,fun h' hk=>⟨mg,p8 hT hk hg,fun T XO=>⟨fun e=>DE hT hg (e▸XO),?_⟩⟩,fun zz=>rfl,fun zz zz e=>e,⟨P,rfl⟩⟩;refine DL EV ?_;clear EV;intro bm ob e1 e2 e3 e4 e5 e6;have qx:bm∉tabs:=fun m=>by
  rw[hT bm m]at e3;cases Option.some.inj e3;cases e4
 have hbg:bm≠mainGlobals:=fun e=>by
  refine pb hg ?_;intro o es ep eo d zz;rw[e,eo]at e3;cases Option.some.inj e3;rw[d]at e6;cases e6
 exact⟨bm,ob,e1,e2,hbg,fun e=>qx (e▸XO),hk bm ob (by rw[show(yN prog w hK hT hg hb Cq pP).Bs=lh h from rfl,nQ qx];exact e3),e4,e5,e6⟩
theorem Mz:Inv (yN prog w hK hT hg hb Cq pP) (lh h) [] [] h:=
 ⟨fun zz zz e=>e,fun zz zz e=>J1 e,rfl,(fun i a xs h1=>by cases h1),(fun zz m=>nomatch m),.nil,fun a ha=>⟨xm a ha,(fun m=>nomatch m)⟩,⟨.inl (hT 58 (by simp[tabs])),.inl (hT 65 (by simp[tabs])),.inl (hT 222 (by simp[tabs]))⟩,⟨List.prefix_refl _,(fun zz m=>nomatch m)⟩⟩
end
theorem vl{P:Params}{h:Heap}{B:ay}:∀ {ns:List Int} {vs:List Value},WellAll P h vs (ofPys (ns.map .int))→aB B [] (ns.map V.int) vs
 |[],vs,x=>by
  cases x;exact .nil
 |n::ns,vs,x=>by
  rw[List.map_cons]at x;unfold ofPys at x;cases x with
  |cons y z=>
   unfold ofPy at y;cases y;exact .cons .int (vl z)
theorem Cr{P:Params}{h:Heap}{a:Addr}{ns:List Int}(hT:∀P∈tabs,h.get? P=some (tabObj #[]))(x:Well P h (.ref a) (ofPy (.list (ns.map .int)))):VR (lh h) [] (.list (ns.map .int)) (.ref a):=by
 unfold ofPy at x;cases x with
 |list e y=>
  have ha:a∉tabs:=fun m=>by
   rw[hT a m]at e;cases Option.some.inj e
  have r:=vl (B:=lh h) y;exact .list (by rw[nQ ha];exact e) r.1 r.2
noncomputable def DH(K:Frag):Bool:=codeHdIn K 62 58&&codeHdIn K 69 65&&codeHdIn K 224 222
theorem FL(P:Params):DH (KP P)=true:=by kd_p
theorem Kb{G:dk}{P:Params}{h:Heap}{s s':Shared}(hs:s.heap=h)(hTI:G.TI=oN)(hK:(KP P).In h)(hT:∀P∈tabs,h.get? P=some (tabObj #[])){B B':ay}{aH:List Addr}{ar:Mu}(p:aG G [] B [] s B' aH ar s'):OldK s.heap s'.heap:=by
 subst hs;have hc:=FL P;unfold DH at hc;simp only[Bool.and_eq_true]at hc;have key:∀T∈tabs,isCodeTable s.heap T∧∃more,s'.heap.get? T=some (tabObj (#[]++more)):=by
  intro T hm;have hI:=p.inv.tab;rw[hTI]at hI;refine qa hI ?_;clear hI;intro i1 i2 i3;have fin:∀ {l c:Nat} {q:Str},mJ B' s'.heap T l c q→∃more,s'.heap.get? T=some (tabObj (#[]++more)):=fun x=>x.elim (fun e=>⟨#[],by rw[e];rfl⟩) fun⟨c',zz,e⟩=>⟨_,by rw[Array.empty_append];exact e⟩
  rcases List.mem_cons.mp hm with rfl|hm
  ·exact⟨((codeHd_of_K hK hc.1.2).tab (hT _ (by simp[tabs]))).isCodeTable,fin i2⟩
  rcases List.mem_cons.mp hm with rfl|hm
  ·exact⟨((codeHd_of_K hK hc.1.1).tab (hT _ (by simp[tabs]))).isCodeTable,fin i1⟩
  obtain rfl:=List.mem_singleton.mp hm;exact⟨((codeHd_of_K hK hc.2).tab (hT _ (by simp[tabs]))).isCodeTable,fin i3⟩
 have keep:∀b o,b∉tabs→s.heap.get? b=some o→s'.heap.get? b=some o:=fun b o hb e=>p.keep b o (by simpa using hb) e
 refine⟨fun b o e=>?_,fun b o e=>?_⟩
 ·by_cases hb:b∈tabs
  ·refine OZ (key b hb) ?_;intro ht more em
   have e2:=hT b hb;rw[e]at e2;cases Option.some.inj e2;exact .inr (.inl ⟨ht,rfl,#[],more,rfl,em⟩)
  ·exact .inl (keep b o hb e)
 ·by_cases hb:b∈tabs
  ·refine OZ (key b hb) ?_;intro zz more em
   exact⟨_,em⟩
  ·exact⟨o,keep b o hb e⟩
end
end
end
section
set_option maxHeartbeats 8000000
theorem Cs:PySem.Challenge.rw_tc0078_01.Holds:=hd (by
 intro w s0 s1 mg mb G Y fa o pm cd doc dV kV ho hd jD hD XP hg args vals as XQ XR hrd hwl hU;clear hd jD hD ho;have hK:=km_in_of Y;have hT:∀P∈tabs,s1.heap.get? P=some (tabObj #[]):=km_tabs_of Y;have T:=G.T;have Iw:fa=225:=by
  have h1:mg (Str.ofString "law")=some (.ref fa):=XP;have hB:=DG w.params;have h2:=xo hK hB T.g (Str.ofString "law");unfold J9 at hB;simp only[Bool.and_eq_true]at hB;rw[eq_of_beq hB.2,h1]at h2;cases Option.some.inj h2
  rfl
 subst Iw;clear XP
 wrow_args XQ XR hrd hwl hU
 rename_i ns _ _ _ _ _ _ _ a _ _ _ _ w1 _ _ _ hlen _;show wpAny (model Challenge.rw_tc0078_01.row.prog w) callerA (call (.ref 225) [.ref a] []) _ _ _;refine wpAny_mono (Mw (G:=yN Challenge.rw_tc0078_01.row.prog w hK hT T.g T.b T.builtins T.nolimit) (My T.bmain) (fun a ha=>xm a ha) (n:=0) (A:=callerA) ⟨rfl,by decide,by decide,rfl⟩ rfl (xs:=ns) (by exact ag 1 0 (aa (dH (aM (az (nk 63)) (az ab))) (ae ab (nk 100000))) (by kd_p) hlen) Mz (Cr hT w1)) ?_ (fun _ _ x=>x.elim)
 rintro v s' ⟨rfl,B',aH,ar,p⟩;refine⟨.inl ⟨_,.bool true,[],rfl,?_,.bool true,?_,fun _=>⟨.nil,fun _ h=>by cases h⟩⟩,Kb rfl rfl hK hT p,p.rest.os,p.rest.bare (.of_eq hg)⟩
 ·intro cls
  rfl
 ·wrow_post)
end
end bg
theorem PySem.Challenge.cw_tc0078_01_holds : PySem.Challenge.rw_tc0078_01.Holds :=
 bg.Cs
