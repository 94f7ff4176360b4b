import PyProof.Rows.All
import Wide.All
import OpenK.AllK
import KE.KDictIter
import OpenK.ZHead
import OpenK.XOpen
import Lean
import PySem.Challenge.RW_yj0002_02
set_option genInjectivity false
set_option genSizeOfSpec false
set_option maxHeartbeats 0
set_option Elab.async false
set_option maxRecDepth 100000
set_option linter.unusedVariables false
section
namespace Mine
namespace Ar
noncomputable def ev:List Int→List Int→Int
 | a::f,x::e=>a * x+ev f e
 | _,_=>0
noncomputable def add:List Int→List Int→List Int
 | a::f,b::g=>(a+b)::add f g
 | [],g=>g
 | f,[]=>f
noncomputable def sm(m:Int):List Int→List Int
 | []=>[]
 | a::f=>m * a::sm m f
theorem ds(e:List Int):ev [] e=0:=by cases e<;> rfl
theorem gg:∀ f g e:List Int,ev (add f g) e=ev f e+ev g e
 | [],g,e=>by rw[ds,Int.zero_add];rfl
 | a::f,[],e=>by rw[ds,Int.add_zero];rfl
 | a::f,b::g,[]=>rfl
 | a::f,b::g,x::e=>by
  show (a+b) * x+ev (add f g) e=a * x+ev f e+(b * x+ev g e)
  rw[gg f g e,Int.add_mul]
  rw[Int.add_assoc,Int.add_assoc,← Int.add_assoc (b * x),Int.add_comm (b * x) (ev f e),Int.add_assoc]
theorem j4(m:Int):∀ f e:List Int,ev (sm m f) e=m * ev f e
 | [],e=>by show ev [] e=_;rw[ds,Int.mul_zero]
 | a::f,[]=>(Int.mul_zero m).symm
 | a::f,x::e=>by
  show m * a * x+ev (sm m f) e=m * (a * x+ev f e)
  rw[j4 m f e,Int.mul_add,Int.mul_assoc]
noncomputable def sub(f g:List Int):List Int:=add f (sm (-1) g)
theorem gf(f g e:List Int):ev (sub f g) e=ev f e - ev g e:=by
 unfold sub;rw[gg,j4,Int.neg_mul,Int.one_mul];rfl
noncomputable def uf:Nat→List Int
 | 0=>[1]
 | i+1=>0::uf i
noncomputable def cf:List Int→Nat→Int
 | [],_=>0
 | a::_,0=>a
 | _::f,i+1=>cf f i
noncomputable def bad(c:List Int):Bool:=match c with
 | []=>false
 | a::f=>decide (a<0) && f.all fun b=>decide (b=0)
noncomputable def one(i:Nat)(cs:List (List Int)):List (List Int) :=
 (cs.filter fun c=>decide (cf c i=0))++(cs.filter fun c=>decide (0<cf c i)).flatMap fun p=>(cs.filter fun c=>decide (cf c i<0)).map fun q=>add (sm (-(cf q i)) p) (sm (cf p i) q)
noncomputable def fm:Nat→List (List Int)→Bool
 | 0,cs=>cs.any bad
 | n+1,cs=>cs.any bad || fm n (one (n+1) cs)
theorem j3:∀ (f e:List Int),(f.all fun b=>decide (b=0))=true→ev f e=0
 | [],e,_=>ds e
 | a::f,[],_=>rfl
 | a::f,x::e,h=>by
  obtain⟨h1,h2⟩:=Bool.and_eq_true_iff.mp (List.all_cons.symm.trans h)
  show a * x+ev f e=0
  rw[j3 f e h2,of_decide_eq_true h1,Int.zero_mul];rfl
theorem l4{xs:List Int}{cs:List (List Int)}(h:∀ c∈cs,0≤ev c (1::xs))(hb:cs.any bad=true):False:=by
 obtain⟨c,hc,hb⟩:=List.any_eq_true.mp hb
 cases c with
 | nil=>cases hb
 | cons a f =>
  obtain⟨h1,h2⟩:=Bool.and_eq_true_iff.mp hb
  have:=h _ hc
  rw[show ev (a::f) (1::xs)=a * 1+ev f xs from rfl,j3 f xs h2,Int.mul_one,Int.add_zero] at this
  exact absurd (of_decide_eq_true h1) (Int.not_lt.mpr this)
theorem rq{xs:List Int}:∀ (n:Nat) (cs:List (List Int)),(∀ c∈cs,0≤ev c (1::xs))→fm n cs=true→False
 | 0,cs,h,hf=>l4 h hf
 | n+1,cs,h,hf=>by
  rcases (Bool.or_eq_true _ _).mp hf with q | q
  ·exact l4 h q
  ·refine rq (xs:=xs) n _ (fun c hc=>?_) q
   rcases List.mem_append.mp hc with hc | hc
   ·exact h c (List.mem_filter.mp hc).1
   ·obtain⟨p,hp,hc⟩:=List.mem_flatMap.mp hc
    obtain⟨r,hr,rfl⟩:=List.mem_map.mp hc
    obtain⟨hp,p1⟩:=List.mem_filter.mp hp
    obtain⟨hr,r1⟩:=List.mem_filter.mp hr
    rw[gg,j4,j4]
    exact Int.add_nonneg (Int.mul_nonneg (Int.neg_nonneg_of_nonpos (Int.le_of_lt (of_decide_eq_true r1))) (h p hp)) (Int.mul_nonneg (Int.le_of_lt (of_decide_eq_true p1)) (h r hr))
inductive E where
 | v (i:Nat)
 | n (k:Nat)
 | a (x y:E)
 | s (x y:E)
 | mn (x y:E)
 | mx (x y:E)
 | m (k:Nat) (x:E)
noncomputable def vl:List Nat→Nat→Nat
 | [],_=>0
 | a::_,0=>a
 | _::l,i+1=>vl l i
noncomputable def E.d(xs:List Nat):E→Nat
 | v i=>vl xs i
 | n k=>k
 | a x y=>x.d xs+y.d xs
 | s x y=>x.d xs - y.d xs
 | mn x y=>min (x.d xs) (y.d xs)
 | mx x y=>max (x.d xs) (y.d xs)
 | m k x=>k * x.d xs
noncomputable def E.l:E→List (List (List Int)×List Int)
 | v i=>[([],uf (i+1))]
 | n k=>[([],[Int.ofNat k])]
 | a x y=>x.l.flatMap fun p=>y.l.map fun q=>(p.1++q.1,add p.2 q.2)
 | s x y=>x.l.flatMap fun p=>y.l.flatMap fun q=>[(sub p.2 q.2::p.1++q.1,sub p.2 q.2),(sub q.2 p.2::p.1++q.1,[])]
 | mn x y=>x.l.flatMap fun p=>y.l.flatMap fun q=>[(sub q.2 p.2::p.1++q.1,p.2),(sub p.2 q.2::p.1++q.1,q.2)]
 | mx x y=>x.l.flatMap fun p=>y.l.flatMap fun q=>[(sub q.2 p.2::p.1++q.1,q.2),(sub p.2 q.2::p.1++q.1,p.2)]
 | m k x=>x.l.map fun p=>(p.1,sm (Int.ofNat k) p.2)
noncomputable def en(xs:List Nat):List Int:=1::xs.map Int.ofNat
theorem nV:∀ (i:Nat) (xs:List Nat),ev (uf i) (xs.map Int.ofNat)=(vl xs i:Int)
 | 0,[]=>rfl
 | 0,x::xs=>by show 1 * (x:Int)+ev [] _=_;rw[ds,Int.one_mul,Int.add_zero];rfl
 | i+1,[]=>rfl
 | i+1,x::xs=>by show 0 * (x:Int)+ev (uf i) _=_;rw[nV i xs,Int.zero_mul,Int.zero_add];rfl
noncomputable def gq(xs:List Nat)(gs:List (List Int)):Prop:=∀ g∈gs,0≤ev g (en xs)
theorem bU{xs:List Nat}{a b:List (List Int)}(h:gq xs a)(h2:gq xs b):gq xs (a++b):=fun g hg=>(List.mem_append.mp hg).elim (h g) (h2 g)
theorem b9{xs:List Nat}{c:List Int}{b:List (List Int)}(h:0≤ev c (en xs))(h2:gq xs b):gq xs (c::b):=fun g hg=>by
 rcases List.mem_cons.mp hg with rfl | q
 ·exact h
 ·exact h2 g q
noncomputable def IsL(xs:List Nat)(e:E)(p:List (List Int)×List Int):Prop:=gq xs p.1∧ev p.2 (en xs)=(e.d xs:Int)
theorem two{xs:List Nat}{x y:E}{G:List (List Int)×List Int→List (List Int)×List Int→List (List (List Int)×List Int)}{P:List (List Int)×List Int→Prop}
  (hx:∃ p∈x.l,IsL xs x p) (hy:∃ p∈y.l,IsL xs y p) (h:∀ p q,IsL xs x p→IsL xs y q→∃ r∈G p q,P r):∃ r∈(x.l.flatMap fun p=>y.l.flatMap fun q=>G p q),P r:=by
 obtain⟨p,hp,ip⟩:=hx
 obtain⟨q,hq,iq⟩:=hy
 obtain⟨r,hr,z⟩:=h p q ip iq
 exact⟨r,List.mem_flatMap.mpr ⟨p,hp,List.mem_flatMap.mpr ⟨q,hq,hr⟩⟩,z⟩
theorem nZ{xs:List Nat}{x y:E}{p q:List (List Int)×List Int}(hp:IsL xs x p)(hq:IsL xs y q) :
  (y.d xs≤x.d xs∧gq xs (sub p.2 q.2::p.1++q.1))∨(x.d xs≤y.d xs∧gq xs (sub q.2 p.2::p.1++q.1)):=by
 rcases Nat.le_total (y.d xs) (x.d xs) with h | h
 ·refine .inl ⟨h,b9 ?_ (bU hp.1 hq.1)⟩
  rw[gf,hp.2,hq.2]
  exact Int.sub_nonneg_of_le (Int.ofNat_le.mpr h)
 ·refine .inr ⟨h,b9 ?_ (bU hp.1 hq.1)⟩
  rw[gf,hp.2,hq.2]
  exact Int.sub_nonneg_of_le (Int.ofNat_le.mpr h)
theorem iL(xs:List Nat):∀ e:E,∃ p∈e.l,IsL xs e p
 | .v i=>⟨_,.head _,(fun g hg=>by cases hg),by
  show 0 * 1+ev (uf i) _=_
  rw[nV,Int.zero_mul,Int.zero_add];rfl⟩
 | .n k=>⟨_,.head _,(fun g hg=>by cases hg),by
  show (k:Int) * 1+ev [] _=_
  rw[ds,Int.mul_one,Int.add_zero];rfl⟩
 | .a x y=>by
  obtain⟨p,hp,ip⟩:=iL xs x
  obtain⟨q,hq,iq⟩:=iL xs y
  refine⟨_,List.mem_flatMap.mpr ⟨p,hp,List.mem_map.mpr ⟨q,hq,rfl⟩⟩,bU ip.1 iq.1,?_⟩
  rw[gg,ip.2,iq.2];rfl
 | .s x y=>two (iL xs x) (iL xs y) fun p q ip iq=>by
  rcases nZ ip iq with⟨h,z⟩ | ⟨h,z⟩
  ·refine⟨_,.head _,z,?_⟩
   rw[gf,ip.2,iq.2]
   exact (Int.ofNat_sub h).symm
  ·refine⟨_,.tail _ (.head _),z,?_⟩
   rw[ds,show E.d xs (.s x y)=x.d xs - y.d xs from rfl,Nat.sub_eq_zero_of_le h];rfl
 | .mn x y=>two (iL xs x) (iL xs y) fun p q ip iq=>by
  rcases nZ ip iq with⟨h,z⟩ | ⟨h,z⟩
  ·exact⟨_,.tail _ (.head _),z,by rw[iq.2,show E.d xs (.mn x y)=min (x.d xs) (y.d xs) from rfl,Nat.min_eq_right h]⟩
  ·exact⟨_,.head _,z,by rw[ip.2,show E.d xs (.mn x y)=min (x.d xs) (y.d xs) from rfl,Nat.min_eq_left h]⟩
 | .mx x y=>two (iL xs x) (iL xs y) fun p q ip iq=>by
  rcases nZ ip iq with⟨h,z⟩ | ⟨h,z⟩
  ·exact⟨_,.tail _ (.head _),z,by rw[ip.2,show E.d xs (.mx x y)=max (x.d xs) (y.d xs) from rfl,Nat.max_eq_left h]⟩
  ·exact⟨_,.head _,z,by rw[iq.2,show E.d xs (.mx x y)=max (x.d xs) (y.d xs) from rfl,Nat.max_eq_right h]⟩
 | .m k x=>by
  obtain⟨p,hp,ip⟩:=iL xs x
  refine⟨_,List.mem_map.mpr ⟨p,hp,rfl⟩,ip.1,?_⟩
  rw[j4,ip.2];rfl
inductive P where
 | le (x y:E)
 | lt (x y:E)
 | eq (x y:E)
 | ne (x y:E)
 | f
 | no (p:P)
 | an (p q:P)
 | or (p q:P)
 | i (p q:P)
noncomputable def P.d(xs:List Nat):P→Prop
 | le x y=>x.d xs≤y.d xs
 | lt x y=>x.d xs<y.d xs
 | eq x y=>x.d xs=y.d xs
 | ne x y=>x.d xs≠y.d xs
 | f=>False
 | no p=>¬ p.d xs
 | an p q=>p.d xs∧q.d xs
 | or p q=>p.d xs∨q.d xs
 | i p q=>p.d xs→q.d xs
noncomputable def le1(x y:E):List (List (List Int)):=x.l.flatMap fun p=>y.l.flatMap fun q=>[sub q.2 p.2::p.1++q.1]
noncomputable def lt1(x y:E):List (List (List Int)):=x.l.flatMap fun p=>y.l.flatMap fun q=>[add [-1] (sub q.2 p.2)::p.1++q.1]
noncomputable def pr(a b:List (List (List Int))):List (List (List Int)):=a.flatMap fun p=>b.map fun q=>p++q
noncomputable def P.w:P→Bool→List (List (List Int))
 | le x y,true=>le1 x y
 | le x y,false=>lt1 y x
 | lt x y,true=>lt1 x y
 | lt x y,false=>le1 y x
 | eq x y,true=>pr (le1 x y) (le1 y x)
 | eq x y,false=>lt1 x y++lt1 y x
 | ne x y,false=>pr (le1 x y) (le1 y x)
 | ne x y,true=>lt1 x y++lt1 y x
 | f,true=>[]
 | f,false=>[[]]
 | no p,true=>p.w false
 | no p,false=>p.w true
 | an p q,true=>pr (p.w true) (q.w true)
 | an p q,false=>p.w false++q.w false
 | or p q,true=>p.w true++q.w true
 | or p q,false=>pr (p.w false) (q.w false)
 | i p q,true=>p.w false++q.w true
 | i p q,false=>pr (p.w true) (q.w false)
noncomputable def Som(xs:List Nat)(l:List (List (List Int))):Prop:=∃ c∈l,gq xs c
theorem gZ{xs:List Nat}{a b:List (List (List Int))}(h:Som xs a)(h2:Som xs b):Som xs (pr a b):=by
 obtain⟨c,hc,z⟩:=h
 obtain⟨d,hd,y⟩:=h2
 exact⟨c++d,List.mem_flatMap.mpr ⟨c,hc,List.mem_map.mpr ⟨d,hd,rfl⟩⟩,bU z y⟩
theorem kD{xs:List Nat}{a b:List (List (List Int))}(h:Som xs a):Som xs (a++b):=let ⟨c,hc,z⟩:=h;⟨c,List.mem_append_left _ hc,z⟩
theorem kC{xs:List Nat}{a b:List (List (List Int))}(h:Som xs b):Som xs (a++b):=let ⟨c,hc,z⟩:=h;⟨c,List.mem_append_right _ hc,z⟩
theorem som_le{xs:List Nat}{x y:E}(h:x.d xs≤y.d xs):Som xs (le1 x y):=by
 obtain⟨p,hp,ip⟩:=iL xs x
 obtain⟨q,hq,iq⟩:=iL xs y
 refine⟨_,List.mem_flatMap.mpr ⟨p,hp,List.mem_flatMap.mpr ⟨q,hq,.head _⟩⟩,b9 ?_ (bU ip.1 iq.1)⟩
 rw[gf,ip.2,iq.2]
 exact Int.sub_nonneg_of_le (Int.ofNat_le.mpr h)
theorem som_lt{xs:List Nat}{x y:E}(h:x.d xs<y.d xs):Som xs (lt1 x y):=by
 obtain⟨p,hp,ip⟩:=iL xs x
 obtain⟨q,hq,iq⟩:=iL xs y
 refine⟨_,List.mem_flatMap.mpr ⟨p,hp,List.mem_flatMap.mpr ⟨q,hq,.head _⟩⟩,b9 ?_ (bU ip.1 iq.1)⟩
 rw[gg,gf,ip.2,iq.2,show ev [-1] (en xs) = -1 from by show -1 * 1+ev [] _=_;rw[ds];rfl]
 have:=Int.sub_pos_of_lt (Int.ofNat_lt.mpr h)
 rw[Int.add_comm]
 exact Int.le_sub_one_of_lt this
theorem som_eq{xs:List Nat}{x y:E}(h:x.d xs=y.d xs):Som xs (pr (le1 x y) (le1 y x)):=gZ (som_le (Nat.le_of_eq h)) (som_le (Nat.le_of_eq h.symm))
theorem som_ne{xs:List Nat}{x y:E}(h:x.d xs≠y.d xs):Som xs (lt1 x y++lt1 y x):=(Nat.lt_or_gt_of_ne h).elim (fun q=>kD (som_lt q)) fun q=>kC (som_lt q)
theorem gu(xs:List Nat):∀ p:P,(p.d xs→Som xs (p.w true))∧(¬ p.d xs→Som xs (p.w false))
 | .le x y=>⟨som_le,fun h=>som_lt (Nat.not_le.mp h)⟩
 | .lt x y=>⟨som_lt,fun h=>som_le (Nat.not_lt.mp h)⟩
 | .eq x y=>⟨som_eq,som_ne⟩
 | .ne x y=>⟨som_ne,fun h=>som_eq (Classical.not_not.mp h)⟩
 | .f=>⟨False.elim,fun _=>⟨[],.head _,fun g hg=>by cases hg⟩⟩
 | .no p=>⟨(gu xs p).2,fun h=>(gu xs p).1 (Classical.not_not.mp h)⟩
 | .an p q=>⟨fun h=>gZ ((gu xs p).1 h.1) ((gu xs q).1 h.2),fun h=>(Classical.not_and_iff_not_or_not.mp h).elim (fun z=>kD ((gu xs p).2 z)) fun z=>kC ((gu xs q).2 z)⟩
 | .or p q=>⟨fun h=>h.elim (fun z=>kD ((gu xs p).1 z)) fun z=>kC ((gu xs q).1 z),fun h=>gZ ((gu xs p).2 fun z=>h (.inl z)) ((gu xs q).2 fun z=>h (.inr z))⟩
 | .i p q=>⟨fun h=>(Classical.em (p.d xs)).elim (fun z=>kC ((gu xs q).1 (h z))) fun z=>kD ((gu xs p).2 z),
   fun h=>gZ ((gu xs p).1 (Classical.byContradiction fun z=>h fun y=>absurd y z)) ((gu xs q).2 fun z=>h fun _=>z)⟩
noncomputable def us:Nat→List (List Int)
 | 0=>[]
 | k+1=>uf (k+1)::us k
noncomputable def chk(k:Nat)(p:P):Bool:=(p.w false).all fun c=>fm k (us k++c)
theorem oP(xs:List Nat):∀ k,gq xs (us k)
 | 0=>fun g hg=>by cases hg
 | k+1=>b9 (by
   show 0≤0 * 1+ev (uf k) _
   rw[nV,Int.zero_mul,Int.zero_add];exact Int.natCast_nonneg _) (oP xs k)
theorem ok(p:P)(xs:List Nat)(h:chk xs.length p=true):p.d xs:=Classical.byContradiction fun q=>by
 obtain⟨c,hc,z⟩:=(gu xs p).2 q
 exact rq _ _ (bU (oP xs _) z) (List.all_eq_true.mp h c hc)
end Ar
end Mine
end
section
namespace Mine
theorem dn(k:Nat){x m:Nat}(h:x+k<m):x<m:=Nat.lt_of_le_of_lt (Nat.le_add_right x k) h
theorem up(k:Nat){x m:Nat}(h:x≤m):x≤m+k:=Nat.le_trans h (Nat.le_add_right m k)
theorem ul(k:Nat){x m:Nat}(h:x<m):x≤m+k:=Nat.le_trans (Nat.le_of_lt h) (Nat.le_add_right m k)
section
open Ar E P
theorem z02:∀ {a:Nat},a≤a+(0+1+1)+1+1:=by intros;solve_by_elim (maxDepth:=4) [Nat.le_trans,Nat.lt_of_lt_of_le,Nat.lt_of_le_of_lt,Nat.le_of_lt,Nat.le_of_lt_succ,Nat.lt_succ_of_le,Nat.lt_irrefl,Nat.le_add_right,Nat.le_add_left,Nat.sub_le,Nat.not_lt.mp,Nat.not_le.mp,Nat.le_antisymm,Nat.pos_of_ne_zero,Nat.ne_of_gt,Nat.ne_of_lt,Nat.sub_lt,Nat.zero_lt_succ,Nat.min_le_left,Nat.min_le_right,Nat.le_min.mpr,Nat.succ_le_succ,Nat.add_le_add,Nat.add_lt_add_right,Nat.sub_lt_sub_left,Nat.lt_succ_self,Nat.le_refl,Nat.zero_le]
theorem z03:∀ {a:Nat},a+(0+1+1)+1+1<a+(0+1+1)+1+1+1:=by intro a0 ; exact Nat.lt_add_one (a0+(0+1+1)+1+1)
theorem z04:∀ {a:Nat},a≤a+(0+1+1):=by intro a0 ; exact Nat.le_add_right a0 (0+1+1)
theorem z05:∀ {a:Nat},a+(0+1+1)<a+(0+1+1)+1:=by intro a0 ; exact Nat.lt_add_one (a0+(0+1+1))
theorem z07:∀ {a b:Nat},a=0→b=b+a:=by intro _ _ h;simpa using h
theorem z08:∀ {a:Nat},a≤a+1:=by intro a0 ; exact Nat.le_add_right a0 1
theorem z09:∀ {a b c d:Nat},a=b+c→a+d=b+c+d:=by intro _ _ _ _ h;solve_by_elim (maxDepth:=4) [Nat.le_trans,Nat.lt_of_lt_of_le,Nat.lt_of_le_of_lt,Nat.le_of_lt,Nat.le_of_lt_succ,Nat.lt_succ_of_le,Nat.lt_irrefl,Nat.le_add_right,Nat.le_add_left,Nat.sub_le,Nat.not_lt.mp,Nat.not_le.mp,Nat.le_antisymm,Nat.pos_of_ne_zero,Nat.ne_of_gt,Nat.ne_of_lt,Nat.sub_lt,Nat.zero_lt_succ,Nat.min_le_left,Nat.min_le_right,Nat.le_min.mpr,Nat.succ_le_succ,Nat.add_le_add,Nat.add_lt_add_right,Nat.sub_lt_sub_left,Nat.lt_succ_self,Nat.le_refl,Nat.zero_le]
theorem z0a:∀ {a b c:Nat},a+(b+c)=a+b+c:=by intro a0 a1 a2 ; exact Eq.symm (Nat.add_assoc a0 a1 a2)
theorem z0b:∀ {a b c:Nat},a+(b+c)=b+(a+c):=by intro a0 a1 a2 ; exact Nat.add_left_comm a0 a1 a2
theorem z0c:∀ {a b:Nat},¬a<b→b≤a:=by intro a0 a1 h;exact Nat.le_of_not_lt h
theorem z0d:∀ {a:Nat},¬2≤a→a<2:=by intro a0 h;exact Nat.lt_of_not_le h
theorem z0e{a b c d e f:Nat}:a≤b→b+c≤max a d→e≤b - a→f≤d - (b+c)→c+e+f≤d - a:=ok (.i (.le (v 0) (v 1)) (.i (.le (.a (v 1) (v 2)) (mx (v 0) (v 3))) (.i (.le (v 4) (.s (v 1) (v 0))) (.i (.le (v 5) (.s (v 3) (.a (v 1) (v 2)))) (.le (.a (.a (v 2) (v 4)) (v 5)) (.s (v 3) (v 0))))))) [a,b,c,d,e,f] (by kernel_rfl)
theorem z0j{a b:Nat}:a≤60→b≤a→b<64:=ok (.i (.le (v 0) (n 60)) (.i (.le (v 1) (v 0)) (.lt (v 1) (n 64)))) [a,b] (by kernel_rfl)
theorem z0k:∀ {a b:Nat},a≤60→b≤a→b≤60:=by intro a0 a1 h q;exact Nat.le_trans q h
theorem z0l{a b c:Nat}:a≤60→b<a→c≤b→c≤1000:=ok (.i (.le (v 0) (n 60)) (.i (.lt (v 1) (v 0)) (.i (.le (v 2) (v 1)) (.le (v 2) (n 1000))))) [a,b,c] (by kernel_rfl)
theorem z0m{a b c:Nat}:a≤b→c≤a+1→c≤b+1:=ok (.i (.le (v 0) (v 1)) (.i (.le (v 2) (.a (v 0) (n 1))) (.le (v 2) (.a (v 1) (n 1))))) [a,b,c] (by kernel_rfl)
theorem z0n{a b c d e f:Nat}:a+b=c→d+e=a+b+f→d+e=c+f:=ok (.i (.eq (.a (v 0) (v 1)) (v 2)) (.i (.eq (.a (v 3) (v 4)) (.a (.a (v 0) (v 1)) (v 5))) (.eq (.a (v 3) (v 4)) (.a (v 2) (v 5))))) [a,b,c,d,e,f] (by kernel_rfl)
theorem z0o{a b:Nat}:a≤60→b≤a→b≤10000:=ok (.i (.le (v 0) (n 60)) (.i (.le (v 1) (v 0)) (.le (v 1) (n 10000)))) [a,b] (by kernel_rfl)
theorem z0q{a b:Nat}:a≤60→b≤a→b≤61:=ok (.i (.le (v 0) (n 60)) (.i (.le (v 1) (v 0)) (.le (v 1) (n 61)))) [a,b] (by kernel_rfl)
theorem z0v{a b c:Nat}:a=b→c=a→c=b:=ok (.i (.eq (v 0) (v 1)) (.i (.eq (v 2) (v 0)) (.eq (v 2) (v 1)))) [a,b,c] (by kernel_rfl)
theorem z0w{a b:Nat}:a≤62→b=a→b≤100:=ok (.i (.le (v 0) (n 62)) (.i (.eq (v 1) (v 0)) (.le (v 1) (n 100)))) [a,b] (by kernel_rfl)
theorem z0x:∀ {a b:Nat},(↑a:Int)+(↑b:Int)=(↑(a+b):Int):=by intro a0 a1 ; exact Int.ofNat_add_ofNat a0 a1
theorem z0z{a:Nat}:a≤a+((0:Nat)+(1:Nat))+(1:Nat):=ok (.le (v 0) (.a (.a (v 0) (.a (n 0) (n 1))) (n 1))) [a] (by kernel_rfl)
theorem z11:∀ {a:Nat},a+3≤a+10:=by intros;solve_by_elim (maxDepth:=4) [Nat.le_trans,Nat.lt_of_lt_of_le,Nat.lt_of_le_of_lt,Nat.le_of_lt,Nat.le_of_lt_succ,Nat.lt_succ_of_le,Nat.lt_irrefl,Nat.le_add_right,Nat.le_add_left,Nat.sub_le,Nat.not_lt.mp,Nat.not_le.mp,Nat.le_antisymm,Nat.pos_of_ne_zero,Nat.ne_of_gt,Nat.ne_of_lt,Nat.sub_lt,Nat.zero_lt_succ,Nat.min_le_left,Nat.min_le_right,Nat.le_min.mpr,Nat.succ_le_succ,Nat.add_le_add,Nat.add_lt_add_right,Nat.sub_lt_sub_left,Nat.lt_succ_self,Nat.le_refl,Nat.zero_le]
theorem z12{a b c:Nat}:a≤b→b+1≤c→a≤c:=ok (.i (.le (v 0) (v 1)) (.i (.le (.a (v 1) (n 1)) (v 2)) (.le (v 0) (v 2)))) [a,b,c] (by kernel_rfl)
theorem z13:∀ {a:Nat},(0:Int)≤(↑a:Int):=by intro a0 ; exact Int.natCast_nonneg a0
theorem z14:∀ {a b:Nat},a≤(60:Nat)→b≤a→(↑b:Int)≤(1000:Int):=by intro _ _ h q;lia
theorem z15:∀ {a b:Nat},(0:Int)≤(↑a:Int)+(↑b:Int):=by intro a0 a1 ; exact Int.zero_le_ofNat (a0+a1)
theorem z16:∀ {a b:Nat},a≤(60:Nat)→b≤(60:Nat)→(↑a:Int)+(↑b:Int)≤(1000:Int):=by intro _ _ h q;lia
theorem z18{a b c:Nat}:a+6<b→c=a+1→c+4<b:=ok (.i (.lt (.a (v 0) (n 6)) (v 1)) (.i (.eq (v 2) (.a (v 0) (n 1))) (.lt (.a (v 2) (n 4)) (v 1)))) [a,b,c] (by kernel_rfl)
theorem z19{a b c:Nat}:a+40<b→c≤a+10→c+20<b:=ok (.i (.lt (.a (v 0) (n 40)) (v 1)) (.i (.le (v 2) (.a (v 0) (n 10))) (.lt (.a (v 2) (n 20)) (v 1)))) [a,b,c] (by kernel_rfl)
theorem z1a{a b c:Nat}:a+6<b→c=a+1→c<b:=ok (.i (.lt (.a (v 0) (n 6)) (v 1)) (.i (.eq (v 2) (.a (v 0) (n 1))) (.lt (v 2) (v 1)))) [a,b,c] (by kernel_rfl)
theorem z1f{a b:Nat}:a+(1:Nat)≤b→a≤b:=ok (.i (.le (.a (v 0) (n 1)) (v 1)) (.le (v 0) (v 1))) [a,b] (by kernel_rfl)
theorem z1i:∀ {a:Nat},0<a→¬a=0:=by intro a0 h;exact Nat.ne_zero_of_lt h
theorem z1k{a:Nat}:(1:Nat)≤a+(1:Nat):=ok (.le (n 1) (.a (v 0) (n 1))) [a] (by kernel_rfl)
theorem z1r:∀ {a b c:Nat},a≤b→c≤a→c≤b:=by intro a0 a1 a2 h q;exact Nat.le_trans q h
theorem z1s:∀ {a b:Nat},a≤b∨b≤a:=by intro a0 a1 ; exact Nat.le_total a0 a1
theorem z1w:∀ {a:Nat},a≠(1:Nat)→¬(↑a:Int)=(1:Int):=by intro a0 h;exact Nat.ToInt.of_diseq rfl rfl h
theorem z1y:∀ {a b:Nat},decide ((↑a:Int)≥(↑b:Int))=true→b≤a:=by intro _ _ h;simpa using h
theorem z1z:∀ {a b:Nat},decide ((↑a:Int)≥(↑b:Int))=false→a<b:=by intro _ _ h;simpa using h
theorem z20{a b:Nat}:a=b→¬a<b:=ok (.i (.eq (v 0) (v 1)) (no (.lt (v 0) (v 1)))) [a,b] (by kernel_rfl)
theorem z21{a:Nat}:a≤60→a<64:=ok (.i (.le (v 0) (n 60)) (.lt (v 0) (n 64))) [a] (by kernel_rfl)
theorem z22:∀ {a:Nat},2≤a→0<a:=by intro _ h;exact Nat.le_of_lt h
theorem z26:∀ {a:Int},-60≤a→a≤0→-400≤a∧a≤400:=by intro _ h q;lia
theorem z27:∀ {a b:Nat}{c d:Int},decide (a=b)=true→(c == d)=true→¬↑a * 1000+c < ↑b * 1000+d:=by intro _ _ _ _ h q;lia
theorem z2a:∀ {a b c:Nat},a<b→b=c→a<c:=by intro a0 a1 a2 h q;exact Nat.lt_of_lt_of_eq h q
theorem z2b:∀ {a:Nat}{b:Int},-↑a≤b→-↑(a+1)≤b:=by intro _ _ h;lia
theorem z2c:∀ {a:Int},a≤0→a - 1≤0:=by intro _ h;lia
theorem z2d:∀ {a:Nat}{b:Int},-↑a≤b→-↑(a+1)≤b - 1:=by intro _ _ h;lia
theorem z2e:∀ {a:Nat}{b:Int},a<60→b≤0→-↑a≤b→-60≤b∧b≤0:=by intro _ _ h q r;lia
theorem z2f:∀ {a b:Nat},a<b→a≤b:=by intro _ _ h;exact Nat.le_of_lt h
theorem z2g:∀ {a b:Nat},-((↑a:Int)+(↑(b+(1:Nat)):Int))≤-(↑a:Int):=by intros;lia
theorem z2h:∀ {a:Nat},-(↑a:Int)≤(0:Int):=by intro a0 ; exact Int.neg_natCast_le_ofNat a0 0
theorem z2i:∀ {a b:Nat},a+(b+1)=a+1+b:=by intro a0 a1 ; exact Eq.symm (Nat.succ_add_eq_add_succ a0 a1)
theorem z2j:∀ {a b:Nat}{c:Int},-(↑(a+1) + ↑b)≤c→c≤0→-(↑a + ↑(b+1))≤c∧c≤0:=by intro _ _ _ h q;lia
theorem z2k{a b:Nat}:a≤60→b<a→b<61:=ok (.i (.le (v 0) (n 60)) (.i (.lt (v 1) (v 0)) (.lt (v 1) (n 61)))) [a,b] (by kernel_rfl)
theorem z2l{a b c:Nat}:a<b→c=a→c≤b:=ok (.i (.lt (v 0) (v 1)) (.i (.eq (v 2) (v 0)) (.le (v 2) (v 1)))) [a,b,c] (by kernel_rfl)
theorem z2m:∀ {a b c:Nat}{d:Int},a≤(60:Nat)→b<a→c=b→-((↑(0:Nat):Int)+(↑c:Int))≤d→d≤(0:Int)→(-60:Int)≤d∧d≤(0:Int):=by intro _ _ _ _ h q r s t;lia
theorem z2n{a b c:Nat}:a≤60→b<a→c=b→c≤1000:=ok (.i (.le (v 0) (n 60)) (.i (.lt (v 1) (v 0)) (.i (.eq (v 2) (v 1)) (.le (v 2) (n 1000))))) [a,b,c] (by kernel_rfl)
theorem z2o{a b:Nat}:0<a→b=a→b=0→False:=ok (.i (.lt (n 0) (v 0)) (.i (.eq (v 1) (v 0)) (.i (.eq (v 1) (n 0)) P.f))) [a,b] (by kernel_rfl)
theorem z2q:∀ {a:Nat},-(↑a:Int)≤-(↑a:Int):=by intro a0 ; exact Int.le_refl (-↑a0)
theorem z2r{a b c d:Nat}:a=b→c=b→d<a→d<c:=ok (.i (.eq (v 0) (v 1)) (.i (.eq (v 2) (v 1)) (.i (.lt (v 3) (v 0)) (.lt (v 3) (v 2))))) [a,b,c,d] (by kernel_rfl)
theorem z2u{a b:Nat}:a≤60→b+1=a→b≤999:=ok (.i (.le (v 0) (n 60)) (.i (.eq (.a (v 1) (n 1)) (v 0)) (.le (v 1) (n 999)))) [a,b] (by kernel_rfl)
theorem z2v:∀ {a b c:Nat},a=b→c<b→c<a:=by intro a0 a1 a2 h q;exact Nat.lt_of_lt_of_eq q (id (Eq.symm h))
theorem z2w:∀ {a b:Nat}{c:Prop},a+1=b→0=b→c:=by intro _ _ _ h q;lia
theorem z2x{a b:Nat}:a≤60→b+1=a→b≤900:=ok (.i (.le (v 0) (n 60)) (.i (.eq (.a (v 1) (n 1)) (v 0)) (.le (v 1) (n 900)))) [a,b] (by kernel_rfl)
theorem z2y:∀ {a b:Nat},decide (a<b)=false→b≤a:=by intro _ _ h;simpa using h
theorem z2z:∀ {a:Nat}{b:Prop},0<a→0=a→b:=by intro _ _ h q;solve_by_elim (maxDepth:=4) [Nat.le_trans,Nat.lt_of_lt_of_le,Nat.lt_of_le_of_lt,Nat.le_of_lt,Nat.le_of_lt_succ,Nat.lt_succ_of_le,Nat.lt_irrefl,Nat.le_add_right,Nat.le_add_left,Nat.sub_le,Nat.not_lt.mp,Nat.not_le.mp,Nat.le_antisymm,Nat.pos_of_ne_zero,Nat.ne_of_gt,Nat.ne_of_lt,Nat.sub_lt,Nat.zero_lt_succ,Nat.min_le_left,Nat.min_le_right,Nat.le_min.mpr,Nat.succ_le_succ,Nat.add_le_add,Nat.add_lt_add_right,Nat.sub_lt_sub_left,Nat.lt_succ_self,Nat.le_refl,Nat.zero_le]
theorem z30{a b c:Nat}:a≤60→b<a→c+1=b→c≤900:=ok (.i (.le (v 0) (n 60)) (.i (.lt (v 1) (v 0)) (.i (.eq (.a (v 2) (n 1)) (v 1)) (.le (v 2) (n 900))))) [a,b,c] (by kernel_rfl)
theorem z31:∀ {a b:Nat},a≤60→b<a→b<60:=by intro a0 a1 h q;exact Nat.lt_of_lt_of_le q h
theorem z32{a b:Nat}:a≤60→b<a→b≤60:=ok (.i (.le (v 0) (n 60)) (.i (.lt (v 1) (v 0)) (.le (v 1) (n 60)))) [a,b] (by kernel_rfl)
theorem z33:∀ {a:Int}{b:Nat},-60≤a→0≤↑b * 1000+a+60:=by intro _ _ h;lia
theorem z34{a b c:Nat}:a≤60→b<a→c+1=b→c+1<64:=ok (.i (.le (v 0) (n 60)) (.i (.lt (v 1) (v 0)) (.i (.eq (.a (v 2) (n 1)) (v 1)) (.lt (.a (v 2) (n 1)) (n 64))))) [a,b,c] (by kernel_rfl)
theorem z37:∀ {a b:Int},(a+60).toNat≤(b+60).toNat→0≤b+60→a≤b:=by intro _ _ h q;lia
theorem z38:∀ {a b:Nat},min a b≤a:=by intro a0 a1 ; exact Nat.min_le_left a0 a1
theorem z3c:∀ {a b:Nat},(0:Int)≤min (↑a:Int) (↑b:Int):=by intros;lia
theorem z3d:∀ {a b:Nat},a≤(60:Nat)→min (↑a:Int) (↑b:Int)≤(1000:Int):=by intro _ _ h;lia
theorem z3e:∀ {a:Nat},a<9→a+1<10:=by intro a0 h;exact Nat.add_lt_of_lt_sub h
theorem z3f:∀ {a:Nat},a<9→a<10:=by intro a0 h;exact Nat.lt_succ_of_lt h
theorem z3g{a:Nat}:9 - (a+1)≤16777216:=ok (.le (.s (n 9) (.a (v 0) (n 1))) (n 16777216)) [a] (by kernel_rfl)
theorem z3j{a:Nat}:a<9→¬a=8→¬8 - a=0:=ok (.i (.lt (v 0) (n 9)) (.i (no (.eq (v 0) (n 8))) (no (.eq (.s (n 8) (v 0)) (n 0))))) [a] (by kernel_rfl)
theorem z3l{a b:Nat}:a+1+1+1≤b→a≤b:=ok (.i (.le (.a (.a (.a (v 0) (n 1)) (n 1)) (n 1)) (v 1)) (.le (v 0) (v 1))) [a,b] (by kernel_rfl)
theorem z3m{a b:Nat}:a+(1:Nat)+(1:Nat)≤b→a≤b:=ok (.i (.le (.a (.a (v 0) (n 1)) (n 1)) (v 1)) (.le (v 0) (v 1))) [a,b] (by kernel_rfl)
theorem z3n{a b c d e:Nat}:a<b→c≤a→b≤d→e<c→e<d:=ok (.i (.lt (v 0) (v 1)) (.i (.le (v 2) (v 0)) (.i (.le (v 1) (v 3)) (.i (.lt (v 4) (v 2)) (.lt (v 4) (v 3)))))) [a,b,c,d,e] (by kernel_rfl)
theorem z3o{a b c d e:Nat}:a+1≤b→c<d→b≤c→d≤e→a≤e:=ok (.i (.le (.a (v 0) (n 1)) (v 1)) (.i (.lt (v 2) (v 3)) (.i (.le (v 1) (v 2)) (.i (.le (v 3) (v 4)) (.le (v 0) (v 4)))))) [a,b,c,d,e] (by kernel_rfl)
theorem z3p:∀ {a:Nat},a≤a+1+1:=by intros;solve_by_elim (maxDepth:=4) [Nat.le_trans,Nat.lt_of_lt_of_le,Nat.lt_of_le_of_lt,Nat.le_of_lt,Nat.le_of_lt_succ,Nat.lt_succ_of_le,Nat.lt_irrefl,Nat.le_add_right,Nat.le_add_left,Nat.sub_le,Nat.not_lt.mp,Nat.not_le.mp,Nat.le_antisymm,Nat.pos_of_ne_zero,Nat.ne_of_gt,Nat.ne_of_lt,Nat.sub_lt,Nat.zero_lt_succ,Nat.min_le_left,Nat.min_le_right,Nat.le_min.mpr,Nat.succ_le_succ,Nat.add_le_add,Nat.add_lt_add_right,Nat.sub_lt_sub_left,Nat.lt_succ_self,Nat.le_refl,Nat.zero_le]
theorem z3q:∀ {a b c:Nat},a≤b→b≤c→a≤c:=by intro a0 a1 a2 h q;exact Nat.le_trans h q
theorem z3r{a b c d e f g i j:Nat}:a<b→c<d→b≤c→d+1≤e→f<g→e≤f→g≤i→i+1+1+1≤j→a<j:=ok (.i (.lt (v 0) (v 1)) (.i (.lt (v 2) (v 3)) (.i (.le (v 1) (v 2)) (.i (.le (.a (v 3) (n 1)) (v 4)) (.i (.lt (v 5) (v 6)) (.i (.le (v 4) (v 5)) (.i (.le (v 6) (v 7)) (.i (.le (.a (.a (.a (v 7) (n 1)) (n 1)) (n 1)) (v 8)) (.lt (v 0) (v 8)))))))))) [a,b,c,d,e,f,g,i,j] (by kernel_rfl)
theorem z3s{a b c d e f g:Nat}:a≤b→c<d→b≤c→e<f→d≤e→f≤g→a≤g:=ok (.i (.le (v 0) (v 1)) (.i (.lt (v 2) (v 3)) (.i (.le (v 1) (v 2)) (.i (.lt (v 4) (v 5)) (.i (.le (v 3) (v 4)) (.i (.le (v 5) (v 6)) (.le (v 0) (v 6)))))))) [a,b,c,d,e,f,g] (by kernel_rfl)
theorem z3t{a b c:Nat}:a<b→b+1+1+1≤c→a<c:=ok (.i (.lt (v 0) (v 1)) (.i (.le (.a (.a (.a (v 1) (n 1)) (n 1)) (n 1)) (v 2)) (.lt (v 0) (v 2)))) [a,b,c] (by kernel_rfl)
theorem z3u{a b c:Nat}:776≤a→a≤b→b≤c→741<c:=ok (.i (.le (n 776) (v 0)) (.i (.le (v 0) (v 1)) (.i (.le (v 1) (v 2)) (.lt (n 741) (v 2))))) [a,b,c] (by kernel_rfl)
theorem z3v{a b c d e f g:Nat}:776≤a→a≤b→c<d→b≤c→e<f→d≤e→f≤g→741<g:=ok (.i (.le (n 776) (v 0)) (.i (.le (v 0) (v 1)) (.i (.lt (v 2) (v 3)) (.i (.le (v 1) (v 2)) (.i (.lt (v 4) (v 5)) (.i (.le (v 3) (v 4)) (.i (.le (v 5) (v 6)) (.lt (n 741) (v 6))))))))) [a,b,c,d,e,f,g] (by kernel_rfl)
theorem z3w{a b c d e:Nat}:a<b→c<d→b≤c→d≤e→a<e:=ok (.i (.lt (v 0) (v 1)) (.i (.lt (v 2) (v 3)) (.i (.le (v 1) (v 2)) (.i (.le (v 3) (v 4)) (.lt (v 0) (v 4)))))) [a,b,c,d,e] (by kernel_rfl)
theorem z3x{a b c d e f g i j k l m:Nat}:776≤a→a≤b→c<d→b≤c→e<f→d≤e→f+1≤g→i<j→g≤i→j≤k→k+1+1+1≤l→l≤m→776≤m:=ok (.i (.le (n 776) (v 0)) (.i (.le (v 0) (v 1)) (.i (.lt (v 2) (v 3)) (.i (.le (v 1) (v 2)) (.i (.lt (v 4) (v 5)) (.i (.le (v 3) (v 4)) (.i (.le (.a (v 5) (n 1)) (v 6)) (.i (.lt (v 7) (v 8)) (.i (.le (v 6) (v 7)) (.i (.le (v 8) (v 9)) (.i (.le (.a (.a (.a (v 9) (n 1)) (n 1)) (n 1)) (v 10)) (.i (.le (v 10) (v 11)) (.le (n 776) (v 11)))))))))))))) [a,b,c,d,e,f,g,i,j,k,l,m] (by kernel_rfl)
theorem z3y{a b c d e f g i j k l m:Nat}:a≤b→c<d→b≤c→e<f→d≤e→f+1≤g→i<j→g≤i→j≤k→k+1+1+1≤l→l≤m→a≤m:=ok (.i (.le (v 0) (v 1)) (.i (.lt (v 2) (v 3)) (.i (.le (v 1) (v 2)) (.i (.lt (v 4) (v 5)) (.i (.le (v 3) (v 4)) (.i (.le (.a (v 5) (n 1)) (v 6)) (.i (.lt (v 7) (v 8)) (.i (.le (v 6) (v 7)) (.i (.le (v 8) (v 9)) (.i (.le (.a (.a (.a (v 9) (n 1)) (n 1)) (n 1)) (v 10)) (.i (.le (v 10) (v 11)) (.le (v 0) (v 11))))))))))))) [a,b,c,d,e,f,g,i,j,k,l,m] (by kernel_rfl)
theorem z3z{a b:Nat}:a=b+1+1+1→a=3+b:=ok (.i (.eq (v 0) (.a (.a (.a (v 1) (n 1)) (n 1)) (n 1))) (.eq (v 0) (.a (n 3) (v 1)))) [a,b] (by kernel_rfl)
theorem z40:∀ {a:Nat},a<(7:Nat)→(9:Int) - ((2:Int)+(↑a:Int))=(↑((7:Nat) - a):Int):=by intro _ h;lia
theorem z41{a:Nat}:7 - a<9:=ok (.lt (.s (n 7) (v 0)) (n 9)) [a] (by kernel_rfl)
theorem z42:∀ {a:Nat},a<(7:Nat)→(18:Int) - (2:Int) * ((2:Int)+(↑a:Int))=(↑((14:Nat) - (2:Nat) * a):Int):=by intro _ h;lia
theorem z43:∀ {a:Nat},a<(7:Nat)→(18:Int) - ((2:Int)+(↑a:Int))=(↑((16:Nat) - a):Int):=by intro _ h;lia
theorem z44{a:Nat}:a≤a+1+1+1+1+1+1:=ok (.le (v 0) (.a (.a (.a (.a (.a (.a (v 0) (n 1)) (n 1)) (n 1)) (n 1)) (n 1)) (n 1))) [a] (by kernel_rfl)
theorem z45{a b:Nat}:a<7→b=3+a→b≤10000:=ok (.i (.lt (v 0) (n 7)) (.i (.eq (v 1) (.a (n 3) (v 0))) (.le (v 1) (n 10000)))) [a,b] (by kernel_rfl)
theorem z46{a b:Nat}:a+1+1+1+1+1+1≤b→a≤b:=ok (.i (.le (.a (.a (.a (.a (.a (.a (v 0) (n 1)) (n 1)) (n 1)) (n 1)) (n 1)) (n 1)) (v 1)) (.le (v 0) (v 1))) [a,b] (by kernel_rfl)
theorem z47{a b c d e:Nat}:a<b→c≤a→b+1+1+1+1+1+1≤d→e<c→e<d:=ok (.i (.lt (v 0) (v 1)) (.i (.le (v 2) (v 0)) (.i (.le (.a (.a (.a (.a (.a (.a (v 1) (n 1)) (n 1)) (n 1)) (n 1)) (n 1)) (n 1)) (v 3)) (.i (.lt (v 4) (v 2)) (.lt (v 4) (v 3)))))) [a,b,c,d,e] (by kernel_rfl)
theorem z48{a b c:Nat}:a<b→b+1+1+1+1+1+1≤c→a<c:=ok (.i (.lt (v 0) (v 1)) (.i (.le (.a (.a (.a (.a (.a (.a (v 1) (n 1)) (n 1)) (n 1)) (n 1)) (n 1)) (n 1)) (v 2)) (.lt (v 0) (v 2)))) [a,b,c] (by kernel_rfl)
theorem z49{a b:Nat}:776≤a→a≤b→741<b:=ok (.i (.le (n 776) (v 0)) (.i (.le (v 0) (v 1)) (.lt (n 741) (v 1)))) [a,b] (by kernel_rfl)
theorem z4a{a b c d:Nat}:(776:Nat)≤a→b<c→a≤b→c+(1:Nat)+(1:Nat)+(1:Nat)+(1:Nat)+(1:Nat)+(1:Nat)≤d→(776:Nat)≤d:=ok (.i (.le (n 776) (v 0)) (.i (.lt (v 1) (v 2)) (.i (.le (v 0) (v 1)) (.i (.le (.a (.a (.a (.a (.a (.a (v 2) (n 1)) (n 1)) (n 1)) (n 1)) (n 1)) (n 1)) (v 3)) (.le (n 776) (v 3)))))) [a,b,c,d] (by kernel_rfl)
theorem z4b{a b c d e:Nat}:a≤b→c<d→b≤c→d+1+1+1+1+1+1≤e→a≤e:=ok (.i (.le (v 0) (v 1)) (.i (.lt (v 2) (v 3)) (.i (.le (v 1) (v 2)) (.i (.le (.a (.a (.a (.a (.a (.a (v 3) (n 1)) (n 1)) (n 1)) (n 1)) (n 1)) (n 1)) (v 4)) (.le (v 0) (v 4)))))) [a,b,c,d,e] (by kernel_rfl)
theorem z4d{a:Nat}:min 8 a≤1000:=ok (.le (mn (n 8) (v 0)) (n 1000)) [a] (by kernel_rfl)
theorem z4e:∀ {a:Nat},min 8 a≤8:=by intro a0 ; exact Nat.min_le_left 8 a0
theorem z4f{a b:Nat}:a=8→b≤8→b+a≤1000:=ok (.i (.eq (v 0) (n 8)) (.i (.le (v 1) (n 8)) (.le (.a (v 1) (v 0)) (n 1000)))) [a,b] (by kernel_rfl)
theorem z4g{a:Nat}:a≤8→0<a+8∧a+8≤16:=ok (.i (.le (v 0) (n 8)) (.an (.lt (n 0) (.a (v 0) (n 8))) (.le (.a (v 0) (n 8)) (n 16)))) [a] (by kernel_rfl)
theorem z4h{a b:Nat}:a<b→min a b=a:=ok (.i (.lt (v 0) (v 1)) (.eq (mn (v 0) (v 1)) (v 0))) [a,b] (by kernel_rfl)
theorem z4j:∀ {a:Nat},(0:Nat)<a→(↑a:Int)≠(0:Int):=by intro _ h;lia
theorem z4m:∀ {a:Nat},(↑a:Int)+(1:Int)≠(0:Int):=by intro a0 ; exact Ne.symm (not_eq_of_beq_eq_false rfl)
theorem z4n:∀ {a:Nat},(0:Int)≤(↑a:Int)+(1:Int):=by intros;solve_by_elim (maxDepth:=4) [Nat.le_trans,Nat.lt_of_lt_of_le,Nat.lt_of_le_of_lt,Nat.le_of_lt,Nat.le_of_lt_succ,Nat.lt_succ_of_le,Nat.lt_irrefl,Nat.le_add_right,Nat.le_add_left,Nat.sub_le,Nat.not_lt.mp,Nat.not_le.mp,Nat.le_antisymm,Nat.pos_of_ne_zero,Nat.ne_of_gt,Nat.ne_of_lt,Nat.sub_lt,Nat.zero_lt_succ,Nat.min_le_left,Nat.min_le_right,Nat.le_min.mpr,Nat.succ_le_succ,Nat.add_le_add,Nat.add_lt_add_right,Nat.sub_lt_sub_left,Nat.lt_succ_self,Nat.le_refl,Nat.zero_le]
theorem z4o:∀ {a:Nat},(0:Int)<(↑a:Int)+(1:Int):=by intro a0 ; exact Int.succ_ofNat_pos a0
theorem z4p:∀ {a:Int}{b:Nat},a < ↑b+1→a≤↑b:=by intro _ _ h;lia
theorem z4t{a:Nat}:min 3 a≤1000:=ok (.le (mn (n 3) (v 0)) (n 1000)) [a] (by kernel_rfl)
theorem z4u:∀ {a:Nat},min 3 a≤3:=by intro a0 ; exact Nat.min_le_left 3 a0
theorem z4v{a:Nat}:a≤3→a+(0+1+1+1)≤1000:=ok (.i (.le (v 0) (n 3)) (.le (.a (v 0) (.a (.a (.a (n 0) (n 1)) (n 1)) (n 1))) (n 1000))) [a] (by kernel_rfl)
theorem z4w{a b c d e f:Nat}:a≤b→b≤c→c≤d→d≤e→e+1≤f→a≤f:=ok (.i (.le (v 0) (v 1)) (.i (.le (v 1) (v 2)) (.i (.le (v 2) (v 3)) (.i (.le (v 3) (v 4)) (.i (.le (.a (v 4) (n 1)) (v 5)) (.le (v 0) (v 5))))))) [a,b,c,d,e,f] (by kernel_rfl)
theorem z4x:∀ {a:Nat},3≤a+(0+1+1+1):=by intro a0 ; exact Nat.le_add_left 3 a0
theorem z4y{a:Nat}:a≤3→a+(0+1+1+1)≤6:=ok (.i (.le (v 0) (n 3)) (.le (.a (v 0) (.a (.a (.a (n 0) (n 1)) (n 1)) (n 1))) (n 6))) [a] (by kernel_rfl)
theorem z4z:∀ {a:Nat},3≤a→0<a:=by intro a0 h;exact Nat.zero_lt_of_lt h
theorem z50:∀ {a:Nat},3≤a→1<a:=by intro a0 h;exact Nat.lt_of_add_left_lt h
theorem z52:∀ {a:Nat},a≤a+1+1+1:=by intros;solve_by_elim (maxDepth:=4) [Nat.le_trans,Nat.lt_of_lt_of_le,Nat.lt_of_le_of_lt,Nat.le_of_lt,Nat.le_of_lt_succ,Nat.lt_succ_of_le,Nat.lt_irrefl,Nat.le_add_right,Nat.le_add_left,Nat.sub_le,Nat.not_lt.mp,Nat.not_le.mp,Nat.le_antisymm,Nat.pos_of_ne_zero,Nat.ne_of_gt,Nat.ne_of_lt,Nat.sub_lt,Nat.zero_lt_succ,Nat.min_le_left,Nat.min_le_right,Nat.le_min.mpr,Nat.succ_le_succ,Nat.add_le_add,Nat.add_lt_add_right,Nat.sub_lt_sub_left,Nat.lt_succ_self,Nat.le_refl,Nat.zero_le]
theorem z54{a b c d e f:Nat}:776≤a→a≤b→b≤c→c≤d→d≤e→e+1≤f→776≤f+1+1+1:=ok (.i (.le (n 776) (v 0)) (.i (.le (v 0) (v 1)) (.i (.le (v 1) (v 2)) (.i (.le (v 2) (v 3)) (.i (.le (v 3) (v 4)) (.i (.le (.a (v 4) (n 1)) (v 5)) (.le (n 776) (.a (.a (.a (v 5) (n 1)) (n 1)) (n 1))))))))) [a,b,c,d,e,f] (by kernel_rfl)
theorem z55{a b:Nat}:a+1+1+1+1+1+1+1≤b→a≤b:=ok (.i (.le (.a (.a (.a (.a (.a (.a (.a (v 0) (n 1)) (n 1)) (n 1)) (n 1)) (n 1)) (n 1)) (n 1)) (v 1)) (.le (v 0) (v 1))) [a,b] (by kernel_rfl)
theorem z56:∀ {a:Nat},1≤1+a:=by intro a0 ; exact Nat.le_add_right 1 a0
theorem z57:∀ {a:Nat},a<12→1+a≤12:=by intro a0 h;exact (fun {m n}=>Nat.one_add_le_iff.mpr) h
theorem z58{a b c d e f:Nat}:776≤a→a≤b→b≤c→c≤d→d≤e→e+1≤f→776≤f:=ok (.i (.le (n 776) (v 0)) (.i (.le (v 0) (v 1)) (.i (.le (v 1) (v 2)) (.i (.le (v 2) (v 3)) (.i (.le (v 3) (v 4)) (.i (.le (.a (v 4) (n 1)) (v 5)) (.le (n 776) (v 5)))))))) [a,b,c,d,e,f] (by kernel_rfl)
theorem z59{a:Nat}:a=10→a≤1000:=ok (.i (.eq (v 0) (n 10)) (.le (v 0) (n 1000))) [a] (by kernel_rfl)
theorem z5b:∀ {a:Nat},a<(3:Nat)→(↑a:Int)≤(100:Int):=by intro _ h;lia
theorem z5c{a b c:Nat}:a=10→b<3→c=b→a+c≤1000:=ok (.i (.eq (v 0) (n 10)) (.i (.lt (v 1) (n 3)) (.i (.eq (v 2) (v 1)) (.le (.a (v 0) (v 2)) (n 1000))))) [a,b,c] (by kernel_rfl)
theorem z5d{a:Nat}:a<3→10+a≤996:=ok (.i (.lt (v 0) (n 3)) (.le (.a (n 10) (v 0)) (n 996))) [a] (by kernel_rfl)
theorem z5f{a b:Nat}:a=10→b<3→a+(b+4)≤60:=ok (.i (.eq (v 0) (n 10)) (.i (.lt (v 1) (n 3)) (.le (.a (v 0) (.a (v 1) (n 4))) (n 60)))) [a,b] (by kernel_rfl)
theorem z5g{a b c:Nat}:a=10→b<3→c=b→c+a≤1000:=ok (.i (.eq (v 0) (n 10)) (.i (.lt (v 1) (n 3)) (.i (.eq (v 2) (v 1)) (.le (.a (v 2) (v 0)) (n 1000))))) [a,b,c] (by kernel_rfl)
theorem z5h:∀ {a:Prop},0<0→a:=by intro _ h;solve_by_elim (maxDepth:=4) [Nat.le_trans,Nat.lt_of_lt_of_le,Nat.lt_of_le_of_lt,Nat.le_of_lt,Nat.le_of_lt_succ,Nat.lt_succ_of_le,Nat.lt_irrefl,Nat.le_add_right,Nat.le_add_left,Nat.sub_le,Nat.not_lt.mp,Nat.not_le.mp,Nat.le_antisymm,Nat.pos_of_ne_zero,Nat.ne_of_gt,Nat.ne_of_lt,Nat.sub_lt,Nat.zero_lt_succ,Nat.min_le_left,Nat.min_le_right,Nat.le_min.mpr,Nat.succ_le_succ,Nat.add_le_add,Nat.add_lt_add_right,Nat.sub_lt_sub_left,Nat.lt_succ_self,Nat.le_refl,Nat.zero_le]
theorem z5l{a:Nat}:a=741→a≠0:=ok (.i (.eq (v 0) (n 741)) (.ne (v 0) (n 0))) [a] (by kernel_rfl)
theorem z5m:∀ {a:Nat},decide (a≤9)=true→a≤60:=by intro _ h;lia
theorem z5n{a b:Nat}:776≤a→a≤b→b≠0:=ok (.i (.le (n 776) (v 0)) (.i (.le (v 0) (v 1)) (.ne (v 1) (n 0)))) [a,b] (by kernel_rfl)
theorem z5o:∀ {a b:Nat},776≤a→a≤b→776≤b:=by intro a0 a1 h q;exact Nat.le_trans h q
theorem z5p{a b:Nat}:a=b+14→a=14+b:=ok (.i (.eq (v 0) (.a (v 1) (n 14))) (.eq (v 0) (.a (n 14) (v 1)))) [a,b] (by kernel_rfl)
theorem z5u{a b:Nat}:a=14+b→0<a:=ok (.i (.eq (v 0) (.a (n 14) (v 1))) (.lt (n 0) (v 0))) [a,b] (by kernel_rfl)
theorem z5v{a b:Nat}:a=14+b→b<3→a≤60:=ok (.i (.eq (v 0) (.a (n 14) (v 1))) (.i (.lt (v 1) (n 3)) (.le (v 0) (n 60)))) [a,b] (by kernel_rfl)
theorem z5y:∀ {a:Nat},(↑(a+(1:Nat)):Int)=(1:Int)+(↑a:Int):=by intros;lia
theorem z5z{a b:Nat}:a≤a+b+1:=ok (.le (v 0) (.a (.a (v 0) (v 1)) (n 1))) [a,b] (by kernel_rfl)
theorem z60:∀ {a b:Nat},a+b+1 - a=b+1:=by intro a0 a1 ; exact Eq.symm (Nat.eq_sub_of_add_eq' rfl)
theorem z64:∀ {a:Nat},0<a+1:=by intro a0 ; exact Nat.zero_lt_succ a0
theorem z65{a b c:Nat}:a<3→b=a+min (c+1) 14→b≤20:=ok (.i (.lt (v 0) (n 3)) (.i (.eq (v 1) (.a (v 0) (mn (.a (v 2) (n 1)) (n 14)))) (.le (v 1) (n 20)))) [a,b,c] (by kernel_rfl)
theorem z66{a b:Nat}:a<3→b=a+10→b≤1000:=ok (.i (.lt (v 0) (n 3)) (.i (.eq (v 1) (.a (v 0) (n 10))) (.le (v 1) (n 1000)))) [a,b] (by kernel_rfl)
theorem z6a{a b c:Nat}:a<3→b=a+10→c=4→b+c≤1000:=ok (.i (.lt (v 0) (n 3)) (.i (.eq (v 1) (.a (v 0) (n 10))) (.i (.eq (v 2) (n 4)) (.le (.a (v 1) (v 2)) (n 1000))))) [a,b,c] (by kernel_rfl)
theorem z6g:∀ {a:Nat},a<10→a<14:=by intro _ h;solve_by_elim (maxDepth:=4) [Nat.le_trans,Nat.lt_of_lt_of_le,Nat.lt_of_le_of_lt,Nat.le_of_lt,Nat.le_of_lt_succ,Nat.lt_succ_of_le,Nat.lt_irrefl,Nat.le_add_right,Nat.le_add_left,Nat.sub_le,Nat.not_lt.mp,Nat.not_le.mp,Nat.le_antisymm,Nat.pos_of_ne_zero,Nat.ne_of_gt,Nat.ne_of_lt,Nat.sub_lt,Nat.zero_lt_succ,Nat.min_le_left,Nat.min_le_right,Nat.le_min.mpr,Nat.succ_le_succ,Nat.add_le_add,Nat.add_lt_add_right,Nat.sub_lt_sub_left,Nat.lt_succ_self,Nat.le_refl,Nat.zero_le]
theorem z6h:∀ {a:Nat},a<10→a - 1<10:=by intro a0 h;exact Nat.sub_lt_of_lt h
theorem z6i:∀ {a b c:Nat},a<min (b - 1+1) c→a<c:=by intro _ _ _ h;solve_by_elim (maxDepth:=4) [Nat.le_trans,Nat.lt_of_lt_of_le,Nat.lt_of_le_of_lt,Nat.le_of_lt,Nat.le_of_lt_succ,Nat.lt_succ_of_le,Nat.lt_irrefl,Nat.le_add_right,Nat.le_add_left,Nat.sub_le,Nat.not_lt.mp,Nat.not_le.mp,Nat.le_antisymm,Nat.pos_of_ne_zero,Nat.ne_of_gt,Nat.ne_of_lt,Nat.sub_lt,Nat.zero_lt_succ,Nat.min_le_left,Nat.min_le_right,Nat.le_min.mpr,Nat.succ_le_succ,Nat.add_le_add,Nat.add_lt_add_right,Nat.sub_lt_sub_left,Nat.lt_succ_self,Nat.le_refl,Nat.zero_le]
theorem z6j{a b c:Nat}:0<a→b<min (a - 1+1) c→b<a:=ok (.i (.lt (n 0) (v 0)) (.i (.lt (v 1) (mn (.a (.s (v 0) (n 1)) (n 1)) (v 2))) (.lt (v 1) (v 0)))) [a,b,c] (by kernel_rfl)
theorem z6m:∀ {a:Nat},¬a=(0:Nat)→(↑a:Int)≠(0:Int):=by intro _ h;simpa using h
theorem z6n:∀ {a:Nat},¬a=(0:Nat)→(↑a:Int) - (1:Int)=(↑(a - (1:Nat)):Int):=by intro _ h;lia
theorem z6o:∀ {a:Nat},¬a=0→0<a:=by intro a0 h;exact Nat.zero_lt_of_ne_zero h
theorem z6s:∀ {a b:Nat},776≤a→776≤a+b:=by intro a0 a1 h;exact Nat.le_add_right_of_le h
theorem z6t{a b c d:Nat}:a<b→c=a→b≤60→d≤c→d≤1000:=ok (.i (.lt (v 0) (v 1)) (.i (.eq (v 2) (v 0)) (.i (.le (v 1) (n 60)) (.i (.le (v 3) (v 2)) (.le (v 3) (n 1000)))))) [a,b,c,d] (by kernel_rfl)
theorem z6u:∀ {a:Nat},a≤(60:Nat)→¬(200:Int)≤(↑a:Int):=by intro _ h;lia
theorem z6x{a b c:Nat}:a<b→c≤a→b≤60→c≤1000:=ok (.i (.lt (v 0) (v 1)) (.i (.le (v 2) (v 0)) (.i (.le (v 1) (n 60)) (.le (v 2) (n 1000))))) [a,b,c] (by kernel_rfl)
theorem z6y:∀ {a b:Nat},a≤b→a+1≤b+1:=by intro a0 a1 h;exact Nat.add_le_add_right h 1
theorem z6z:∀ {a b:Nat},decide ((0:Int)<(↑a:Int) - (↑b:Int))=true→b<a:=by intro _ _ h;simpa using h
theorem z70:∀ {a b:Nat},decide ((0:Int)<(↑a:Int) - (↑b:Int))=false→¬b<a:=by intro _ _ h;simpa using h
theorem z72:∀ {a b c d e:Nat},a≤b→c+d≤a→decide ((↑e:Int)<(↑c:Int))=true→c - (1:Nat)<b:=by intro _ _ _ _ _ h q r;lia
theorem z73:∀ {a b:Nat},decide ((↑a:Int)<(↑b:Int))=true→(↑b:Int) - (1:Int)=(↑(b - (1:Nat)):Int):=by intro _ _ h;lia
theorem z74:∀ {a b:Nat},decide ((↑a:Int)<(↑b:Int))=true→a<b:=by intro _ _ h;simpa using h
theorem z75:∀ {a b c d:Nat},a≤b→decide ((↑c:Int)+(↑d:Int)<(↑a:Int))=true→c+d<b:=by intro _ _ _ _ h q;lia
theorem z77{a b c d:Nat}:a≤100→b≤c→d≤a→c<d→b≤1000:=ok (.i (.le (v 0) (n 100)) (.i (.le (v 1) (v 2)) (.i (.le (v 3) (v 0)) (.i (.lt (v 2) (v 3)) (.le (v 1) (n 1000)))))) [a,b,c,d] (by kernel_rfl)
theorem z78:∀ {a b:Nat},a≤b→a≤b+1:=by intro a0 a1 h;exact Nat.le_add_right_of_le h
theorem z79{a b c:Nat}:a<b→b≤a→c≤a:=ok (.i (.lt (v 0) (v 1)) (.i (.le (v 1) (v 0)) (.le (v 2) (v 0)))) [a,b,c] (by kernel_rfl)
theorem z7a{a b c d:Nat}:a≤100→b<c→d≤b→c≤a→d≤100:=ok (.i (.le (v 0) (n 100)) (.i (.lt (v 1) (v 2)) (.i (.le (v 3) (v 1)) (.i (.le (v 2) (v 0)) (.le (v 3) (n 100)))))) [a,b,c,d] (by kernel_rfl)
theorem z7b:∀ {a b c:Nat},a≤b→b<c→a≤b∧b<c:=by intro a0 a1 a2 h q;exact⟨h,q⟩
theorem z7c:∀ {a b:Nat},decide ((↑a:Int)≤(↑b:Int))=true→a≤b:=by intro _ _ h;simpa using h
theorem z7d{a b c:Nat}:a≤100→b≤c→c≤a→b≤100:=ok (.i (.le (v 0) (n 100)) (.i (.le (v 1) (v 2)) (.i (.le (v 2) (v 0)) (.le (v 1) (n 100))))) [a,b,c] (by kernel_rfl)
theorem z7j:∀ {a b c:Nat},a≤b+(1:Nat) - c→(↑b:Int) - (↑a:Int)+(1:Int)=(↑(b+(1:Nat) - a):Int):=by intro _ _ _ h;lia
theorem z7k:∀ {a b:Nat},decide ((↑a:Int)<(↑b:Int))=false→¬a<b:=by intro _ _ h;simpa using h
theorem z7l:∀ {a:Nat},(-1000:Int)≤(↑a:Int):=by intro a0 ; exact Int.neg_ofNat_le_natCast 1000 a0
theorem z7m:∀ {a b c:Nat},a≤b→b≤c→c≤(60:Nat)→(↑a:Int)≤(1000:Int):=by intro _ _ _ h q r;lia
theorem z7n:∀ {a b:Nat},a≤b→b≤(60:Nat)→(↑a:Int)≤(1000:Int):=by intro _ _ h q;lia
theorem z7o:∀ {a b:Nat},((↑a:Int) - (↑b:Int)).toNat=a - b:=by intro a0 a1 ; exact Int.toNat_sub a0 a1
theorem z7p:∀ {a b c d:Nat},a≤b→c<((↑a:Int) - (↑d:Int)).toNat→d+c<b:=by intro _ _ _ _ h q;lia
theorem z7q:∀ {a b:Nat},a≤a+b:=by intro a0 a1 ; exact Nat.le_add_right a0 a1
theorem z7s:∀ {a b:Nat},a<a+(b+1):=by intros;solve_by_elim (maxDepth:=4) [Nat.le_trans,Nat.lt_of_lt_of_le,Nat.lt_of_le_of_lt,Nat.le_of_lt,Nat.le_of_lt_succ,Nat.lt_succ_of_le,Nat.lt_irrefl,Nat.le_add_right,Nat.le_add_left,Nat.sub_le,Nat.not_lt.mp,Nat.not_le.mp,Nat.le_antisymm,Nat.pos_of_ne_zero,Nat.ne_of_gt,Nat.ne_of_lt,Nat.sub_lt,Nat.zero_lt_succ,Nat.min_le_left,Nat.min_le_right,Nat.le_min.mpr,Nat.succ_le_succ,Nat.add_le_add,Nat.add_lt_add_right,Nat.sub_lt_sub_left,Nat.lt_succ_self,Nat.le_refl,Nat.zero_le]
theorem z7v:∀ {a b c d:Nat},decide ((↑a:Int)<(↑b:Int))=false→¬(c<d∧a<b):=by intro _ _ _ _ h;lia
theorem z7w:∀ {a b c d:Nat},decide ((↑a:Int)<(↑b:Int))=false→¬(a<b∧c<d):=by intro _ _ _ _ h;lia
theorem z7x{a b:Nat}:a≤1000→b≤1→a+b≤10000:=ok (.i (.le (v 0) (n 1000)) (.i (.le (v 1) (n 1)) (.le (.a (v 0) (v 1)) (n 10000)))) [a,b] (by kernel_rfl)
theorem z7y:∀ {a b c d e:Nat},decide ((↑a:Int)+(↑b:Int)<(↑c:Int))=false→¬(d+b<e∧a+b<c):=by intro _ _ _ _ _ h;lia
theorem z7z:∀ {a b c d e:Nat},decide ((↑a:Int)+(↑b:Int)<(↑c:Int))=false→¬(a+b<c∧d+b<e):=by intro _ _ _ _ _ h;lia
theorem z80:∀ {a:Nat},0+(a+0)=a:=by intro a0 ; exact Nat.zero_add (a0+0)
theorem z81{a b c:Nat}:a≤b→0+(a - c+0)≤b:=ok (.i (.le (v 0) (v 1)) (.le (.a (n 0) (.a (.s (v 0) (v 2)) (n 0))) (v 1))) [a,b,c] (by kernel_rfl)
theorem z82{a b c d e:Nat}:a≤60→b+c≤a→d≤c→d=e→e≤61:=ok (.i (.le (v 0) (n 60)) (.i (.le (.a (v 1) (v 2)) (v 0)) (.i (.le (v 3) (v 2)) (.i (.eq (v 3) (v 4)) (.le (v 4) (n 61)))))) [a,b,c,d,e] (by kernel_rfl)
theorem z85{a:Nat}:a+1≤61→a≤1000:=ok (.i (.le (.a (v 0) (n 1)) (n 61)) (.le (v 0) (n 1000))) [a] (by kernel_rfl)
theorem z86{a b c d e:Nat}:a≤60→b≤c→c+(d+e)≤a→b≤1000:=ok (.i (.le (v 0) (n 60)) (.i (.le (v 1) (v 2)) (.i (.le (.a (v 2) (.a (v 3) (v 4))) (v 0)) (.le (v 1) (n 1000))))) [a,b,c,d,e] (by kernel_rfl)
theorem z87{a b c d:Nat}:a+(b+c)≤d→a+b≤d:=ok (.i (.le (.a (v 0) (.a (v 1) (v 2))) (v 3)) (.le (.a (v 0) (v 1)) (v 3))) [a,b,c,d] (by kernel_rfl)
theorem z88:∀ {a b:Nat},a<a+(2 * b+1+0):=by intros;simp
theorem z8a{a b c d e f g i j k:Nat}:a≠0→a+b+c≤d→e≤1→f≤1→e=g→f=i→2 * (j+b+c)+(k+g+i)<2 * (j+d)+(k+1):=ok (.i (.ne (v 0) (n 0)) (.i (.le (.a (.a (v 0) (v 1)) (v 2)) (v 3)) (.i (.le (v 4) (n 1)) (.i (.le (v 5) (n 1)) (.i (.eq (v 4) (v 6)) (.i (.eq (v 5) (v 7)) (.lt (.a (.m 2 (.a (.a (v 8) (v 1)) (v 2))) (.a (.a (v 9) (v 6)) (v 7))) (.a (.m 2 (.a (v 8) (v 3))) (.a (v 9) (n 1)))))))))) [a,b,c,d,e,f,g,i,j,k] (by kernel_rfl)
theorem z8b{a b c d e f g:Nat}:a+(b+c)=d→c=e+f+g→a+e+(b+f+g)=d:=ok (.i (.eq (.a (v 0) (.a (v 1) (v 2))) (v 3)) (.i (.eq (v 2) (.a (.a (v 4) (v 5)) (v 6))) (.eq (.a (.a (v 0) (v 4)) (.a (.a (v 1) (v 5)) (v 6))) (v 3)))) [a,b,c,d,e,f,g] (by kernel_rfl)
theorem z8c{a b c d e f g:Nat}:a+(b+c)≤d→e+f+g≤c→a+e+(b+f+g)≤d:=ok (.i (.le (.a (v 0) (.a (v 1) (v 2))) (v 3)) (.i (.le (.a (.a (v 4) (v 5)) (v 6)) (v 2)) (.le (.a (.a (v 0) (v 4)) (.a (.a (v 1) (v 5)) (v 6))) (v 3)))) [a,b,c,d,e,f,g] (by kernel_rfl)
theorem z8d{a b c:Nat}:a+b=c→b=0→a=c:=ok (.i (.eq (.a (v 0) (v 1)) (v 2)) (.i (.eq (v 1) (n 0)) (.eq (v 0) (v 2)))) [a,b,c] (by kernel_rfl)
theorem z8e{a b c d:Nat}:a≤b→b+c≤d→a≤d:=ok (.i (.le (v 0) (v 1)) (.i (.le (.a (v 1) (v 2)) (v 3)) (.le (v 0) (v 3)))) [a,b,c,d] (by kernel_rfl)
theorem z8h:∀ {a b:Nat},a+1<b+1→a<b:=by intro _ _ h;exact Nat.le_of_lt_succ h
theorem z8j:∀ {a b:Nat},a<b→a+1<b+1:=by intro a0 a1 h;exact Nat.add_lt_add_right h 1
theorem z8t:∀ {a b:Nat},a<b→b - (a+1)<b - a:=by intro a0 a1 h;exact Nat.sub_succ_lt_self a1 a0 h
theorem z8u{a b:Nat}:a≤b→¬a<b→a=b:=ok (.i (.le (v 0) (v 1)) (.i (no (.lt (v 0) (v 1))) (.eq (v 0) (v 1)))) [a,b] (by kernel_rfl)
theorem z93{a:Nat}:a≤1000→a+1≤16777216:=ok (.i (.le (v 0) (n 1000)) (.le (.a (v 0) (n 1)) (n 16777216))) [a] (by kernel_rfl)
theorem z94{a b:Nat}:a - b=0→b≤a→b=a:=ok (.i (.eq (.s (v 0) (v 1)) (n 0)) (.i (.le (v 1) (v 0)) (.eq (v 1) (v 0)))) [a,b] (by kernel_rfl)
theorem z96:∀ {a b c:Nat},a - b=c+1→b<a:=by intro a0 a1 a2 h;exact Nat.lt_of_sub_eq_succ h
theorem z98{a b c:Nat}:a≤1000→b≤a→c=b→c≤16777216:=ok (.i (.le (v 0) (n 1000)) (.i (.le (v 1) (v 0)) (.i (.eq (v 2) (v 1)) (.le (v 2) (n 16777216))))) [a,b,c] (by kernel_rfl)
theorem z99{a b c:Nat}:a≤1000→b≤a→c=b→c+1≤16777216+1:=ok (.i (.le (v 0) (n 1000)) (.i (.le (v 1) (v 0)) (.i (.eq (v 2) (v 1)) (.le (.a (v 2) (n 1)) (.a (n 16777216) (n 1)))))) [a,b,c] (by kernel_rfl)
theorem z9a{a b c:Nat}:a - b=c+1→a - (b+1)=c:=ok (.i (.eq (.s (v 0) (v 1)) (.a (v 2) (n 1))) (.eq (.s (v 0) (.a (v 1) (n 1))) (v 2))) [a,b,c] (by kernel_rfl)
theorem z9b{a b c:Nat}:a - b=c+1→b+1≤a:=ok (.i (.eq (.s (v 0) (v 1)) (.a (v 2) (n 1))) (.le (.a (v 1) (n 1)) (v 0))) [a,b,c] (by kernel_rfl)
theorem z9e{a:Nat}:a<2→a≤16777216+1:=ok (.i (.lt (v 0) (n 2)) (.le (v 0) (.a (n 16777216) (n 1)))) [a] (by kernel_rfl)
theorem z9f{a b c:Nat}:a≤1000→b=c→c<a→b≤10000:=ok (.i (.le (v 0) (n 1000)) (.i (.eq (v 1) (v 2)) (.i (.lt (v 2) (v 0)) (.le (v 1) (n 10000))))) [a,b,c] (by kernel_rfl)
theorem z9g{a b:Nat}:a=b→¬b<a:=ok (.i (.eq (v 0) (v 1)) (no (.lt (v 1) (v 0)))) [a,b] (by kernel_rfl)
theorem z9h:∀ {a b:Nat},a / 2≤b→¬b<a / 2:=by intro _ _ h;simpa using h
theorem z9i:∀ {a b:Nat},a≤b→¬a > b:=by intro _ _ h;simpa using h
theorem z9j:∀ {a:Int},¬a<0→a = ↑(Int.toNat a):=by intro _ h;lia
theorem z9k:∀ {a b:Nat},a<b→1≤b:=by intro a0 a1 h;exact Nat.one_le_of_lt h
theorem z9m:∀ {a b c:Nat},a<b→c<a→c<b:=by intro a0 a1 a2 h q;exact Nat.lt_trans q h
theorem z9n{a:Nat}:(2 * a+1 - 1) / 2=a:=ok (.i (.le (.m 2 (v 1)) (.s (.a (.m 2 (v 0)) (n 1)) (n 1))) (.i (.lt (.s (.a (.m 2 (v 0)) (n 1)) (n 1)) (.m 2 (.a (v 1) (n 1)))) (.eq (v 1) (v 0)))) [a,((((2 * a)+1) - 1) / 2)] (by kernel_rfl) (Nat.mul_div_le _ 2) (Nat.lt_mul_div_succ _ (by decide))
theorem z9o{a:Nat}:(2 * a+1+1 - 1) / 2=a:=ok (.i (.le (.m 2 (v 1)) (.s (.a (.a (.m 2 (v 0)) (n 1)) (n 1)) (n 1))) (.i (.lt (.s (.a (.a (.m 2 (v 0)) (n 1)) (n 1)) (n 1)) (.m 2 (.a (v 1) (n 1)))) (.eq (v 1) (v 0)))) [a,(((((2 * a)+1)+1) - 1) / 2)] (by kernel_rfl) (Nat.mul_div_le _ 2) (Nat.lt_mul_div_succ _ (by decide))
theorem z9p{a b:Nat}:a<b / 2→a<b:=ok (.i (.le (.m 2 (v 2)) (v 1)) (.i (.lt (v 1) (.m 2 (.a (v 2) (n 1)))) (.i (.lt (v 0) (v 2)) (.lt (v 0) (v 1))))) [a,b,(b / 2)] (by kernel_rfl) (Nat.mul_div_le _ 2) (Nat.lt_mul_div_succ _ (by decide))
theorem z9r{a b:Nat}:a<b / 2→2 * a+1<b:=ok (.i (.le (.m 2 (v 2)) (v 1)) (.i (.lt (v 1) (.m 2 (.a (v 2) (n 1)))) (.i (.lt (v 0) (v 2)) (.lt (.a (.m 2 (v 0)) (n 1)) (v 1))))) [a,b,(b / 2)] (by kernel_rfl) (Nat.mul_div_le _ 2) (Nat.lt_mul_div_succ _ (by decide))
theorem z9t:∀ {a:Nat},1≤2 * a+1:=by intro a0 ; exact Nat.le_add_left 1 (2 * a0)
theorem z9u:∀ {a:Nat},1≤2 * a+1+1:=by intro a0 ; exact Nat.le_add_left 1 (2 * a0+1)
theorem z9v:∀ {a b c:Nat}{d e:Int},¬2 * a+1+1<b→c<b→c=2 * a+2→d≤e:=by intro _ _ _ _ _ h q r;lia
theorem z9w:∀ {a b:Nat},a=b→a≤b:=by intro a0 a1 h;exact Nat.le_of_eq h
theorem z9x:∀ {a:Nat}{b:Prop},(↑(0:Nat):Int) - (1:Int)=(↑a:Int)→b:=by intro _ _ h;simpa using h
theorem z9y:∀ {a b:Nat},a≤1000→b=a→b≤1000:=by intro a0 a1 h q;exact le_of_eq_of_le q h
theorem z9z:∀ {a b:Nat},¬a=b→b≤a→b<a:=by intro a0 a1 h q;exact Nat.lt_of_le_of_ne q fun a=>h (id (Eq.symm a))
theorem za0:∀ {a:Nat}{b:Prop},(↑(a+(1:Nat)):Int) - (1:Int)<(0:Int)→b:=by intro _ _ h;lia
theorem za1:∀ {a b:Nat},(↑(a+(1:Nat)):Int) - (1:Int)=(↑b:Int)→b=a:=by intro _ _ h;lia
theorem za2:∀ {a b:Nat},a<b→a≠b:=by intro a0 a1 h;exact Nat.ne_of_lt h
theorem za3{a b c d e f:Nat}:a - b=c→d=a→b<d / 2→e=b→e<f→a - f<c:=ok (.i (.le (.m 2 (v 6)) (v 3)) (.i (.lt (v 3) (.m 2 (.a (v 6) (n 1)))) (.i (.eq (.s (v 0) (v 1)) (v 2)) (.i (.eq (v 3) (v 0)) (.i (.lt (v 1) (v 6)) (.i (.eq (v 4) (v 1)) (.i (.lt (v 4) (v 5)) (.lt (.s (v 0) (v 5)) (v 2))))))))) [a,b,c,d,e,f,(d / 2)] (by kernel_rfl) (Nat.mul_div_le _ 2) (Nat.lt_mul_div_succ _ (by decide))
theorem za4{a b c:Nat}:a=b→a<c→c≠b:=ok (.i (.eq (v 0) (v 1)) (.i (.lt (v 0) (v 2)) (.ne (v 2) (v 1)))) [a,b,c] (by kernel_rfl)
theorem za5:∀ {a b c:Nat},a=b→c<a→c<b:=by intro a0 a1 a2 h q;exact Nat.lt_of_lt_of_eq q h
theorem za6:∀ {a b:Nat},¬a<b / 2→b / 2≤a:=by intro a0 a1 h;exact Nat.le_of_not_lt h
theorem za7{a b c:Nat}:a=b→¬c<a / 2→b≤2 * c+1:=ok (.i (.le (.m 2 (v 3)) (v 0)) (.i (.lt (v 0) (.m 2 (.a (v 3) (n 1)))) (.i (.eq (v 0) (v 1)) (.i (no (.lt (v 2) (v 3))) (.le (v 1) (.a (.m 2 (v 2)) (n 1))))))) [a,b,c,(a / 2)] (by kernel_rfl) (Nat.mul_div_le _ 2) (Nat.lt_mul_div_succ _ (by decide))
theorem za8{a:Nat}:a≤1000→¬a > 2500:=ok (.i (.le (v 0) (n 1000)) (no (.lt (n 2500) (v 0)))) [a] (by kernel_rfl)
theorem za9:∀ {a b:Nat}{c d:Int},a<2→1≤b→b<a→c≤d:=by intro _ _ _ _ h q r;lia
theorem zab:∀ {a:Nat},¬a<(2:Nat)→(↑(a / (2:Nat)):Int) - (2:Int)=(↑(a / (2:Nat) - (1:Nat)):Int) - (1:Int):=by intro _ h;lia
theorem zae{a:Nat}:¬a<2→a / 2 - 1<a:=ok (.i (.le (.m 2 (v 1)) (v 0)) (.i (.lt (v 0) (.m 2 (.a (v 1) (n 1)))) (.i (no (.lt (v 0) (n 2))) (.lt (.s (v 1) (n 1)) (v 0))))) [a,(a / 2)] (by kernel_rfl) (Nat.mul_div_le _ 2) (Nat.lt_mul_div_succ _ (by decide))
theorem zaf:∀ {a b:Nat}{c d:Int},a<b→b / 2 - 1+1≤(a - 1) / 2→c≤d:=by intro _ _ _ _ h q;omega
theorem zag:∀ {a:Nat}{b:Prop},0<a→a=0→b:=by intro _ _ h q;lia
theorem zak:∀ {a b:Nat},a - 0=b+1→a - 1=b:=by intro a0 a1 h;exact Eq.symm (Nat.eq_sub_of_add_eq (id (Eq.symm h)))
theorem zam:0<1:=by intros;simp
theorem zas:∀ {a:Nat},2≤a→¬a<2:=by intro _ h;simpa using h
theorem zat:∀ {a b:Nat},2≤a→b=a→2≤b:=by intro a0 a1 h q;exact le_of_le_of_eq h (id (Eq.symm q))
theorem zau:∀ {a b:Nat},a<64→b=a→b<64:=by intro a0 a1 h q;exact lt_of_eq_of_lt q h
theorem zav{a:Nat}:a<64→a≤16777216+1:=ok (.i (.lt (v 0) (n 64)) (.le (v 0) (.a (n 16777216) (n 1)))) [a] (by kernel_rfl)
theorem zax:∀ {a:Int},a≤100→Int.toNat a≤100:=by intro _ h;simpa using h
theorem zay:∀ {a b:Nat},a+b≤1000→a+b≤16777216:=by intro _ _ h;solve_by_elim (maxDepth:=4) [Nat.le_trans,Nat.lt_of_lt_of_le,Nat.lt_of_le_of_lt,Nat.le_of_lt,Nat.le_of_lt_succ,Nat.lt_succ_of_le,Nat.lt_irrefl,Nat.le_add_right,Nat.le_add_left,Nat.sub_le,Nat.not_lt.mp,Nat.not_le.mp,Nat.le_antisymm,Nat.pos_of_ne_zero,Nat.ne_of_gt,Nat.ne_of_lt,Nat.sub_lt,Nat.zero_lt_succ,Nat.min_le_left,Nat.min_le_right,Nat.le_min.mpr,Nat.succ_le_succ,Nat.add_le_add,Nat.add_lt_add_right,Nat.sub_lt_sub_left,Nat.lt_succ_self,Nat.le_refl,Nat.zero_le]
theorem zaz{a b c:Nat}:a=b→¬c<a→b≤c:=ok (.i (.eq (v 0) (v 1)) (.i (no (.lt (v 2) (v 0))) (.le (v 1) (v 2)))) [a,b,c] (by kernel_rfl)
theorem zb0:∀ {a:Int}{b:Nat},0≤a→a≤↑b→b≤1000→-9223372036854775808≤a∧a<9223372036854775808:=by intro _ _ h q r;lia
theorem zb1:∀ {a:Int},0≤a→a≤100→-9223372036854775808≤a∧a<9223372036854775808:=by intro _ h q;lia
theorem zb3:∀ {a:Int},0≤a→¬a<0:=by intro a0 h;exact Int.not_lt_of_ge h
theorem zb4:∀ {a:Nat}{b:Int},a * Int.toNat b≤100000→a * Int.toNat b≤16777216:=by intro _ _ h;solve_by_elim (maxDepth:=4) [Nat.le_trans,Nat.lt_of_lt_of_le,Nat.lt_of_le_of_lt,Nat.le_of_lt,Nat.le_of_lt_succ,Nat.lt_succ_of_le,Nat.lt_irrefl,Nat.le_add_right,Nat.le_add_left,Nat.sub_le,Nat.not_lt.mp,Nat.not_le.mp,Nat.le_antisymm,Nat.pos_of_ne_zero,Nat.ne_of_gt,Nat.ne_of_lt,Nat.sub_lt,Nat.zero_lt_succ,Nat.min_le_left,Nat.min_le_right,Nat.le_min.mpr,Nat.succ_le_succ,Nat.add_le_add,Nat.add_lt_add_right,Nat.sub_lt_sub_left,Nat.lt_succ_self,Nat.le_refl,Nat.zero_le]
theorem zb5:∀ {a:Int}{b:Nat},a≤↑b→min (Int.toNat a) b=Int.toNat a:=by intro _ _ h;lia
theorem zb6{a b:Nat}:a≤b→0+a≤b+1:=ok (.i (.le (v 0) (v 1)) (.le (.a (n 0) (v 0)) (.a (v 1) (n 1)))) [a,b] (by kernel_rfl)
theorem zb7{a b:Nat}:a=b→b<a→False:=ok (.i (.eq (v 0) (v 1)) (.i (.lt (v 1) (v 0)) P.f)) [a,b] (by kernel_rfl)
theorem zb8{a b:Nat}:a=b→a<b→False:=ok (.i (.eq (v 0) (v 1)) (.i (.lt (v 0) (v 1)) P.f)) [a,b] (by kernel_rfl)
theorem zb9:∀ {a b:Int},a<b→¬b≤a:=by intro _ _ h;simpa using h
theorem zba:∀ {a b:Int},¬a<b→b≤a:=by intro _ _ h;simpa using h
theorem zbb{a:Nat}:a≤1000→¬a > 16777216:=ok (.i (.le (v 0) (n 1000)) (no (.lt (n 16777216) (v 0)))) [a] (by kernel_rfl)
theorem zbc:∀ {a b c:Nat},a+(b+1)≤c→a<c:=by intro a0 a1 a2 h;exact Nat.lt_of_add_right_lt h
theorem zbe{a b c:Nat}:a+(b+1)≤c→a+1+b≤c:=ok (.i (.le (.a (v 0) (.a (v 1) (n 1))) (v 2)) (.le (.a (.a (v 0) (n 1)) (v 1)) (v 2))) [a,b,c] (by kernel_rfl)
theorem zbf:∀ {a:Nat},0+a≤a:=by intros;simp
theorem zbg:∀ {a:Nat},¬(↑a:Int)<(0:Int):=by intro a0 ; exact Int.not_ofNat_neg a0
theorem zbi:∀ {a:Nat},¬(↑(63:Nat):Int)<(↑a:Int)→a≤(63:Nat):=by intro _ h;lia
theorem zbj{a b c:Nat}:a≤b→b=c - 1→0<c→a+1≤c:=ok (.i (.le (v 0) (v 1)) (.i (.eq (v 1) (.s (v 2) (n 1))) (.i (.lt (n 0) (v 2)) (.le (.a (v 0) (n 1)) (v 2))))) [a,b,c] (by kernel_rfl)
theorem zbm:∀ {a b:Nat},(↑a:Int) - (↑b:Int) - (1:Int)=(↑a:Int) - (↑(b+(1:Nat)):Int):=by intros;lia
theorem zbp:∀ {a:Nat},a<1→a=0:=by intro _ h;simpa using h
theorem zbr:∀ {a b:Nat}{c:Bool},a<0→a≤0∧a≤b∧c=true:=by intro _ _ _ h;simpa using h
theorem zbs:∀ {a b:Nat},a<b→0<b:=by intro a0 a1 h;exact Nat.zero_lt_of_lt h
theorem zbt:∀ {a b:Nat}{c:Bool},0<a→b+a≤0→c=false:=by intro _ _ _ h q;lia
theorem zbv{a b c:Nat}:a≤b→b<a+(c - a)→b<c:=ok (.i (.le (v 0) (v 1)) (.i (.lt (v 1) (.a (v 0) (.s (v 2) (v 0)))) (.lt (v 1) (v 2)))) [a,b,c] (by kernel_rfl)
theorem zbx:∀ {a b c:Nat},a<b→c≤a→c<b:=by intro a0 a1 a2 h q;exact Nat.lt_of_le_of_lt q h
theorem zby{a b c:Nat}:a<b→c≤a→c≤b:=ok (.i (.lt (v 0) (v 1)) (.i (.le (v 2) (v 0)) (.le (v 2) (v 1)))) [a,b,c] (by kernel_rfl)
theorem zbz{a b c:Nat}:a<b→a<c+(b - c):=ok (.i (.lt (v 0) (v 1)) (.lt (v 0) (.a (v 2) (.s (v 1) (v 2))))) [a,b,c] (by kernel_rfl)
theorem zc0:∀ {a:Nat}{b:Bool},a+1=0→b=false:=by intro _ _ h;simpa using h
theorem zc1{a b c:Nat}:a<b+1→c≤b+1 - a→c+1≤b+1+1 - a:=ok (.i (.lt (v 0) (.a (v 1) (n 1))) (.i (.le (v 2) (.s (.a (v 1) (n 1)) (v 0))) (.le (.a (v 2) (n 1)) (.s (.a (.a (v 1) (n 1)) (n 1)) (v 0))))) [a,b,c] (by kernel_rfl)
theorem zc2:∀ {a b c:Nat},a+(b+1)≤c+1→a+b≤c:=by intro a0 a1 a2 h;exact Nat.le_of_lt_succ h
theorem zc3:∀ {a b c:Nat},a+(b+1)≤c→a+b≤c - 1:=by intro a0 a1 a2 h;exact Nat.le_sub_one_of_lt h
theorem zc4{a b c:Nat}:a<b→c≤b - 1→c+1≤b:=ok (.i (.lt (v 0) (v 1)) (.i (.le (v 2) (.s (v 1) (n 1))) (.le (.a (v 2) (n 1)) (v 1)))) [a,b,c] (by kernel_rfl)
theorem zc5{a b c:Nat}:a<b+1→b<a→c+1≤b+1+1 - a:=ok (.i (.lt (v 0) (.a (v 1) (n 1))) (.i (.lt (v 1) (v 0)) (.le (.a (v 2) (n 1)) (.s (.a (.a (v 1) (n 1)) (n 1)) (v 0))))) [a,b,c] (by kernel_rfl)
theorem zc7:∀ {a b:Nat},a+1 - (b+1)=a - b:=by intro a0 a1 ; exact Nat.add_sub_add_right a0 1 a1
theorem zc8{a b:Nat}:a - (b+1)=a - 1 - b:=ok (.eq (.s (v 0) (.a (v 1) (n 1))) (.s (.s (v 0) (n 1)) (v 1))) [a,b] (by kernel_rfl)
theorem zc9{a b:Nat}:¬a+1<b→0+1≤a+1+1 - b:=ok (.i (no (.lt (.a (v 0) (n 1)) (v 1))) (.le (.a (n 0) (n 1)) (.s (.a (.a (v 0) (n 1)) (n 1)) (v 1)))) [a,b] (by kernel_rfl)
theorem zcb:∀ {a b:Nat},0≤a+1+1 - b:=by intro a0 a1 ; exact Nat.zero_le (a0+1+1 - a1)
theorem zcc:∀ {a b c:Nat}{d:Bool},a+1<0+1→a+1≤b+1∧a+1≤c∧d=true:=by intro _ _ _ _ h;lia
theorem zce:∀ {a b c:Nat}{d:Bool},a<0→a≤b+1∧a≤c∧d=true:=by intro _ _ _ _ h;simpa using h
theorem zcg{a b:Nat}:¬a<b→0+1≤a+1 - b:=ok (.i (no (.lt (v 0) (v 1))) (.le (.a (n 0) (n 1)) (.s (.a (v 0) (n 1)) (v 1)))) [a,b] (by kernel_rfl)
theorem zbw:∀ {a b:Nat},0≤a+1 - b:=by intro a0 a1 ; exact Nat.zero_le (a0+1 - a1)
theorem zch:∀ {a b:Nat},(↑a:Int)=(↑b:Int)→a=b:=by intro _ _ h;lia
theorem zci:∀ {a b c:Nat},¬(a<a∧b<c):=by intros;simp
theorem zcj:∀ {a:Nat},a≤a+0:=by intro a0 ; exact Nat.le_add_right a0 0
theorem zck:∀ {a:Nat},a+1≤0→true=false:=by intro _ h;lia
theorem zcl:∀ {a b c d:Nat},a≤b→b≤c→d≤c→a≤c:=by intro a0 a1 a2 a3 h q r;exact Nat.le_trans h q
theorem zcm:∀ {a b:Nat},a<b→(↑b:Int) - (1:Int)=(↑(b - (1:Nat)):Int):=by intro _ _ h;lia
theorem zcn:∀ {a b:Nat},(↑(a - (1:Nat)):Int)=(↑b:Int)→a - (1:Nat)=b:=by intro a0 a1 h;exact Eq.symm ((fun {m n}=>Int.ofNat_inj.mp) (id (Eq.symm h)))
theorem zcp:∀ {a b:Nat},a<b→a≤b - 1:=by intro a0 a1 h;exact Nat.le_sub_one_of_lt h
theorem zcq:∀ {a b:Nat},a<b→a - 1<b:=by intro a0 a1 h;exact Nat.sub_lt_of_lt h
theorem zcr:∀ {a b c d:Nat},¬a<b→¬(c<d∧a<b):=by intro a0 a1 a2 a3 h;exact (fun {a b}=>not_and.mpr) fun a=>h
theorem zcs:∀ {a b c:Nat},¬a<b→(↑b:Int) - (1:Int)=(↑c:Int)→a≤c→False:=by intro _ _ _ h q r;omega
theorem zct{a b c:Nat}:0<a→a≤b+1 - c→c≤b+1 - a:=ok (.i (.lt (n 0) (v 0)) (.i (.le (v 0) (.s (.a (v 1) (n 1)) (v 2))) (.le (v 2) (.s (.a (v 1) (n 1)) (v 0))))) [a,b,c] (by kernel_rfl)
theorem zcu{a b c d:Nat}:a<b→c≤a+1 - d→a+1 - c+c≤max d b:=ok (.i (.lt (v 0) (v 1)) (.i (.le (v 2) (.s (.a (v 0) (n 1)) (v 3))) (.le (.a (.s (.a (v 0) (n 1)) (v 2)) (v 2)) (mx (v 3) (v 1))))) [a,b,c,d] (by kernel_rfl)
theorem zcv{a b c:Nat}:a=b→0<b→b - 1 - c<a:=ok (.i (.eq (v 0) (v 1)) (.i (.lt (n 0) (v 1)) (.lt (.s (.s (v 1) (n 1)) (v 2)) (v 0)))) [a,b,c] (by kernel_rfl)
theorem zcw{a b c d:Nat}:a≤b+1 - c→d<a→b+1 - a+d=b - (a - 1 - d):=ok (.i (.le (v 0) (.s (.a (v 1) (n 1)) (v 2))) (.i (.lt (v 3) (v 0)) (.eq (.a (.s (.a (v 1) (n 1)) (v 0)) (v 3)) (.s (v 1) (.s (.s (v 0) (n 1)) (v 3)))))) [a,b,c,d] (by kernel_rfl)
theorem zcx:∀ {a b:Nat},a=b→0<b→0<a:=by intro a0 a1 h q;exact Nat.lt_of_lt_of_eq q (id (Eq.symm h))
theorem zcy{a b c d:Nat}:a=b→c<d+1 - b→c+a≤d:=ok (.i (.eq (v 0) (v 1)) (.i (.lt (v 2) (.s (.a (v 3) (n 1)) (v 1))) (.le (.a (v 2) (v 0)) (v 3)))) [a,b,c,d] (by kernel_rfl)
theorem zcz:∀ {a b:Nat},a+1 - b - 1=a - b:=by intro a0 a1 ; exact Nat.succ_sub_succ_eq_sub a0 a1
theorem zd0{a b c:Nat}:a≤b+1 - c→b+1 - a+a=b+1:=ok (.i (.le (v 0) (.s (.a (v 1) (n 1)) (v 2))) (.eq (.a (.s (.a (v 1) (n 1)) (v 0)) (v 0)) (.a (v 1) (n 1)))) [a,b,c] (by kernel_rfl)
theorem zd1{a b c:Nat}:a+1 - b+b<c→a+1<c:=ok (.i (.lt (.a (.s (.a (v 0) (n 1)) (v 1)) (v 1)) (v 2)) (.lt (.a (v 0) (n 1)) (v 2))) [a,b,c] (by kernel_rfl)
theorem zd2:∀ {a b:Nat},a≤b→a<b+1:=by intro a0 a1 h;exact Nat.lt_succ_of_le h
theorem zd3:∀ {a:Nat},a+1≤a→true=false:=by intro _ h;solve_by_elim (maxDepth:=4) [Nat.le_trans,Nat.lt_of_lt_of_le,Nat.lt_of_le_of_lt,Nat.le_of_lt,Nat.le_of_lt_succ,Nat.lt_succ_of_le,Nat.lt_irrefl,Nat.le_add_right,Nat.le_add_left,Nat.sub_le,Nat.not_lt.mp,Nat.not_le.mp,Nat.le_antisymm,Nat.pos_of_ne_zero,Nat.ne_of_gt,Nat.ne_of_lt,Nat.sub_lt,Nat.zero_lt_succ,Nat.min_le_left,Nat.min_le_right,Nat.le_min.mpr,Nat.succ_le_succ,Nat.add_le_add,Nat.add_lt_add_right,Nat.sub_lt_sub_left,Nat.lt_succ_self,Nat.le_refl,Nat.zero_le]
theorem zd5:∀ {a b c d:Nat},a - b<0→c=d:=by intro _ _ _ _ h;simpa using h
theorem zd6{a b c d:Nat}:a≤b→b+c≤max a d→max a d=a→c=0:=ok (.i (.le (v 0) (v 1)) (.i (.le (.a (v 1) (v 2)) (mx (v 0) (v 3))) (.i (.eq (mx (v 0) (v 3)) (v 0)) (.eq (v 2) (n 0))))) [a,b,c,d] (by kernel_rfl)
theorem zd7{a b c d e:Nat}:a - b<c+1→¬d=0→b≤e→e+d≤max b a→e - b<c:=ok (.i (.lt (.s (v 0) (v 1)) (.a (v 2) (n 1))) (.i (no (.eq (v 3) (n 0))) (.i (.le (v 1) (v 4)) (.i (.le (.a (v 4) (v 3)) (mx (v 1) (v 0))) (.lt (.s (v 4) (v 1)) (v 2)))))) [a,b,c,d,e] (by kernel_rfl)
theorem zd8{a b c d e:Nat}:a - b<c+1→¬d=0→b≤e→e+d≤max b a→a - (e+d)<c:=ok (.i (.lt (.s (v 0) (v 1)) (.a (v 2) (n 1))) (.i (no (.eq (v 3) (n 0))) (.i (.le (v 1) (v 4)) (.i (.le (.a (v 4) (v 3)) (mx (v 1) (v 0))) (.lt (.s (v 0) (.a (v 4) (v 3))) (v 2)))))) [a,b,c,d,e] (by kernel_rfl)
theorem zd9{a b c d:Nat}:a=b+c→d+a=d+b+c:=ok (.i (.eq (v 0) (.a (v 1) (v 2))) (.eq (.a (v 3) (v 0)) (.a (.a (v 3) (v 1)) (v 2)))) [a,b,c,d] (by kernel_rfl)
theorem zdb{a b c:Nat}:1≤a→b≤c→b+1≤a+c:=ok (.i (.le (n 1) (v 0)) (.i (.le (v 1) (v 2)) (.le (.a (v 1) (n 1)) (.a (v 0) (v 2))))) [a,b,c] (by kernel_rfl)
theorem zdc{a b c d:Nat}:a=2 * b+c→2 * d+1+a=2 * (d+b)+(c+1):=ok (.i (.eq (v 0) (.a (.m 2 (v 1)) (v 2))) (.eq (.a (.a (.m 2 (v 3)) (n 1)) (v 0)) (.a (.m 2 (.a (v 3) (v 1))) (.a (v 2) (n 1))))) [a,b,c,d] (by kernel_rfl)
theorem zde{a b c d e:Nat}:max a b=b→b≤c→d+e≤max a b→d≤c:=ok (.i (.eq (mx (v 0) (v 1)) (v 1)) (.i (.le (v 1) (v 2)) (.i (.le (.a (v 3) (v 4)) (mx (v 0) (v 1))) (.le (v 3) (v 2))))) [a,b,c,d,e] (by kernel_rfl)
theorem zdf{a b c d e:Nat}:max a b=b→b≤c→d≠0→e+d≤max a b→e - a<c:=ok (.i (.eq (mx (v 0) (v 1)) (v 1)) (.i (.le (v 1) (v 2)) (.i (.ne (v 3) (n 0)) (.i (.le (.a (v 4) (v 3)) (mx (v 0) (v 1))) (.lt (.s (v 4) (v 0)) (v 2)))))) [a,b,c,d,e] (by kernel_rfl)
theorem zdg:∀ {a b c:Nat},a+b<c→a+b≤c:=by intro _ _ _ h;exact Nat.le_of_lt h
theorem zdh{a b c d e:Nat}:a≤b→c+d≤max e a→c - e<b+1:=ok (.i (.le (v 0) (v 1)) (.i (.le (.a (v 2) (v 3)) (mx (v 4) (v 0))) (.lt (.s (v 2) (v 4)) (.a (v 1) (n 1))))) [a,b,c,d,e] (by kernel_rfl)
theorem zdi{a b c d:Nat}:¬(a<b∧c<d)→b≤a∨d≤c:=ok (.i (no (.an (.lt (v 0) (v 1)) (.lt (v 2) (v 3)))) (.or (.le (v 1) (v 0)) (.le (v 3) (v 2)))) [a,b,c,d] (by kernel_rfl)
theorem zdj:∀ {a b:Nat},a - b+0≤a - b:=by intro a0 a1 ; exact Nat.le_refl (a0 - a1+0)
theorem zdk:∀ {a b c:Nat},a - (b+c)+0≤a - (b+c):=by intro a0 a1 a2 ; exact Nat.le_refl (a0 - (a1+a2)+0)
theorem zdm{a b c d:Nat}:a≤b→a - (c+d)<b+1:=ok (.i (.le (v 0) (v 1)) (.lt (.s (v 0) (.a (v 2) (v 3))) (.a (v 1) (n 1)))) [a,b,c,d] (by kernel_rfl)
theorem zdn{a b c d e:Nat}:¬(a+b<c∧d+b<e)→c≤a+b∨e≤d+b:=ok (.i (no (.an (.lt (.a (v 0) (v 1)) (v 2)) (.lt (.a (v 3) (v 1)) (v 4)))) (.or (.le (v 2) (.a (v 0) (v 1))) (.le (v 4) (.a (v 3) (v 1))))) [a,b,c,d,e] (by kernel_rfl)
theorem zdo{a b c d:Nat}:a=b→c≤b→a<d→c≤d:=ok (.i (.eq (v 0) (v 1)) (.i (.le (v 2) (v 1)) (.i (.lt (v 0) (v 3)) (.le (v 2) (v 3))))) [a,b,c,d] (by kernel_rfl)
theorem zdp{a b:Nat}:a≤b→b≠a→a+1≤b:=ok (.i (.le (v 0) (v 1)) (.i (.ne (v 1) (v 0)) (.le (.a (v 0) (n 1)) (v 1)))) [a,b] (by kernel_rfl)
theorem zdq{a:Nat}:1≤a→(a - 1) / 2<a:=ok (.i (.le (.m 2 (v 1)) (.s (v 0) (n 1))) (.i (.lt (.s (v 0) (n 1)) (.m 2 (.a (v 1) (n 1)))) (.i (.le (n 1) (v 0)) (.lt (v 1) (v 0))))) [a,((a - 1) / 2)] (by kernel_rfl) (Nat.mul_div_le _ 2) (Nat.lt_mul_div_succ _ (by decide))
theorem zdr{a b:Nat}:1≤a→(a - 1) / 2=b→a=2 * b+1∨a=2 * b+2:=ok (.i (.le (.m 2 (v 2)) (.s (v 0) (n 1))) (.i (.lt (.s (v 0) (n 1)) (.m 2 (.a (v 2) (n 1)))) (.i (.le (n 1) (v 0)) (.i (.eq (v 2) (v 1)) (.or (.eq (v 0) (.a (.m 2 (v 1)) (n 1))) (.eq (v 0) (.a (.m 2 (v 1)) (n 2)))))))) [a,b,((a - 1) / 2)] (by kernel_rfl) (Nat.mul_div_le _ 2) (Nat.lt_mul_div_succ _ (by decide))
theorem zds{a:Nat}:¬a=0→1≤a:=ok (.i (no (.eq (v 0) (n 0))) (.le (n 1) (v 0))) [a] (by kernel_rfl)
theorem zdu:∀ {a b c:Nat}{d e:Int},a≤b→c=a→b<c→d≤e:=by intro _ _ _ _ _ h q r;lia
theorem zdx:∀ {a b c:Int},a≤b→b≤c→a≤c:=by intro a0 a1 a2 h q;exact Int.le_trans h q
theorem zdy{a b:Nat}:a<b→b≤a→False:=ok (.i (.lt (v 0) (v 1)) (.i (.le (v 1) (v 0)) P.f)) [a,b] (by kernel_rfl)
theorem zdz:∀ {a b:Int},a<b→a≤b:=by intro a0 a1 h;exact Int.le_of_lt h
theorem ze0:∀ {a b c:Int},a<b→b≤c→a≤c:=by intro _ _ _ h q;lia
theorem ze1{a b c d e:Nat}:a=b→a<c→d=c→d<e→e≠b:=ok (.i (.eq (v 0) (v 1)) (.i (.lt (v 0) (v 2)) (.i (.eq (v 3) (v 2)) (.i (.lt (v 3) (v 4)) (.ne (v 4) (v 1)))))) [a,b,c,d,e] (by kernel_rfl)
theorem ze2{a b c d:Nat}:a=b→a<c→d≤b→d≤c:=ok (.i (.eq (v 0) (v 1)) (.i (.lt (v 0) (v 2)) (.i (.le (v 3) (v 1)) (.le (v 3) (v 2))))) [a,b,c,d] (by kernel_rfl)
theorem ze3{a b c:Nat}:a<b→c<a→c≠b:=ok (.i (.lt (v 0) (v 1)) (.i (.lt (v 2) (v 0)) (.ne (v 2) (v 1)))) [a,b,c] (by kernel_rfl)
theorem zey{a b c:Nat}:a<b→b - (c+1)≤b - (c+1)+b - 1 - a:=ok (.i (.lt (v 0) (v 1)) (.le (.s (v 1) (.a (v 2) (n 1))) (.s (.s (.a (.s (v 1) (.a (v 2) (n 1))) (v 1)) (n 1)) (v 0)))) [a,b,c] (by kernel_rfl)
theorem zez:∀ {a b:Nat},0<a→a≤b→0<b:=by intro a0 a1 h q;exact Nat.lt_of_lt_of_le h q
theorem zf0{a b:Nat}:a≤b→b<1→a=b:=ok (.i (.le (v 0) (v 1)) (.i (.lt (v 1) (n 1)) (.eq (v 0) (v 1)))) [a,b] (by kernel_rfl)
theorem zf1:∀ {a b:Nat},a<b+1→a≥b→a=b:=by intro a0 a1 h q;exact Nat.eq_of_le_of_lt_succ q h
theorem zf2:∀ {a b:Nat},a+1+b=a+(b+1):=by intro a0 a1 ; exact Nat.succ_add_eq_add_succ a0 a1
theorem zf3{a b c:Nat}:a - (b+1)≤c→c<a→a - (b+1)+a - 1 - c<a:=ok (.i (.le (.s (v 0) (.a (v 1) (n 1))) (v 2)) (.i (.lt (v 2) (v 0)) (.lt (.s (.s (.a (.s (v 0) (.a (v 1) (n 1))) (v 0)) (n 1)) (v 2)) (v 0)))) [a,b,c] (by kernel_rfl)
theorem zf4{a b:Nat}:a≤b→b - a≤0→a=b:=ok (.i (.le (v 0) (v 1)) (.i (.le (.s (v 1) (v 0)) (n 0)) (.eq (v 0) (v 1)))) [a,b] (by kernel_rfl)
theorem zf6{a b c:Nat}:a≤b→c≤a+(b - a)→c≤b:=ok (.i (.le (v 0) (v 1)) (.i (.le (v 2) (.a (v 0) (.s (v 1) (v 0)))) (.le (v 2) (v 1)))) [a,b,c] (by kernel_rfl)
theorem zf7:∀ {a:Nat},a - 0≤a:=by intro a0 ; exact Nat.sub_le a0 0
theorem zf9:∀ {a b:Nat},a≤b→¬b<a:=by intro _ _ h;simpa using h
theorem zfa{a b:Nat}:a<b→a+1+(b - (a+1))≤b:=ok (.i (.lt (v 0) (v 1)) (.le (.a (.a (v 0) (n 1)) (.s (v 1) (.a (v 0) (n 1)))) (v 1))) [a,b] (by kernel_rfl)
theorem zfb:∀ {a b c:Nat},a≤b→c=b→a≤c:=by intro a0 a1 a2 h q;exact le_of_le_of_eq h (id (Eq.symm q))
theorem zfd:∀ {a:Nat},0<a→max a 1=a:=by intro a0 h;exact Nat.max_eq_left h
theorem zfe{a b c:Nat}:a+(b+1)=c→a+1+b=c:=ok (.i (.eq (.a (v 0) (.a (v 1) (n 1))) (v 2)) (.eq (.a (.a (v 0) (n 1)) (v 1)) (v 2))) [a,b,c] (by kernel_rfl)
theorem zfg:∀ {a b:Nat},a+1 - (0+1)≤b→b<a+1→b=a+1 - 1:=by intro a0 a1 h q;exact Nat.eq_of_le_of_lt_succ h q
theorem zfh:∀ {a:Nat},0≤a:=by intro a0 ; exact Nat.zero_le a0
theorem zfj:∀ {a b c:Nat},a≤b→b<c→a<c:=by intro a0 a1 a2 h q;exact Nat.lt_of_le_of_lt h q
theorem zfk{a b c d:Nat}:a+(b+1)=c→d=c→a<d:=ok (.i (.eq (.a (v 0) (.a (v 1) (n 1))) (v 2)) (.i (.eq (v 3) (v 2)) (.lt (v 0) (v 3)))) [a,b,c,d] (by kernel_rfl)
theorem zfl:∀ {a:Nat},0<a→a - 1<a:=by intro a0 h;exact Nat.sub_one_lt_of_lt h
theorem zfn:∀ {a b:Nat},a+1≤b→0<b:=by intro a0 a1 h;exact Nat.zero_lt_of_lt h
theorem zfo:∀ {a b:Nat},a - b≤a:=by intro a0 a1 ; exact Nat.sub_le a0 a1
theorem zfq:∀ {a b c:Nat},a≤b→0+c - 1 - b≤0+c - 1 - a:=by intro a0 a1 a2 h;exact Nat.sub_le_sub_left h (0+a2 - 1)
theorem zfr{a b c:Nat}:a<b→0+b - 1 - c<b:=ok (.i (.lt (v 0) (v 1)) (.lt (.s (.s (.a (n 0) (v 1)) (n 1)) (v 2)) (v 1))) [a,b,c] (by kernel_rfl)
theorem zfs{a b:Nat}:0<a→b≤1+(a - 1)→b≤a:=ok (.i (.lt (n 0) (v 0)) (.i (.le (v 1) (.a (n 1) (.s (v 0) (n 1)))) (.le (v 1) (v 0)))) [a,b] (by kernel_rfl)
theorem zft{a b c:Nat}:¬a<b→c≤b→c≤a:=ok (.i (no (.lt (v 0) (v 1))) (.i (.le (v 2) (v 1)) (.le (v 2) (v 0)))) [a,b,c] (by kernel_rfl)
theorem zfu{a b c:Nat}:a - b≤c+1→(b+a) / 2 - b≤c:=ok (.i (.le (.m 2 (v 3)) (.a (v 1) (v 0))) (.i (.lt (.a (v 1) (v 0)) (.m 2 (.a (v 3) (n 1)))) (.i (.le (.s (v 0) (v 1)) (.a (v 2) (n 1))) (.le (.s (v 3) (v 1)) (v 2))))) [a,b,c,((b+a) / 2)] (by kernel_rfl) (Nat.mul_div_le _ 2) (Nat.lt_mul_div_succ _ (by decide))
theorem zfv{a b c:Nat}:a<b→c≤a+1+(b - (a+1))→c≤b:=ok (.i (.lt (v 0) (v 1)) (.i (.le (v 2) (.a (.a (v 0) (n 1)) (.s (v 1) (.a (v 0) (n 1))))) (.le (v 2) (v 1)))) [a,b,c] (by kernel_rfl)
theorem zfw:∀ {a b c:Nat},a<b→b≤c→a<c:=by intro a0 a1 a2 h q;exact Nat.lt_of_lt_of_le h q
theorem zf8:∀ {a b:Nat},a≤b→a≥b→a=b:=by intro a0 a1 h q;exact Nat.le_antisymm h q
theorem zfy{a b c:Nat}:a - b≤c+1→a - ((b+a) / 2+1)≤c:=ok (.i (.le (.m 2 (v 3)) (.a (v 1) (v 0))) (.i (.lt (.a (v 1) (v 0)) (.m 2 (.a (v 3) (n 1)))) (.i (.le (.s (v 0) (v 1)) (.a (v 2) (n 1))) (.le (.s (v 0) (.a (v 3) (n 1))) (v 2))))) [a,b,c,((b+a) / 2)] (by kernel_rfl) (Nat.mul_div_le _ 2) (Nat.lt_mul_div_succ _ (by decide))
theorem zg0{a b c d:Nat}:a<b→c≤a+1+(b - (a+1))→d=b→c≤d:=ok (.i (.lt (v 0) (v 1)) (.i (.le (v 2) (.a (.a (v 0) (n 1)) (.s (v 1) (.a (v 0) (n 1))))) (.i (.eq (v 3) (v 1)) (.le (v 2) (v 3))))) [a,b,c,d] (by kernel_rfl)
theorem zg1:∀ {a b c:Nat},a<(b+c) / 2+1→a≤(b+c) / 2:=by intro a0 a1 a2 h;exact Nat.le_of_lt_succ h
theorem zg2:∀ {a b:Nat},a≤b→b - (b - a)=a:=by intro a0 a1 h;exact Nat.sub_sub_self h
theorem zg3:∀ {a b:Nat},a+1≤b→a≤b:=by intro _ _ h;exact Nat.le_of_lt h
theorem zg4{a b c:Nat}:a≤b→a=c→¬b=c→c<b:=ok (.i (.le (v 0) (v 1)) (.i (.eq (v 0) (v 2)) (.i (no (.eq (v 1) (v 2))) (.lt (v 2) (v 1))))) [a,b,c] (by kernel_rfl)
theorem zg6{a b c:Nat}:a<b→b≤c→a≤c:=ok (.i (.lt (v 0) (v 1)) (.i (.le (v 1) (v 2)) (.le (v 0) (v 2)))) [a,b,c] (by kernel_rfl)
theorem zg7:∀ {a b:Nat},a<b+1→a≤b:=by intro a0 a1 h;exact Nat.le_of_lt_succ h
theorem zg9{a b c:Nat}:a≤b→a=c→¬b=c→c≤b - 1:=ok (.i (.le (v 0) (v 1)) (.i (.eq (v 0) (v 2)) (.i (no (.eq (v 1) (v 2))) (.le (v 2) (.s (v 1) (n 1)))))) [a,b,c] (by kernel_rfl)
theorem zga{a b c d:Nat}:a+(b+1)≤c→d=c→a≤d:=ok (.i (.le (.a (v 0) (.a (v 1) (n 1))) (v 2)) (.i (.eq (v 3) (v 2)) (.le (v 0) (v 3)))) [a,b,c,d] (by kernel_rfl)
theorem zgb:∀ {a:Nat},1≤a→a - 1<a:=by intro a0 h;exact Nat.sub_one_lt_of_lt h
theorem zgc{a b c d:Nat}:a≤b→b<c+1→a=d→¬b=d→b - 1<c:=ok (.i (.le (v 0) (v 1)) (.i (.lt (v 1) (.a (v 2) (n 1))) (.i (.eq (v 0) (v 3)) (.i (no (.eq (v 1) (v 3))) (.lt (.s (v 1) (n 1)) (v 2)))))) [a,b,c,d] (by kernel_rfl)
theorem zgd{a b c:Nat}:a≤b→c<a→¬b=c:=ok (.i (.le (v 0) (v 1)) (.i (.lt (v 2) (v 0)) (no (.eq (v 1) (v 2))))) [a,b,c] (by kernel_rfl)
theorem zge{a b c:Nat}:¬a<b→a≤c→c≤b→c=a:=ok (.i (no (.lt (v 0) (v 1))) (.i (.le (v 0) (v 2)) (.i (.le (v 2) (v 1)) (.eq (v 2) (v 0))))) [a,b,c] (by kernel_rfl)
theorem zgf:∀ {a b c:Nat},a≤b→c<a→c<b:=by intro a0 a1 a2 h q;exact Nat.lt_of_lt_of_le q h
theorem zgg{a b c:Nat}:0<a→b=a→c≤1+(a - 1)→c≤b:=ok (.i (.lt (n 0) (v 0)) (.i (.eq (v 1) (v 0)) (.i (.le (v 2) (.a (n 1) (.s (v 0) (n 1)))) (.le (v 2) (v 1))))) [a,b,c] (by kernel_rfl)
theorem zgh{a b c:Nat}:¬a<b→a≤c→b≤c:=ok (.i (no (.lt (v 0) (v 1))) (.i (.le (v 0) (v 2)) (.le (v 1) (v 2)))) [a,b,c] (by kernel_rfl)
theorem zgi:∀ {a b:Nat},a≤b→a - 1≤b - 1:=by intro a0 a1 h;exact Nat.sub_le_sub_right h 1
theorem zgj{a b:Nat}:a<b→0+b - 1 - a<b:=ok (.i (.lt (v 0) (v 1)) (.lt (.s (.s (.a (n 0) (v 1)) (n 1)) (v 0)) (v 1))) [a,b] (by kernel_rfl)
theorem zgk{a b c:Nat}:a+1 - (b+1+1)≤c→a - (b+1)≤c:=ok (.i (.le (.s (.a (v 0) (n 1)) (.a (.a (v 1) (n 1)) (n 1))) (v 2)) (.le (.s (v 0) (.a (v 1) (n 1))) (v 2))) [a,b,c] (by kernel_rfl)
theorem zgl{a b c d:Nat}:a<b+1→c<d→d≤b→a - 1<b:=ok (.i (.lt (v 0) (.a (v 1) (n 1))) (.i (.lt (v 2) (v 3)) (.i (.le (v 3) (v 1)) (.lt (.s (v 0) (n 1)) (v 1))))) [a,b,c,d] (by kernel_rfl)
theorem zgm{a b c:Nat}:a≤b→¬a=c→b=c→a<c:=ok (.i (.le (v 0) (v 1)) (.i (no (.eq (v 0) (v 2))) (.i (.eq (v 1) (v 2)) (.lt (v 0) (v 2))))) [a,b,c] (by kernel_rfl)
theorem zgn{a b c:Nat}:¬a<b→¬b<a→c=b→c=a:=ok (.i (no (.lt (v 0) (v 1))) (.i (no (.lt (v 1) (v 0))) (.i (.eq (v 2) (v 1)) (.eq (v 2) (v 0))))) [a,b,c] (by kernel_rfl)
theorem zgo{a b c:Nat}:a≤b→b<c+1→a≤c:=ok (.i (.le (v 0) (v 1)) (.i (.lt (v 1) (.a (v 2) (n 1))) (.le (v 0) (v 2)))) [a,b,c] (by kernel_rfl)
theorem zgp{a b c d:Nat}:a≤b→¬(c<a∧a≤d)→c<b→b≤d→a≤b - 1:=ok (.i (.le (v 0) (v 1)) (.i (no (.an (.lt (v 2) (v 0)) (.le (v 0) (v 3)))) (.i (.lt (v 2) (v 1)) (.i (.le (v 1) (v 3)) (.le (v 0) (.s (v 1) (n 1))))))) [a,b,c,d] (by kernel_rfl)
theorem zgq{a b c:Nat}:a<b→b=c→a≤c:=ok (.i (.lt (v 0) (v 1)) (.i (.eq (v 1) (v 2)) (.le (v 0) (v 2)))) [a,b,c] (by kernel_rfl)
theorem zgr{a b c:Nat}:a<b→b≤c→b - 1<c:=ok (.i (.lt (v 0) (v 1)) (.i (.le (v 1) (v 2)) (.lt (.s (v 1) (n 1)) (v 2)))) [a,b,c] (by kernel_rfl)
theorem zgs{a b c:Nat}:a≤b→¬a<c→¬b<c:=ok (.i (.le (v 0) (v 1)) (.i (no (.lt (v 0) (v 2))) (no (.lt (v 1) (v 2))))) [a,b,c] (by kernel_rfl)
theorem zgu{a b c:Nat}:a≤b→c<b+1→¬c=a→¬(a<c∧c≤b)→c<b:=ok (.i (.le (v 0) (v 1)) (.i (.lt (v 2) (.a (v 1) (n 1))) (.i (no (.eq (v 2) (v 0))) (.i (no (.an (.lt (v 0) (v 2)) (.le (v 2) (v 1)))) (.lt (v 2) (v 1)))))) [a,b,c] (by kernel_rfl)
theorem zgx{a b:Nat}:a<1+1→b<a→b=0:=ok (.i (.lt (v 0) (.a (n 1) (n 1))) (.i (.lt (v 1) (v 0)) (.eq (v 1) (n 0)))) [a,b] (by kernel_rfl)
theorem zgy{a b:Nat}:a<1+1→b<a→a=1:=ok (.i (.lt (v 0) (.a (n 1) (n 1))) (.i (.lt (v 1) (v 0)) (.eq (v 0) (n 1)))) [a,b] (by kernel_rfl)
theorem zj5:∀ {a:Int},0<a→¬a≤0:=by intro _ h;simpa using h
theorem zj6:∀ {a b:Nat},a<b→(0:Int)<(↑b:Int) - (↑a:Int):=by intro _ _ h;simpa using h
theorem zj7{a b c d:Nat}:a≤b→b≤1000→c=d→d<a→c≤10000:=ok (.i (.le (v 0) (v 1)) (.i (.le (v 1) (n 1000)) (.i (.eq (v 2) (v 3)) (.i (.lt (v 3) (v 0)) (.le (v 2) (n 10000)))))) [a,b,c,d] (by kernel_rfl)
theorem zj8:∀ {a:Nat},-(↑a:Int)+(-1:Int) = -(↑(a+(1:Nat)):Int):=by intros;lia
theorem zj9{a b:Nat}:a≥b→a - b=0→a=b:=ok (.i (.le (v 1) (v 0)) (.i (.eq (.s (v 0) (v 1)) (n 0)) (.eq (v 0) (v 1)))) [a,b] (by kernel_rfl)
theorem zja:∀ {a:Nat},(↑a:Int) - (↑a:Int)≤(0:Int):=by intros;simp
theorem zjb{a b:Nat}:a<b→(a - 1) / 2<b:=ok (.i (.le (.m 2 (v 2)) (.s (v 0) (n 1))) (.i (.lt (.s (v 0) (n 1)) (.m 2 (.a (v 2) (n 1)))) (.i (.lt (v 0) (v 1)) (.lt (v 2) (v 1))))) [a,b,((a - 1) / 2)] (by kernel_rfl) (Nat.mul_div_le _ 2) (Nat.lt_mul_div_succ _ (by decide))
theorem zjc:∀ {a b:Nat},a<b→(↑a:Int)<(↑b:Int):=by intro _ _ h;simpa using h
theorem zjd:∀ {a b:Int}{c d:Nat},-60≤a→b≤0→↑c * 1000+a≤↑d * 1000+b→c≤d:=by intro _ _ _ _ h q r;lia
theorem zjf{a b:Nat}:min a b - 0+1+(min b b - a)≤b+1:=ok (.le (.a (.a (.s (mn (v 0) (v 1)) (n 0)) (n 1)) (.s (mn (v 1) (v 1)) (v 0))) (.a (v 1) (n 1))) [a,b] (by kernel_rfl)
theorem zjg{a b:Nat}:a≤100→b≤a+1→b≤16777216:=ok (.i (.le (v 0) (n 100)) (.i (.le (v 1) (.a (v 0) (n 1))) (.le (v 1) (n 16777216)))) [a,b] (by kernel_rfl)
theorem zjh:∀ {a e:Bool}{b c d:Nat},(a || decide (b > c) || decide (d > 4096) || e)=false→¬d > 16777216:=by intro _ _ _ _ _ h;lia
end
end Mine
end
section
namespace Mine
universe u
inductive Ex2 {A0:Sort _}{A1:Sort _} (P:A0→A1→Prop):Prop
 | mk:∀ a0 a1,P a0 a1→Ex2 P
inductive Ex3 {A0:Sort _}{A1:Sort _}{A2:Sort _} (P:A0→A1→A2→Prop):Prop
 | mk:∀ a0 a1 a2,P a0 a1 a2→Ex3 P
inductive Ex4 {A0:Sort _}{A1:Sort _}{A2:Sort _}{A3:Sort _} (P:A0→A1→A2→A3→Prop):Prop
 | mk:∀ a0 a1 a2 a3,P a0 a1 a2 a3→Ex4 P
inductive Ex5 {A0:Sort _}{A1:Sort _}{A2:Sort _}{A3:Sort _}{A4:Sort _} (P:A0→A1→A2→A3→A4→Prop):Prop
 | mk:∀ a0 a1 a2 a3 a4,P a0 a1 a2 a3 a4→Ex5 P
inductive Ex6 {A0:Sort _}{A1:Sort _}{A2:Sort _}{A3:Sort _}{A4:Sort _}{A5:Sort _} (P:A0→A1→A2→A3→A4→A5→Prop):Prop
 | mk:∀ a0 a1 a2 a3 a4 a5,P a0 a1 a2 a3 a4 a5→Ex6 P
inductive Ex7 {A0:Sort _}{A1:Sort _}{A2:Sort _}{A3:Sort _}{A4:Sort _}{A5:Sort _}{A6:Sort _} (P:A0→A1→A2→A3→A4→A5→A6→Prop):Prop
 | mk:∀ a0 a1 a2 a3 a4 a5 a6,P a0 a1 a2 a3 a4 a5 a6→Ex7 P
inductive Ex8 {A0:Sort _}{A1:Sort _}{A2:Sort _}{A3:Sort _}{A4:Sort _}{A5:Sort _}{A6:Sort _}{A7:Sort _} (P:A0→A1→A2→A3→A4→A5→A6→A7→Prop):Prop
 | mk:∀ a0 a1 a2 a3 a4 a5 a6 a7,P a0 a1 a2 a3 a4 a5 a6 a7→Ex8 P
inductive Ex13 {A0:Sort _}{A1:Sort _}{A2:Sort _}{A3:Sort _}{A4:Sort _}{A5:Sort _}{A6:Sort _}{A7:Sort _}{A8:Sort _}{A9:Sort _}{A10:Sort _}{A11:Sort _}{A12:Sort _} (P:A0→A1→A2→A3→A4→A5→A6→A7→A8→A9→A10→A11→A12→Prop):Prop
 | mk:∀ a0 a1 a2 a3 a4 a5 a6 a7 a8 a9 a10 a11 a12,P a0 a1 a2 a3 a4 a5 a6 a7 a8 a9 a10 a11 a12→Ex13 P
inductive An3 (p0 p1 p2:Prop):Prop
 | mk:p0→p1→p2→An3 p0 p1 p2
inductive An4 (p0 p1 p2 p3:Prop):Prop
 | mk:p0→p1→p2→p3→An4 p0 p1 p2 p3
inductive An5 (p0 p1 p2 p3 p4:Prop):Prop
 | mk:p0→p1→p2→p3→p4→An5 p0 p1 p2 p3 p4
inductive An6 (p0 p1 p2 p3 p4 p5:Prop):Prop
 | mk:p0→p1→p2→p3→p4→p5→An6 p0 p1 p2 p3 p4 p5
inductive An7 (p0 p1 p2 p3 p4 p5 p6:Prop):Prop
 | mk:p0→p1→p2→p3→p4→p5→p6→An7 p0 p1 p2 p3 p4 p5 p6
inductive An8 (p0 p1 p2 p3 p4 p5 p6 p7:Prop):Prop
 | mk:p0→p1→p2→p3→p4→p5→p6→p7→An8 p0 p1 p2 p3 p4 p5 p6 p7
inductive An9 (p0 p1 p2 p3 p4 p5 p6 p7 p8:Prop):Prop
 | mk:p0→p1→p2→p3→p4→p5→p6→p7→p8→An9 p0 p1 p2 p3 p4 p5 p6 p7 p8
inductive An11 (p0 p1 p2 p3 p4 p5 p6 p7 p8 p9 p10:Prop):Prop
 | mk:p0→p1→p2→p3→p4→p5→p6→p7→p8→p9→p10→An11 p0 p1 p2 p3 p4 p5 p6 p7 p8 p9 p10
end Mine
end
section
open PySem PySem.W PyProof.Rows
namespace Mine
noncomputable def anyF(as:Array Nat)(p:Nat→Bool)(i:Nat)(j:Nat):Bool :=
 match Nat.beq i 0 && Nat.beq j as.size with
 | true=>as.toList.any p
 | false=>as.any p i j
theorem rI(as:Array Nat)(p:Nat→Bool)(i j:Nat):Array.any as p i j=anyF as p i j:=by
 unfold anyF
 split
 ·rename_i h
  rw[Bool.and_eq_true] at h
  rw[Nat.eq_of_beq_eq_true h.1,Nat.eq_of_beq_eq_true h.2,Array.any_toList]
 ·rfl
theorem n7 : @Array.any Nat=anyF:=by
 funext as p i j;exact rI as p i j
noncomputable abbrev AnyT:Type:=Array Nat→(Nat→Bool)→Nat→Nat→Bool
noncomputable def tnG:AnyT→Builtin:=by
 have go:∀ (a:AnyT) (f:Builtin),((@Array.any Nat:AnyT)=a→Builtin.«type.__new__» = f)→True:=fun _ _ _=>trivial
 refine fun a=>(fun (f:Builtin) (_:True)=>f) ?f (go a ?f ?h)
 case h =>
  intro e
  delta Builtin.«type.__new__»
  rw[e]
noncomputable def tnF:Builtin:=tnG anyF
theorem oS:Builtin.«type.__new__» = tnF:=by
 have h:Builtin.«type.__new__» = tnG (@Array.any Nat):=by kernel_rfl
 rw[h,n7,tnF]
noncomputable def T2 (tn:Builtin) (id:String):Option Builtin:=if id == "type.__new__" then some tn else treeTable id
theorem T2_eq:treeTable=T2 tnF:=by
 funext id
 unfold T2
 split
 ·rename_i h
  have h:=beq_iff_eq.mp h
  subst h
  rw[← oS]
  kernel_rfl
 ·rfl
noncomputable def eM(tb:String→Option Builtin)(p:Program)(w:World)(n_0:Nat)(ann:Option Value):Nat→SharedT→Thread→Option SharedT
 | 0,_,_=>none
 | n+1,s,t=>match through t with
  | true=>some s
  | false=>match stepOk n_0 ann t with
   | false=>none
   | true=>match stepT (denote tb) p w s t with
    | some (s',t')=>eM tb p w n_0 ann n s' t'
    | none=>none
theorem eu{tb:String→Option Builtin}{p:Program}{w:World}{n_0:Nat}{ann:Option Value}:∀ {n:Nat}{s s':SharedT}{t:Thread},
  eM tb p w n_0 ann n s t=some s'→topRun tb p w n_0 ann n s.abs t=some s'.abs
 | 0,_,_,_,h=>by cases h
 | n+1,s,s',t,h=>by
  unfold eM at h
  unfold topRun
  cases he:through t with
  | true=>rw[he] at h;cases h;rfl
  | false =>
   rw[he] at h
   cases hk:stepOk n_0 ann t with
   | false=>rw[hk] at h;cases h
   | true =>
    rw[hk] at h
    cases hs:stepT (denote tb) p w s t with
    | none=>rw[hs] at h;cases h
    | some r=>obtain⟨s_2,t_2⟩:=r;rw[hs] at h;rw[stepT_spec hs];exact eu h
noncomputable def hG:List Obj→Nat→BT→Option BT
 | [],_,t=>some t
 | o::l,i,t=>match ((t.ins i o).get i).isSome with
  | true=>hG l (i+1) (t.ins i o)
  | false=>none
theorem eG{life:Life}:∀ {l:List Obj}{i:Nat}{t t':BT},hG l i t=some t' →
  (absHeap t' (i+l.length) life).objs=(absHeap t i life).objs++l.toArray
 | [],i,t,t',h=>by cases h;simp
 | o::l,i,t,t',h=>by
  unfold hG at h
  cases hg:((t.ins i o).get i).isSome with
  | false=>rw[hg] at h;cases h
  | true =>
   rw[hg] at h
   have ih:=eG (life:=life) h
   rw[show i+(o::l).length=i+1+l.length by simp;exact z2i,ih,absHeap_ins hg]
   show (absHeap t i life).objs.push o++l.toArray=_
   simp
noncomputable def toT(s:Shared):Option SharedT :=
 (hG s.heap.objs.toList 0 .nil).map fun t=>⟨t,s.heap.objs.toList.length,s.heap.life,s.gens,s.drawn,s.toks,s.os⟩
theorem mh{s:Shared}{t:SharedT}(h:toT s=some t):t.abs=s∧t.n=s.heap.objs.size:=by
 unfold toT at h
 obtain⟨b,hb,rfl⟩:=Option.map_eq_some_iff.mp h
 have e:=eG (life:=s.heap.life) hb
 rw[Nat.zero_add] at e
 refine⟨?_,by simp⟩
 obtain⟨⟨objs,life⟩,gens,drawn,toks,os⟩:=s
 show Shared.mk (absHeap b objs.toList.length life) gens drawn toks os=_
 have e2:absHeap b objs.toList.length life=⟨objs,life⟩:=by
  have:(absHeap BT.nil 0 life).objs = #[]:=rfl
  rw[this] at e
  have e3:(absHeap b objs.toList.length life).objs=objs:=by rw[e];simp
  show Heap.mk _ _=_
  exact congrArg (Heap.mk · life) e3
 rw[e2]
noncomputable def cN(tb:String→Option Builtin)(p:Program)(w:World)(N:Nat)(s0:Shared):Option Shared :=
 match s0.heap.isNs mainGlobals && s0.gens.size == 0 with
 | true=>(toT s0).bind fun t=>(eM tb p w t.n (s0.heap.nsMap mainGlobals "__annotations__") N t (topStub p)).bind fun r =>
   match staticsOk (importedModules p.main.body) s0.heap r.abs.heap && namesBound p r.abs.heap && gensDone r.abs && laidKept s0.heap r.abs.heap with
   | true=>some r.abs
   | false=>none
 | false=>none
theorem gw{tb:String→Option Builtin}{p:Program}{w:World}{N:Nat}{s0 s:Shared}(h:cN tb p w N s0=some s):topFrom tb p w N s0=some s:=by
 unfold cN at h
 unfold topFrom
 cases hg:(s0.heap.isNs mainGlobals && s0.gens.size == 0) with
 | false=>rw[hg] at h;cases h
 | true =>
  rw[hg] at h
  obtain⟨t,ht,h⟩:=Option.bind_eq_some_iff.mp h
  obtain⟨r,hr,h⟩:=Option.bind_eq_some_iff.mp h
  obtain⟨e1,e2⟩:=mh ht
  have hr':=eu hr
  rw[e1,e2] at hr'
  dsimp only
  rw[hr']
  exact h
theorem nE{p q:Program}{loose:List Str}{Xt:Shared→Bool}{α:Type}{Yf:Shared→α}{Ya:World→α}{N:Nat}{g0:Bool}
  (h:∀ w,((fencedOpening (T2 tnF) p w N).bind (cN (T2 tnF) p w N)).map (fun s=>(openSeen q loose (importedModules p.main.body) Xt g0 s,Yf s))=some (openGood q loose,Ya w)) :
  LeftO p q loose Xt Yf Ya N g0:=fun w=>by
 rw[T2_eq]
 obtain⟨s,hs,e⟩:=Option.map_eq_some_iff.mp (h w)
 obtain⟨s0,h0,h1⟩:=Option.bind_eq_some_iff.mp hs
 unfold openEnds
 rw[h0]
 show (topFrom (T2 tnF) p w N s0).map _=_
 rw[gw h1]
 exact congrArg some e
noncomputable def fV{β:Type}(v:Value)(k:Value→β):β:=match v with
 | .none=>k .none
 | .ellipsis=>k .ellipsis
 | .notImplemented=>k .notImplemented
 | .bool b=>k (.bool b)
 | .int i t=>k (.int i t)
 | .float x t=>k (.float x t)
 | .str s t=>k (.str s t)
 | .bytes b t=>k (.bytes b t)
 | .type n=>k (.type n)
 | .builtin i=>k (.builtin i)
 | .ref a=>k (.ref a)
noncomputable def fL{α β:Type}(f:α→(α→β)→β):List α→(List α→β)→β
 | [],k=>k []
 | a::l,k=>f a fun a'=>fL f l fun l'=>k (a'::l')
noncomputable def fO{α β:Type}(f:α→(α→β)→β)(x:Option α)(k:Option α→β):β:=match x with
 | none=>k none
 | some a=>f a fun a'=>k (some a')
noncomputable def fE{β:Type}(e:DictEntry)(k:DictEntry→β):β:=match e with
 | ⟨h,a,b⟩=>fV a fun a'=>fV b fun b'=>k ⟨h,a',b'⟩
noncomputable def fA{α β:Type}(f:α→(α→β)→β)(x:Array α)(k:Array α→β):β:=match x with
 | ⟨l⟩=>fL f l fun l'=>k ⟨l'⟩
noncomputable def fI{α β:Type}(x:α)(k:α→β):β:=k x
noncomputable def fF{β:Type}(f:FuncData)(k:FuncData→β):β:=match f with
 | ⟨a,b,c,d,e,g,cl,df,kd,dc,pm,an,cd,ct,bi⟩=>fL (fun (x:Str×Addr) k=>match x with | (u,v)=>k (u,v)) cl fun cl=>fV df fun df=>fV kd fun kd=>fV dc fun dc=>fV pm fun pm=>fO fI an fun an=>fV cd fun cd=>fV ct fun ct =>
   match d with
   | .stmts d=>k ⟨a,b,c,.stmts d,e,g,cl,df,kd,dc,pm,an,cd,ct,bi⟩
   | .expr d=>k ⟨a,b,c,.expr d,e,g,cl,df,kd,dc,pm,an,cd,ct,bi⟩
noncomputable def fC{β:Type}(c:ClassData)(k:ClassData→β):β:=match c with
 | ⟨n,bs,mro,ns,qn,hd,sl,sub,ab,co,del⟩=>fL fV bs fun bs=>fL fV mro fun mro=>fL fI sl fun sl=>fL fV sub fun sub=>fO fI co fun co=>k ⟨n,bs,mro,ns,qn,hd,sl,sub,ab,co,del⟩
noncomputable def fD{β:Type}(d:Data)(k:Data→β):β:=match d with
 | .plain=>k .plain
 | .prim v=>fV v fun v=>k (.prim v)
 | .seq xs n=>fA fV xs fun xs=>k (.seq xs n)
 | .dict es n=>fA fE es fun es=>k (.dict es n)
 | .set es n t=>k (.set es n t)
 | .bytearray b e=>k (.bytearray b e)
 | .cell v=>fO fV v fun v=>k (.cell v)
 | .func f=>fF f fun f=>k (.func f)
 | .cls c=>fC c fun c=>k (.cls c)
 | .fields vs=>fA fV vs fun vs=>k (.fields vs)
 | .freed=>k .freed
noncomputable def fObj{β:Type}(o:Obj)(k:Obj→β):β:=match o with
 | ⟨c,d,dt,sl⟩=>fV c fun c=>fO fI d fun d=>fD dt fun dt=>fA (fO fV) sl fun sl=>k ⟨c,d,dt,sl⟩
theorem fs{β:Type}(v:Value)(k:Value→β):fV v k=k v:=by cases v<;> rfl
theorem iS{α β:Type}{f:α→(α→β)→β}(hf:∀ a k,f a k=k a):∀ (l:List α) (k:List α→β),fL f l k=k l
 | [],_=>rfl
 | a::l,k=>by unfold fL;rw[hf,iS hf l]
theorem iR{α β:Type}{f:α→(α→β)→β}(hf:∀ a k,f a k=k a)(x:Option α)(k:Option α→β):fO f x k=k x:=by
 cases x with
 | none=>rfl
 | some a=>unfold fO;dsimp only;rw[hf]
theorem nU{α β:Type}{f:α→(α→β)→β}(hf:∀ a k,f a k=k a)(x:Array α)(k:Array α→β):fA f x k=k x:=by
 obtain⟨l⟩:=x
 unfold fA
 dsimp only
 rw[iS hf]
theorem fE_id{β:Type}(e:DictEntry)(k:DictEntry→β):fE e k=k e:=by
 obtain⟨a,b,c⟩:=e
 unfold fE
 dsimp only
 rw[fs,fs]
theorem lx{α β:Type}(x:α)(k:α→β):fI x k=k x:=rfl
theorem fF_id{β:Type}(f:FuncData)(k:FuncData→β):fF f k=k f:=by
 obtain⟨a,b,c,d,e,g,cl,df,kd,dc,pm,an,cd,ct,bi⟩:=f
 unfold fF
 dsimp only
 rw[iS (fun x k=>by obtain⟨u,v⟩:=x;rfl)]
 simp only[fs,iR (fun x k=>lx (β:=β) x k)]
 cases d<;> rfl
theorem fC_id{β:Type}(c:ClassData)(k:ClassData→β):fC c k=k c:=by
 obtain⟨n,bs,mro,ns,qn,hd,sl,sub,ab,co,del⟩:=c
 unfold fC
 dsimp only
 simp only[iS (fun v k=>fs (β:=β) v k),iS (fun x k=>lx (β:=β) x k),iR (fun x k=>lx (β:=β) x k)]
theorem fD_id{β:Type}(d:Data)(k:Data→β):fD d k=k d:=by
 cases d<;> unfold fD<;> dsimp only<;> simp only[fs,nU (fun v k=>fs (β:=β) v k),nU (fun e k=>fE_id (β:=β) e k),iR (fun v k=>fs (β:=β) v k),fF_id,fC_id]
theorem nT{β:Type}(o:Obj)(k:Obj→β):fObj o k=k o:=by
 obtain⟨c,d,dt,sl⟩:=o
 unfold fObj
 dsimp only
 simp only[fs,iR (fun x k=>lx (β:=β) x k),fD_id,nU (fun v k=>iR (fun x k=>fs (β:=β) x k) v k)]
theorem f7{p q:Program}{loose:List Str}{Xt:Shared→Bool}{as:List Addr}{Ya:World→List (Option Obj)}{N tk:Nat}{g0:Bool}
  (h:∀ w,((fencedOpening (T2 tnF) p w N).bind (cN (T2 tnF) p w N)).bind (fun s=>fL (fO fObj) (as.map s.heap.get?) fun l=>some (openSeen q loose (importedModules p.main.body) Xt g0 s,l,Nat.ble tk s.toks))=some (openGood q loose,Ya w,true)) :
  LeftO p q loose Xt (fun s=>(as.map s.heap.get?,Nat.ble tk s.toks)) (fun w=>(Ya w,true)) N g0:=nE fun w=>by
 obtain⟨s,hs,e⟩:=Option.bind_eq_some_iff.mp (h w)
 rw[iS (fun x k=>iR (fun o k=>nT o k) x k)] at e
 rw[hs]
 exact e
end Mine
end
section
open PySem PySem.W PyProof.Rows
namespace Mine
noncomputable def st1(p:Program)(i:Nat):Stmt:=(p.main.body[i]?).getD (Stmt.Pass default)
noncomputable def inCls:Stmt→List Stmt
 | .ClassDef _ _ _ b _ _ _ _ _ _ _=>b
 | _=>[]
noncomputable def st2(p:Program)(i j:Nat):Stmt:=((inCls (st1 p i))[j]?).getD (Stmt.Pass default)
noncomputable def aI:Stmt→Arguments
 | .FunctionDef _ a _ _ _ _ _ _ _ _=>a
 | _=>default
noncomputable def ao:Stmt→List Stmt
 | .FunctionDef _ _ b _ _ _ _ _ _ _=>b
 | .ClassDef _ _ _ b _ _ _ _ _ _ _=>b
 | _=>[]
noncomputable def aB:Stmt→Scope
 | .FunctionDef _ _ _ _ _ _ s _ _ _=>s
 | _=>default
noncomputable def gh(st:Stmt):Str:=match ao st with
 | .Expr (.Constant (.str s) _ _) _::_=>s
 | _=>Str.ofString ""
noncomputable def pw:Program:=PySem.Challenge.pw_yj0002_02
noncomputable def o2 (P:Params):Obj:=⟨.none,none,(.dict #[⟨(PyData.keyHash P "im\x70ort.loaded._heapq"),(.str "im\x70ort.loaded._heapq" 186),(Value.bool true)⟩,⟨(PyData.keyHash P "class._frozen_importlib_external._LoaderBasics"),(.str "class._frozen_importlib_external._LoaderBasics" 191),(.ref 16)⟩,⟨(PyData.keyHash P "watched.im\x70ort"),(.str "watched.im\x70ort" 207),(.ref 20)⟩,⟨(PyData.keyHash P "class._frozen_importlib_external.FileLoader"),(.str "class._frozen_importlib_external.FileLoader" 208),(.ref 22)⟩,⟨(PyData.keyHash P "class._frozen_importlib_external.ExtensionFileLoader"),(.str "class._frozen_importlib_external.ExtensionFileLoader" 229),(.ref 27)⟩,⟨(PyData.keyHash P "class._frozen_importlib.ModuleSpec"),(.str "class._frozen_importlib.ModuleSpec" 257),(.ref 33)⟩,⟨(PyData.keyHash P "sys.modules.booked-epoch"),(.str "sys.modules.booked-epoch" 286),(.int 3 0)⟩,⟨(PyData.keyHash P "im\x70ort.later-laid._heapq"),(.str "im\x70ort.later-laid._heapq" 304),(Value.bool true)⟩,⟨(PyData.keyHash P "watched.library"),(.str "watched.library" 306),(.ref 38)⟩,⟨(PyData.keyHash P "watched.library-objects"),(.str "watched.library-objects" 0),(.str "\x0d" 0)⟩] 10),#[]⟩
noncomputable def o3 (P:Params):Obj:=⟨(.type "dict"),none,(.dict #[⟨(PyData.keyHash P "__name__"),(.str "__name__" 165),(.str "law_yj0002_02" 739)⟩,⟨(PyData.keyHash P "__doc__"),(.str "__doc__" 166),.none⟩,⟨(PyData.keyHash P "__package__"),(.str "__package__" 167),.none⟩,⟨(PyData.keyHash P "__loader__"),(.str "__loader__" 168),(Value.builtin "__main__.__loader__#opaque")⟩,⟨(PyData.keyHash P "__spec__"),(.str "__spec__" 169),.none⟩,⟨(PyData.keyHash P "__annotations__"),(.str "__annotations__" 170),(.ref 6)⟩,⟨(PyData.keyHash P "__builtins__"),(.str "__builtins__" 171),(.ref 4)⟩,⟨(PyData.keyHash P "__file__"),(.str "__file__" 173),(.str "/claim/cut.py" 172)⟩,⟨(PyData.keyHash P "__cached__"),(.str "__cached__" 174),.none⟩,⟨(PyData.keyHash P "heapify"),(.str "heapify" 312),(Value.builtin "_heapq.heapify")⟩,⟨(PyData.keyHash P "heapreplace"),(.str "heapreplace" 315),(Value.builtin "_heapq.heapreplace")⟩,⟨(PyData.keyHash P "_wall"),(.str "_wall" 328),(.ref 49)⟩,⟨(PyData.keyHash P "_tuplegetter"),(.str "_tuplegetter" 387),(.ref 88)⟩,⟨(PyData.keyHash P "Match"),(.str "Match" 515),(.ref 163)⟩,⟨(PyData.keyHash P "_calculate_ratio"),(.str "_calculate_ratio" 523),(.ref 173)⟩,⟨(PyData.keyHash P "SequenceMatcher"),(.str "SequenceMatcher" 719),(.ref 270)⟩,⟨(PyData.keyHash P "nlargest"),(.str "nlargest" 727),(.ref 280)⟩,⟨(PyData.keyHash P "get_close_matches"),(.str "get_close_matches" 738),(.ref 286)⟩,⟨(PyData.keyHash P "WORD"),(.str "WORD" 742),(.str "abcdefghi" 741)⟩,⟨(PyData.keyHash P "STRANGERS"),(.str "STRANGERS" 747),(.ref 287)⟩,⟨(PyData.keyHash P "_law_near"),(.str "_law_near" 756),(.ref 294)⟩,⟨(PyData.keyHash P "_law_laid"),(.str "_law_laid" 769),(.ref 301)⟩,⟨(PyData.keyHash P "law"),(.str "law" 775),(.ref 306)⟩] 23),#[]⟩
noncomputable def o44(P:Params):Obj:=⟨.none,none,(.fields #[]),#[]⟩
noncomputable def o48 (P:Params):Obj:=⟨(.type "code"),none,(.fields #[(.str "_wall" 322),(.str "_wall" 323),(.str "/claim/cut.py" 324),(.int 2 0),(.int 1 0),(.int 0 0),(.int 0 0),(.int 3 0),(.ref 43),(Value.bool true),(.int 316 0),(.ref 44),.none,(.ref 45),(.ref 46),(.ref 47),(.int 326 0),(.int 2 0),(.str "/claim/cut.py" 327)]),#[]⟩
noncomputable def o49 (P:Params):Obj:=⟨(.type "function"),none,(.func { name := "_wall", qualname := "_wall", params:=aI (st1 pw 1),body:=FuncBody.stmts (ao (st1 pw 1)),scope:=aB (st1 pw 1),globals:=3,closure:=[],defaults:=.none,kwdefaults:=.none,doc:=.none,pyModule:=(.str "__main__" 164),annotations:=none,code:=(.ref 48),closureTuple:=.none,builtins:=0 }),#[]⟩
noncomputable def o54(P:Params):Obj:=⟨.none,none,(.fields #[(.int 8 0),(.int 4 0),(.ref 62),(.int 12 0),(.int 4 0),(.ref 70),(.int 19 0),(.int 4 0),(.ref 77),(.int 22 0),(.int 4 0),(.ref 84)]),#[]⟩
noncomputable def o55 (P:Params):Obj:=⟨(.type "code"),none,(.fields #[(.str "_tuplegetter" 333),(.str "_tuplegetter" 334),(.str "/claim/cut.py" 335),(.int 6 0),(.int 0 0),(.int 0 0),(.int 0 0),(.int 0 0),(.ref 53),(Value.bool false),(.int 316 0),(.ref 54),.none,.none,.none,.none,(.int 336 0),(.int 6 0),(.str "/claim/cut.py" 337)]),#[]⟩
noncomputable def o58(P:Params):Obj:=⟨.none,none,(.fields #[]),#[]⟩
noncomputable def o62 (P:Params):Obj:=⟨(.type "code"),none,(.fields #[(.str "__init__" 343),(.str "_tuplegetter.__init__" 344),(.str "/claim/cut.py" 345),(.int 8 0),(.int 3 0),(.int 0 0),(.int 0 0),(.int 3 0),(.ref 57),(Value.bool true),(.int 316 0),(.ref 58),.none,(.ref 59),(.ref 60),(.ref 61),(.int 349 0),(.int 8 0),(.str "/claim/cut.py" 350)]),#[]⟩
noncomputable def o63 (P:Params):Obj:=⟨(.type "function"),none,(.func { name := "__init__", qualname := "_tuplegetter.__init__", params:=aI (st2 pw 3 0),body:=FuncBody.stmts (ao (st2 pw 3 0)),scope:=aB (st2 pw 3 0),globals:=3,closure:=[],defaults:=.none,kwdefaults:=.none,doc:=.none,pyModule:=(.str "cpy313.difflib" 329),annotations:=none,code:=(.ref 62),closureTuple:=.none,builtins:=0 }),#[]⟩
noncomputable def o64 (P:Params):Obj:=⟨(.type "tuple"),none,(.seq #[.none] 0),#[]⟩
noncomputable def o66(P:Params):Obj:=⟨.none,none,(.fields #[]),#[]⟩
noncomputable def o70 (P:Params):Obj:=⟨(.type "code"),none,(.fields #[(.str "__get__" 352),(.str "_tuplegetter.__get__" 353),(.str "/claim/cut.py" 354),(.int 12 0),(.int 3 0),(.int 0 0),(.int 0 0),(.int 3 0),(.ref 65),(Value.bool true),(.int 316 0),(.ref 66),.none,(.ref 67),(.ref 68),(.ref 69),(.int 358 0),(.int 12 0),(.str "/claim/cut.py" 359)]),#[]⟩
noncomputable def o71 (P:Params):Obj:=⟨(.type "function"),none,(.func { name := "__get__", qualname := "_tuplegetter.__get__", params:=aI (st2 pw 3 1),body:=FuncBody.stmts (ao (st2 pw 3 1)),scope:=aB (st2 pw 3 1),globals:=3,closure:=[],defaults:=(.ref 64),kwdefaults:=.none,doc:=.none,pyModule:=(.str "cpy313.difflib" 329),annotations:=none,code:=(.ref 70),closureTuple:=.none,builtins:=0 }),#[]⟩
noncomputable def o73(P:Params):Obj:=⟨.none,none,(.fields #[]),#[]⟩
noncomputable def o77 (P:Params):Obj:=⟨(.type "code"),none,(.fields #[(.str "__set__" 361),(.str "_tuplegetter.__set__" 362),(.str "/claim/cut.py" 363),(.int 19 0),(.int 3 0),(.int 0 0),(.int 0 0),(.int 3 0),(.ref 72),(Value.bool true),(.int 316 0),(.ref 73),.none,(.ref 74),(.ref 75),(.ref 76),(.int 367 0),(.int 19 0),(.str "/claim/cut.py" 368)]),#[]⟩
noncomputable def o78 (P:Params):Obj:=⟨(.type "function"),none,(.func { name := "__set__", qualname := "_tuplegetter.__set__", params:=aI (st2 pw 3 2),body:=FuncBody.stmts (ao (st2 pw 3 2)),scope:=aB (st2 pw 3 2),globals:=3,closure:=[],defaults:=.none,kwdefaults:=.none,doc:=.none,pyModule:=(.str "cpy313.difflib" 329),annotations:=none,code:=(.ref 77),closureTuple:=.none,builtins:=0 }),#[]⟩
noncomputable def o80(P:Params):Obj:=⟨.none,none,(.fields #[]),#[]⟩
noncomputable def o84 (P:Params):Obj:=⟨(.type "code"),none,(.fields #[(.str "__delete__" 370),(.str "_tuplegetter.__delete__" 371),(.str "/claim/cut.py" 372),(.int 22 0),(.int 2 0),(.int 0 0),(.int 0 0),(.int 3 0),(.ref 79),(Value.bool true),(.int 316 0),(.ref 80),.none,(.ref 81),(.ref 82),(.ref 83),(.int 375 0),(.int 22 0),(.str "/claim/cut.py" 376)]),#[]⟩
noncomputable def o85 (P:Params):Obj:=⟨(.type "function"),none,(.func { name := "__delete__", qualname := "_tuplegetter.__delete__", params:=aI (st2 pw 3 3),body:=FuncBody.stmts (ao (st2 pw 3 3)),scope:=aB (st2 pw 3 3),globals:=3,closure:=[],defaults:=.none,kwdefaults:=.none,doc:=.none,pyModule:=(.str "cpy313.difflib" 329),annotations:=none,code:=(.ref 84),closureTuple:=.none,builtins:=0 }),#[]⟩
noncomputable def o87 (P:Params):Obj:=⟨(.type "dict"),none,(.dict #[⟨(PyData.keyHash P "__module__"),(.str "__module__" 338),(.str "cpy313.difflib" 329)⟩,⟨(PyData.keyHash P "__firstlineno__"),(.str "__firstlineno__" 342),(.int 6 341)⟩,⟨(PyData.keyHash P "__init__"),(.str "__init__" 351),(.ref 63)⟩,⟨(PyData.keyHash P "__get__"),(.str "__get__" 360),(.ref 71)⟩,⟨(PyData.keyHash P "__set__"),(.str "__set__" 369),(.ref 78)⟩,⟨(PyData.keyHash P "__delete__"),(.str "__delete__" 377),(.ref 85)⟩,⟨(PyData.keyHash P "__static_attributes__"),(.str "__static_attributes__" 380),(.ref 86)⟩,⟨(PyData.keyHash P "__dict__"),(.str "__dict__" 382),(.ref 89)⟩,⟨(PyData.keyHash P "__weakref__"),(.str "__weakref__" 384),(.ref 90)⟩,⟨(PyData.keyHash P "__doc__"),(.str "__doc__" 385),.none⟩] 4),#[]⟩
noncomputable def o88 (P:Params):Obj:=⟨(.type "type"),none,(.cls { name := "_tuplegetter", bases:=[(.type "object")],mro:=[(.ref 88),(.type "object")],ns:=87,qualname := "_tuplegetter", hasDict:=true,slotNames:=[],subclasses:=[],abstract:=false,collection:=none,hasDel:=false }),#[none,none,some (.str "_tuplegetter" 331),some (.str "_tuplegetter" 339),some (Value.builtin "object.__new__"),some (Value.bool true)]⟩
noncomputable def o96 (P:Params):Obj:=⟨(.type "cell"),none,(Data.cell (some (.ref 163))),#[]⟩
noncomputable def o98(P:Params):Obj:=⟨.none,none,(.fields #[(.int 30 0),(.int 4 0),(.ref 109),(.int 35 0),(.int 4 0),(.ref 116),(.int 42 0),(.int 4 0),(.ref 127),(.int 53 0),(.int 4 0),(.ref 134),(.int 57 0),(.int 4 0),(.ref 141),(.int 60 0),(.int 4 0),(.ref 148)]),#[]⟩
noncomputable def o99 (P:Params):Obj:=⟨(.type "code"),none,(.fields #[(.str "Match" 390),(.str "Match" 391),(.str "/claim/cut.py" 392),(.int 24 0),(.int 0 0),(.int 0 0),(.int 0 0),(.int 0 0),(.ref 97),(Value.bool false),(.int 316 0),(.ref 98),.none,.none,.none,.none,(.int 393 0),(.int 24 0),(.str "/claim/cut.py" 394)]),#[]⟩
noncomputable def qJ(P:Params):Obj:=⟨.none,none,(.fields #[]),#[]⟩
noncomputable def qI (P:Params):Obj:=⟨(.type "code"),none,(.fields #[(.str "__new__" 409),(.str "Match.__new__" 410),(.str "/claim/cut.py" 411),(.int 30 0),(.int 4 0),(.int 0 0),(.int 0 0),(.int 3 0),(.ref 104),(Value.bool true),(.int 316 0),(.ref 105),.none,(.ref 106),(.ref 107),(.ref 108),(.int 416 0),(.int 30 0),(.str "/claim/cut.py" 417)]),#[]⟩
noncomputable def oK (P:Params):Obj:=⟨(.type "function"),none,(.func { name := "__new__", qualname := "Match.__new__", params:=aI (st2 pw 4 4),body:=FuncBody.stmts (ao (st2 pw 4 4)),scope:=aB (st2 pw 4 4),globals:=3,closure:=[],defaults:=.none,kwdefaults:=.none,doc:=(.str "Create new in\x73tance of Match(a, b, size)" 418),pyModule:=(.str "cpy313.difflib" 329),annotations:=none,code:=(.ref 109),closureTuple:=.none,builtins:=0 }),#[]⟩
noncomputable def qH(P:Params):Obj:=⟨.none,none,(.fields #[]),#[]⟩
noncomputable def qG (P:Params):Obj:=⟨(.type "code"),none,(.fields #[(.str "_make" 420),(.str "Match._make" 421),(.str "/claim/cut.py" 422),(.int 34 0),(.int 2 0),(.int 0 0),(.int 0 0),(.int 3 0),(.ref 111),(Value.bool true),(.int 316 0),(.ref 112),.none,(.ref 113),(.ref 114),(.ref 115),(.int 426 0),(.int 34 0),(.str "/claim/cut.py" 427)]),#[]⟩
noncomputable def oJ (P:Params):Obj:=⟨(.type "function"),none,(.func { name := "_make", qualname := "Match._make", params:=aI (st2 pw 4 5),body:=FuncBody.stmts (ao (st2 pw 4 5)),scope:=aB (st2 pw 4 5),globals:=3,closure:=[],defaults:=.none,kwdefaults:=.none,doc:=(.str "Make a new Match object from a sequence or iterable" 428),pyModule:=(.str "cpy313.difflib" 329),annotations:=(some 120),code:=(.ref 116),closureTuple:=.none,builtins:=0 }),#[]⟩
noncomputable def qF (P:Params):Obj:=⟨(.type "classmethod"),(some 118),(.fields #[(.ref 117),(Value.bool false)]),#[]⟩
noncomputable def qE (P:Params):Obj:=⟨(.type "tuple"),none,(.seq #[(.ref 96)] 0),#[]⟩
noncomputable def qD(P:Params):Obj:=⟨.none,none,(.fields #[]),#[]⟩
noncomputable def qC (P:Params):Obj:=⟨(.type "code"),none,(.fields #[(.str "_replace" 442),(.str "Match._replace" 443),(.str "/claim/cut.py" 444),(.int 42 0),(.int 1 0),(.int 1 0),(.int 0 0),(.int 11 0),(.ref 122),(Value.bool true),(.int 316 0),(.ref 123),.none,(.ref 124),(.ref 125),(.ref 126),(.int 449 0),(.int 42 0),(.str "/claim/cut.py" 450)]),#[]⟩
noncomputable def qB (P:Params):Obj:=⟨(.type "function"),none,(.func { name := "_replace", qualname := "Match._replace", params:=aI (st2 pw 4 6),body:=FuncBody.stmts (ao (st2 pw 4 6)),scope:=aB (st2 pw 4 6),globals:=3,closure:=[("__class__", 96)],defaults:=.none,kwdefaults:=.none,doc:=(Value.str (gh (st2 pw 4 6)) 451),pyModule:=(.str "cpy313.difflib" 329),annotations:=none,code:=(.ref 127),closureTuple:=(.ref 121),builtins:=0 }),#[]⟩
noncomputable def qA(P:Params):Obj:=⟨.none,none,(.fields #[]),#[]⟩
noncomputable def qz (P:Params):Obj:=⟨(.type "code"),none,(.fields #[(.str "__repr__" 454),(.str "Match.__repr__" 455),(.str "/claim/cut.py" 456),(.int 53 0),(.int 1 0),(.int 0 0),(.int 0 0),(.int 3 0),(.ref 129),(Value.bool true),(.int 316 0),(.ref 130),.none,(.ref 131),(.ref 132),(.ref 133),(.int 458 0),(.int 53 0),(.str "/claim/cut.py" 459)]),#[]⟩
noncomputable def qy (P:Params):Obj:=⟨(.type "function"),none,(.func { name := "__repr__", qualname := "Match.__repr__", params:=aI (st2 pw 4 8),body:=FuncBody.stmts (ao (st2 pw 4 8)),scope:=aB (st2 pw 4 8),globals:=3,closure:=[],defaults:=.none,kwdefaults:=.none,doc:=(.str "Return a nicely formatted representation string" 460),pyModule:=(.str "cpy313.difflib" 329),annotations:=none,code:=(.ref 134),closureTuple:=.none,builtins:=0 }),#[]⟩
noncomputable def qx(P:Params):Obj:=⟨.none,none,(.fields #[]),#[]⟩
noncomputable def qw (P:Params):Obj:=⟨(.type "code"),none,(.fields #[(.str "_asdict" 462),(.str "Match._asdict" 463),(.str "/claim/cut.py" 464),(.int 57 0),(.int 1 0),(.int 0 0),(.int 0 0),(.int 3 0),(.ref 136),(Value.bool true),(.int 316 0),(.ref 137),.none,(.ref 138),(.ref 139),(.ref 140),(.int 466 0),(.int 57 0),(.str "/claim/cut.py" 467)]),#[]⟩
noncomputable def qv (P:Params):Obj:=⟨(.type "function"),none,(.func { name := "_asdict", qualname := "Match._asdict", params:=aI (st2 pw 4 9),body:=FuncBody.stmts (ao (st2 pw 4 9)),scope:=aB (st2 pw 4 9),globals:=3,closure:=[],defaults:=.none,kwdefaults:=.none,doc:=.none,pyModule:=(.str "cpy313.difflib" 329),annotations:=none,code:=(.ref 141),closureTuple:=.none,builtins:=0 }),#[]⟩
noncomputable def qu(P:Params):Obj:=⟨.none,none,(.fields #[]),#[]⟩
noncomputable def qt (P:Params):Obj:=⟨(.type "code"),none,(.fields #[(.str "__getnewargs__" 469),(.str "Match.__getnewargs__" 470),(.str "/claim/cut.py" 471),(.int 60 0),(.int 1 0),(.int 0 0),(.int 0 0),(.int 3 0),(.ref 143),(Value.bool true),(.int 316 0),(.ref 144),.none,(.ref 145),(.ref 146),(.ref 147),(.int 473 0),(.int 60 0),(.str "/claim/cut.py" 474)]),#[]⟩
noncomputable def qr (P:Params):Obj:=⟨(.type "function"),none,(.func { name := "__getnewargs__", qualname := "Match.__getnewargs__", params:=aI (st2 pw 4 10),body:=FuncBody.stmts (ao (st2 pw 4 10)),scope:=aB (st2 pw 4 10),globals:=3,closure:=[],defaults:=.none,kwdefaults:=.none,doc:=(.str "Return self as a plain tuple.  Used by copy and pickle." 475),pyModule:=(.str "cpy313.difflib" 329),annotations:=none,code:=(.ref 148),closureTuple:=.none,builtins:=0 }),#[]⟩
noncomputable def qo (P:Params):Obj:=⟨(.type "dict"),none,(.dict #[⟨(PyData.keyHash P "__module__"),(.str "__module__" 395),(.str "cpy313.difflib" 329)⟩,⟨(PyData.keyHash P "__firstlineno__"),(.str "__firstlineno__" 399),(.int 24 398)⟩,⟨(PyData.keyHash P "__doc__"),(.str "__doc__" 401),(.str "Match(a, b, size)" 400)⟩,⟨(PyData.keyHash P "__slots__"),(.str "__slots__" 403),(.ref 101)⟩,⟨(PyData.keyHash P "_fields"),(.str "_fields" 407),(.ref 102)⟩,⟨(PyData.keyHash P "_field_defaults"),(.str "_field_defaults" 408),(.ref 103)⟩,⟨(PyData.keyHash P "__new__"),(.str "__new__" 419),(.ref 164)⟩,⟨(PyData.keyHash P "_make"),(.str "_make" 441),(.ref 119)⟩,⟨(PyData.keyHash P "_replace"),(.str "_replace" 452),(.ref 128)⟩,⟨(PyData.keyHash P "__replace__"),(.str "__replace__" 453),(.ref 128)⟩,⟨(PyData.keyHash P "__repr__"),(.str "__repr__" 461),(.ref 135)⟩,⟨(PyData.keyHash P "_asdict"),(.str "_asdict" 468),(.ref 142)⟩,⟨(PyData.keyHash P "__getnewargs__"),(.str "__getnewargs__" 476),(.ref 149)⟩,⟨(PyData.keyHash P "__match_args__"),(.str "__match_args__" 480),(.ref 150)⟩,⟨(PyData.keyHash P "a"),(.str "a" 490),(.ref 152)⟩,⟨(PyData.keyHash P "b"),(.str "b" 500),(.ref 155)⟩,⟨(PyData.keyHash P "size"),(.str "size" 510),(.ref 158)⟩,⟨(PyData.keyHash P "__static_attributes__"),(.str "__static_attributes__" 511),(.ref 160)⟩] 2),#[]⟩
noncomputable def oI (P:Params):Obj:=⟨(.type "type"),none,(.cls { name := "Match", bases:=[(.type "tuple")],mro:=[(.ref 163),(.type "tuple"),(.type "object")],ns:=162,qualname := "Match", hasDict:=false,slotNames:=[],subclasses:=[],abstract:=false,collection:=none,hasDel:=false }),#[some (.ref 93),none,some (.str "Match" 388),some (.str "Match" 396),some .none,some (Value.bool false)]⟩
noncomputable def qm (P:Params):Obj:=⟨(.type "staticmethod"),none,(.fields #[(.ref 110)]),#[]⟩
noncomputable def ql(P:Params):Obj:=⟨.none,none,(.fields #[]),#[]⟩
noncomputable def qk (P:Params):Obj:=⟨(.type "code"),none,(.fields #[(.str "_calculate_ratio" 516),(.str "_calculate_ratio" 517),(.str "/claim/cut.py" 518),(.int 67 0),(.int 2 0),(.int 0 0),(.int 0 0),(.int 3 0),(.ref 167),(Value.bool true),(.int 316 0),(.ref 168),.none,(.ref 169),(.ref 170),(.ref 171),(.int 521 0),(.int 67 0),(.str "/claim/cut.py" 522)]),#[]⟩
noncomputable def oH (P:Params):Obj:=⟨(.type "function"),none,(.func { name := "_calculate_ratio", qualname := "_calculate_ratio", params:=aI (st1 pw 5),body:=FuncBody.stmts (ao (st1 pw 5)),scope:=aB (st1 pw 5),globals:=3,closure:=[],defaults:=.none,kwdefaults:=.none,doc:=.none,pyModule:=(.str "cpy313.difflib" 329),annotations:=none,code:=(.ref 172),closureTuple:=.none,builtins:=0 }),#[]⟩
noncomputable def qj(P:Params):Obj:=⟨.none,none,(.fields #[(.int 146 0),(.int 4 0),(.ref 187),(.int 174 0),(.int 4 0),(.ref 194),(.int 185 0),(.int 4 0),(.ref 201),(.int 210 0),(.int 4 0),(.ref 208),(.int 237 0),(.int 4 0),(.ref 215),(.int 261 0),(.int 4 0),(.ref 223),(.int 336 0),(.int 4 0),(.ref 230),(.int 384 0),(.int 4 0),(.ref 237),(.int 387 0),(.int 4 0),(.ref 245),(.int 390 0),(.int 4 0),(.ref 252),(.int 414 0),(.int 4 0),(.ref 259),(.int 437 0),(.int 4 0),(.ref 266)]),#[]⟩
noncomputable def qi (P:Params):Obj:=⟨(.type "code"),none,(.fields #[(.str "SequenceMatcher" 526),(.str "SequenceMatcher" 527),(.str "/claim/cut.py" 528),(.int 71 0),(.int 0 0),(.int 0 0),(.int 0 0),(.int 0 0),(.ref 177),(Value.bool false),(.int 316 0),(.ref 178),.none,.none,.none,.none,(.int 529 0),(.int 71 0),(.str "/claim/cut.py" 530)]),#[]⟩
noncomputable def mW (P:Params):Obj:=⟨(.type "tuple"),none,(.seq #[.none,(.str "" 539),(.str "" 540),(Value.bool true)] 0),#[]⟩
noncomputable def qh(P:Params):Obj:=⟨.none,none,(.fields #[]),#[]⟩
noncomputable def qg (P:Params):Obj:=⟨(.type "code"),none,(.fields #[(.str "__init__" 541),(.str "SequenceMatcher.__init__" 542),(.str "/claim/cut.py" 543),(.int 146 0),(.int 5 0),(.int 0 0),(.int 0 0),(.int 3 0),(.ref 182),(Value.bool true),(.int 316 0),(.ref 183),.none,(.ref 184),(.ref 185),(.ref 186),(.int 549 0),(.int 146 0),(.str "/claim/cut.py" 550)]),#[]⟩
noncomputable def oG (P:Params):Obj:=⟨(.type "function"),none,(.func { name := "__init__", qualname := "SequenceMatcher.__init__", params:=aI (st2 pw 6 1),body:=FuncBody.stmts (ao (st2 pw 6 1)),scope:=aB (st2 pw 6 1),globals:=3,closure:=[],defaults:=(.ref 181),kwdefaults:=.none,doc:=(Value.str (gh (st2 pw 6 1)) 551),pyModule:=(.str "cpy313.difflib" 329),annotations:=none,code:=(.ref 187),closureTuple:=.none,builtins:=0 }),#[]⟩
noncomputable def qf(P:Params):Obj:=⟨.none,none,(.fields #[]),#[]⟩
noncomputable def qe (P:Params):Obj:=⟨(.type "code"),none,(.fields #[(.str "set_seqs" 553),(.str "SequenceMatcher.set_seqs" 554),(.str "/claim/cut.py" 555),(.int 174 0),(.int 3 0),(.int 0 0),(.int 0 0),(.int 3 0),(.ref 189),(Value.bool true),(.int 316 0),(.ref 190),.none,(.ref 191),(.ref 192),(.ref 193),(.int 559 0),(.int 174 0),(.str "/claim/cut.py" 560)]),#[]⟩
noncomputable def oF (P:Params):Obj:=⟨(.type "function"),none,(.func { name := "set_seqs", qualname := "SequenceMatcher.set_seqs", params:=aI (st2 pw 6 2),body:=FuncBody.stmts (ao (st2 pw 6 2)),scope:=aB (st2 pw 6 2),globals:=3,closure:=[],defaults:=.none,kwdefaults:=.none,doc:=(Value.str (gh (st2 pw 6 2)) 561),pyModule:=(.str "cpy313.difflib" 329),annotations:=none,code:=(.ref 194),closureTuple:=.none,builtins:=0 }),#[]⟩
noncomputable def qd(P:Params):Obj:=⟨.none,none,(.fields #[]),#[]⟩
noncomputable def qc (P:Params):Obj:=⟨(.type "code"),none,(.fields #[(.str "set_seq1" 563),(.str "SequenceMatcher.set_seq1" 564),(.str "/claim/cut.py" 565),(.int 185 0),(.int 2 0),(.int 0 0),(.int 0 0),(.int 3 0),(.ref 196),(Value.bool true),(.int 316 0),(.ref 197),.none,(.ref 198),(.ref 199),(.ref 200),(.int 568 0),(.int 185 0),(.str "/claim/cut.py" 569)]),#[]⟩
noncomputable def oE (P:Params):Obj:=⟨(.type "function"),none,(.func { name := "set_seq1", qualname := "SequenceMatcher.set_seq1", params:=aI (st2 pw 6 3),body:=FuncBody.stmts (ao (st2 pw 6 3)),scope:=aB (st2 pw 6 3),globals:=3,closure:=[],defaults:=.none,kwdefaults:=.none,doc:=(Value.str (gh (st2 pw 6 3)) 570),pyModule:=(.str "cpy313.difflib" 329),annotations:=none,code:=(.ref 201),closureTuple:=.none,builtins:=0 }),#[]⟩
noncomputable def qb(P:Params):Obj:=⟨.none,none,(.fields #[]),#[]⟩
noncomputable def qa (P:Params):Obj:=⟨(.type "code"),none,(.fields #[(.str "set_seq2" 572),(.str "SequenceMatcher.set_seq2" 573),(.str "/claim/cut.py" 574),(.int 210 0),(.int 2 0),(.int 0 0),(.int 0 0),(.int 3 0),(.ref 203),(Value.bool true),(.int 316 0),(.ref 204),.none,(.ref 205),(.ref 206),(.ref 207),(.int 577 0),(.int 210 0),(.str "/claim/cut.py" 578)]),#[]⟩
noncomputable def oD (P:Params):Obj:=⟨(.type "function"),none,(.func { name := "set_seq2", qualname := "SequenceMatcher.set_seq2", params:=aI (st2 pw 6 4),body:=FuncBody.stmts (ao (st2 pw 6 4)),scope:=aB (st2 pw 6 4),globals:=3,closure:=[],defaults:=.none,kwdefaults:=.none,doc:=(Value.str (gh (st2 pw 6 4)) 579),pyModule:=(.str "cpy313.difflib" 329),annotations:=none,code:=(.ref 208),closureTuple:=.none,builtins:=0 }),#[]⟩
noncomputable def pZ(P:Params):Obj:=⟨.none,none,(.fields #[]),#[]⟩
noncomputable def pY (P:Params):Obj:=⟨(.type "code"),none,(.fields #[(.str "__chain_b" 581),(.str "SequenceMatcher.__chain_b" 582),(.str "/claim/cut.py" 583),(.int 237 0),(.int 1 0),(.int 0 0),(.int 0 0),(.int 3 0),(.ref 210),(Value.bool true),(.int 316 0),(.ref 211),.none,(.ref 212),(.ref 213),(.ref 214),(.int 596 0),(.int 237 0),(.str "/claim/cut.py" 597)]),#[]⟩
noncomputable def oB (P:Params):Obj:=⟨(.type "function"),none,(.func { name := "__chain_b", qualname := "SequenceMatcher.__chain_b", params:=aI (st2 pw 6 5),body:=FuncBody.stmts (ao (st2 pw 6 5)),scope:=aB (st2 pw 6 5),globals:=3,closure:=[],defaults:=.none,kwdefaults:=.none,doc:=.none,pyModule:=(.str "cpy313.difflib" 329),annotations:=none,code:=(.ref 215),closureTuple:=.none,builtins:=0 }),#[]⟩
noncomputable def pX (P:Params):Obj:=⟨(.type "tuple"),none,(.seq #[(.int 0 599),.none,(.int 0 600),.none] 0),#[]⟩
noncomputable def pW(P:Params):Obj:=⟨.none,none,(.fields #[]),#[]⟩
noncomputable def pV (P:Params):Obj:=⟨(.type "code"),none,(.fields #[(.str "find_longest_match" 601),(.str "SequenceMatcher.find_longest_match" 602),(.str "/claim/cut.py" 603),(.int 261 0),(.int 5 0),(.int 0 0),(.int 0 0),(.int 3 0),(.ref 218),(Value.bool true),(.int 316 0),(.ref 219),.none,(.ref 220),(.ref 221),(.ref 222),(.int 623 0),(.int 261 0),(.str "/claim/cut.py" 624)]),#[]⟩
noncomputable def oA (P:Params):Obj:=⟨(.type "function"),none,(.func { name := "find_longest_match", qualname := "SequenceMatcher.find_longest_match", params:=aI (st2 pw 6 6),body:=FuncBody.stmts (ao (st2 pw 6 6)),scope:=aB (st2 pw 6 6),globals:=3,closure:=[],defaults:=(.ref 217),kwdefaults:=.none,doc:=(Value.str (gh (st2 pw 6 6)) 625),pyModule:=(.str "cpy313.difflib" 329),annotations:=none,code:=(.ref 223),closureTuple:=.none,builtins:=0 }),#[]⟩
noncomputable def pU(P:Params):Obj:=⟨.none,none,(.fields #[]),#[]⟩
noncomputable def pT (P:Params):Obj:=⟨(.type "code"),none,(.fields #[(.str "get_matching_blocks" 627),(.str "SequenceMatcher.get_matching_blocks" 628),(.str "/claim/cut.py" 629),(.int 336 0),(.int 1 0),(.int 0 0),(.int 0 0),(.int 3 0),(.ref 225),(Value.bool true),(.int 316 0),(.ref 226),.none,(.ref 227),(.ref 228),(.ref 229),(.int 650 0),(.int 336 0),(.str "/claim/cut.py" 651)]),#[]⟩
noncomputable def oz (P:Params):Obj:=⟨(.type "function"),none,(.func { name := "get_matching_blocks", qualname := "SequenceMatcher.get_matching_blocks", params:=aI (st2 pw 6 7),body:=FuncBody.stmts (ao (st2 pw 6 7)),scope:=aB (st2 pw 6 7),globals:=3,closure:=[],defaults:=.none,kwdefaults:=.none,doc:=(Value.str (gh (st2 pw 6 7)) 652),pyModule:=(.str "cpy313.difflib" 329),annotations:=none,code:=(.ref 230),closureTuple:=.none,builtins:=0 }),#[]⟩
noncomputable def pS(P:Params):Obj:=⟨.none,none,(.fields #[]),#[]⟩
noncomputable def pR (P:Params):Obj:=⟨(.type "code"),none,(.fields #[(.str "get_opcodes" 654),(.str "SequenceMatcher.get_opcodes" 655),(.str "/claim/cut.py" 656),(.int 384 0),(.int 1 0),(.int 0 0),(.int 0 0),(.int 3 0),(.ref 232),(Value.bool true),(.int 316 0),(.ref 233),.none,(.ref 234),(.ref 235),(.ref 236),(.int 658 0),(.int 384 0),(.str "/claim/cut.py" 659)]),#[]⟩
noncomputable def pQ (P:Params):Obj:=⟨(.type "function"),none,(.func { name := "get_opcodes", qualname := "SequenceMatcher.get_opcodes", params:=aI (st2 pw 6 8),body:=FuncBody.stmts (ao (st2 pw 6 8)),scope:=aB (st2 pw 6 8),globals:=3,closure:=[],defaults:=.none,kwdefaults:=.none,doc:=.none,pyModule:=(.str "cpy313.difflib" 329),annotations:=none,code:=(.ref 237),closureTuple:=.none,builtins:=0 }),#[]⟩
noncomputable def pP (P:Params):Obj:=⟨(.type "tuple"),none,(.seq #[(.int 3 661)] 0),#[]⟩
noncomputable def pO(P:Params):Obj:=⟨.none,none,(.fields #[]),#[]⟩
noncomputable def pN (P:Params):Obj:=⟨(.type "code"),none,(.fields #[(.str "get_grouped_opcodes" 662),(.str "SequenceMatcher.get_grouped_opcodes" 663),(.str "/claim/cut.py" 664),(.int 387 0),(.int 2 0),(.int 0 0),(.int 0 0),(.int 3 0),(.ref 240),(Value.bool true),(.int 316 0),(.ref 241),.none,(.ref 242),(.ref 243),(.ref 244),(.int 667 0),(.int 387 0),(.str "/claim/cut.py" 668)]),#[]⟩
noncomputable def pM (P:Params):Obj:=⟨(.type "function"),none,(.func { name := "get_grouped_opcodes", qualname := "SequenceMatcher.get_grouped_opcodes", params:=aI (st2 pw 6 9),body:=FuncBody.stmts (ao (st2 pw 6 9)),scope:=aB (st2 pw 6 9),globals:=3,closure:=[],defaults:=(.ref 239),kwdefaults:=.none,doc:=.none,pyModule:=(.str "cpy313.difflib" 329),annotations:=none,code:=(.ref 245),closureTuple:=.none,builtins:=0 }),#[]⟩
noncomputable def pL(P:Params):Obj:=⟨.none,none,(.fields #[]),#[]⟩
noncomputable def mV (P:Params):Obj:=⟨(.type "code"),none,(.fields #[(.str "ratio" 670),(.str "SequenceMatcher.ratio" 671),(.str "/claim/cut.py" 672),(.int 390 0),(.int 1 0),(.int 0 0),(.int 0 0),(.int 3 0),(.ref 247),(Value.bool true),(.int 316 0),(.ref 248),.none,(.ref 249),(.ref 250),(.ref 251),(.int 675 0),(.int 390 0),(.str "/claim/cut.py" 676)]),#[]⟩
noncomputable def ow (P:Params):Obj:=⟨(.type "function"),none,(.func { name := "ratio", qualname := "SequenceMatcher.ratio", params:=aI (st2 pw 6 10),body:=FuncBody.stmts (ao (st2 pw 6 10)),scope:=aB (st2 pw 6 10),globals:=3,closure:=[],defaults:=.none,kwdefaults:=.none,doc:=(Value.str (gh (st2 pw 6 10)) 677),pyModule:=(.str "cpy313.difflib" 329),annotations:=none,code:=(.ref 252),closureTuple:=.none,builtins:=0 }),#[]⟩
noncomputable def pK(P:Params):Obj:=⟨.none,none,(.fields #[]),#[]⟩
noncomputable def pJ (P:Params):Obj:=⟨(.type "code"),none,(.fields #[(.str "quick_ratio" 679),(.str "SequenceMatcher.quick_ratio" 680),(.str "/claim/cut.py" 681),(.int 414 0),(.int 1 0),(.int 0 0),(.int 0 0),(.int 3 0),(.ref 254),(Value.bool true),(.int 316 0),(.ref 255),.none,(.ref 256),(.ref 257),(.ref 258),(.int 689 0),(.int 414 0),(.str "/claim/cut.py" 690)]),#[]⟩
noncomputable def ou (P:Params):Obj:=⟨(.type "function"),none,(.func { name := "quick_ratio", qualname := "SequenceMatcher.quick_ratio", params:=aI (st2 pw 6 11),body:=FuncBody.stmts (ao (st2 pw 6 11)),scope:=aB (st2 pw 6 11),globals:=3,closure:=[],defaults:=.none,kwdefaults:=.none,doc:=(Value.str (gh (st2 pw 6 11)) 691),pyModule:=(.str "cpy313.difflib" 329),annotations:=none,code:=(.ref 259),closureTuple:=.none,builtins:=0 }),#[]⟩
noncomputable def pI(P:Params):Obj:=⟨.none,none,(.fields #[]),#[]⟩
noncomputable def pH (P:Params):Obj:=⟨(.type "code"),none,(.fields #[(.str "real_quick_ratio" 693),(.str "SequenceMatcher.real_quick_ratio" 694),(.str "/claim/cut.py" 695),(.int 437 0),(.int 1 0),(.int 0 0),(.int 0 0),(.int 3 0),(.ref 261),(Value.bool true),(.int 316 0),(.ref 262),.none,(.ref 263),(.ref 264),(.ref 265),(.int 699 0),(.int 437 0),(.str "/claim/cut.py" 700)]),#[]⟩
noncomputable def oo (P:Params):Obj:=⟨(.type "function"),none,(.func { name := "real_quick_ratio", qualname := "SequenceMatcher.real_quick_ratio", params:=aI (st2 pw 6 12),body:=FuncBody.stmts (ao (st2 pw 6 12)),scope:=aB (st2 pw 6 12),globals:=3,closure:=[],defaults:=.none,kwdefaults:=.none,doc:=(Value.str (gh (st2 pw 6 12)) 701),pyModule:=(.str "cpy313.difflib" 329),annotations:=none,code:=(.ref 266),closureTuple:=.none,builtins:=0 }),#[]⟩
noncomputable def pG (d:Str) (P:Params):Obj:=⟨(Value.type "dict"),none,(Data.dict #[⟨(PyData.keyHash P (Str.ofString "__module__")),(Value.str (Str.ofString "__module__") 531),(Value.str (Str.ofString "cpy313.difflib") 329)⟩,⟨(PyData.keyHash P (Str.ofString "__firstlineno__")),(Value.str (Str.ofString "__firstlineno__") 535),(Value.int (71) 534)⟩,⟨(PyData.keyHash P (Str.ofString "__doc__")),(Value.str (Str.ofString "__doc__") 537),(Value.str d 536)⟩,⟨(PyData.keyHash P (Str.ofString "__init__")),(Value.str (Str.ofString "__init__") 552),(Value.ref 188)⟩,⟨(PyData.keyHash P (Str.ofString "set_seqs")),(Value.str (Str.ofString "set_seqs") 562),(Value.ref 195)⟩,⟨(PyData.keyHash P (Str.ofString "set_seq1")),(Value.str (Str.ofString "set_seq1") 571),(Value.ref 202)⟩,⟨(PyData.keyHash P (Str.ofString "set_seq2")),(Value.str (Str.ofString "set_seq2") 580),(Value.ref 209)⟩,⟨(PyData.keyHash P (Str.ofString "_SequenceMatcher__chain_b")),(Value.str (Str.ofString "_SequenceMatcher__chain_b") 598),(Value.ref 216)⟩,⟨(PyData.keyHash P (Str.ofString "find_longest_match")),(Value.str (Str.ofString "find_longest_match") 626),(Value.ref 224)⟩,⟨(PyData.keyHash P (Str.ofString "get_matching_blocks")),(Value.str (Str.ofString "get_matching_blocks") 653),(Value.ref 231)⟩,⟨(PyData.keyHash P (Str.ofString "get_opcodes")),(Value.str (Str.ofString "get_opcodes") 660),(Value.ref 238)⟩,⟨(PyData.keyHash P (Str.ofString "get_grouped_opcodes")),(Value.str (Str.ofString "get_grouped_opcodes") 669),(Value.ref 246)⟩,⟨(PyData.keyHash P (Str.ofString "ratio")),(Value.str (Str.ofString "ratio") 678),(Value.ref 253)⟩,⟨(PyData.keyHash P (Str.ofString "quick_ratio")),(Value.str (Str.ofString "quick_ratio") 692),(Value.ref 260)⟩,⟨(PyData.keyHash P (Str.ofString "real_quick_ratio")),(Value.str (Str.ofString "real_quick_ratio") 702),(Value.ref 267)⟩,⟨(PyData.keyHash P (Str.ofString "__static_attributes__")),(Value.str (Str.ofString "__static_attributes__") 713),(Value.ref 268)⟩,⟨(PyData.keyHash P (Str.ofString "__dict__")),(Value.str (Str.ofString "__dict__") 715),(Value.ref 271)⟩,⟨(PyData.keyHash P (Str.ofString "__weakref__")),(Value.str (Str.ofString "__weakref__") 717),(Value.ref 272)⟩] 3),#[]⟩
noncomputable def o269(P:Params):Obj:=pG (gh (st1 pw 6)) P
noncomputable def pF (P:Params):Obj:=⟨(.type "type"),none,(.cls { name := "SequenceMatcher", bases:=[(.type "object")],mro:=[(.ref 270),(.type "object")],ns:=269,qualname := "SequenceMatcher", hasDict:=true,slotNames:=[],subclasses:=[],abstract:=false,collection:=none,hasDel:=false }),#[none,none,some (.str "SequenceMatcher" 524),some (.str "SequenceMatcher" 532),some (Value.builtin "object.__new__"),some (Value.bool true)]⟩
noncomputable def mU (P:Params):Obj:=⟨(.type "tuple"),none,(.seq #[.none] 0),#[]⟩
noncomputable def pE(P:Params):Obj:=⟨.none,none,(.fields #[]),#[]⟩
noncomputable def pD (P:Params):Obj:=⟨(.type "code"),none,(.fields #[(.str "nlargest" 722),(.str "nlargest" 723),(.str "/claim/cut.py" 724),(.int 446 0),(.int 3 0),(.int 0 0),(.int 0 0),(.int 3 0),(.ref 276),(Value.bool true),(.int 316 0),(.ref 277),.none,.none,.none,(.ref 278),(.int 725 0),(.int 446 0),(.str "/claim/cut.py" 726)]),#[]⟩
noncomputable def om (P:Params):Obj:=⟨(.type "function"),none,(.func { name := "nlargest", qualname := "nlargest", params:=aI (st1 pw 8),body:=FuncBody.stmts (ao (st1 pw 8)),scope:=aB (st1 pw 8),globals:=3,closure:=[],defaults:=(.ref 275),kwdefaults:=.none,doc:=.none,pyModule:=(.str "heapq" 720),annotations:=none,code:=(.ref 279),closureTuple:=.none,builtins:=0 }),#[]⟩
noncomputable def lP (P:Params):Obj:=⟨(.type "tuple"),none,(.seq #[(.int 3 730),(Value.float 4603579539098121011 731)] 0),#[]⟩
noncomputable def pC(P:Params):Obj:=⟨.none,none,(.fields #[]),#[]⟩
noncomputable def pB (P:Params):Obj:=⟨(.type "code"),none,(.fields #[(.str "get_close_matches" 732),(.str "get_close_matches" 733),(.str "/claim/cut.py" 734),(.int 492 0),(.int 4 0),(.int 0 0),(.int 0 0),(.int 3 0),(.ref 282),(Value.bool true),(.int 316 0),(.ref 283),.none,.none,.none,(.ref 284),(.int 735 0),(.int 492 0),(.str "/claim/cut.py" 736)]),#[]⟩
noncomputable def ol (P:Params):Obj:=⟨(.type "function"),none,(.func { name := "get_close_matches", qualname := "get_close_matches", params:=aI (st1 pw 10),body:=FuncBody.stmts (ao (st1 pw 10)),scope:=aB (st1 pw 10),globals:=3,closure:=[],defaults:=(.ref 281),kwdefaults:=.none,doc:=(Value.str (gh (st1 pw 10)) 737),pyModule:=(.str "cpy313.difflib" 728),annotations:=none,code:=(.ref 285),closureTuple:=.none,builtins:=0 }),#[]⟩
noncomputable def mT (P:Params):Obj:=⟨(.type "tuple"),none,(.seq #[(.str "ABC" 743),(.str "" 744),(.str "ZZZZZZZZZ" 745),(.str "JKLMNOPQR" 746)] 0),#[]⟩
noncomputable def pA(P:Params):Obj:=⟨.none,none,(.fields #[]),#[]⟩
noncomputable def pz (P:Params):Obj:=⟨(.type "code"),none,(.fields #[(.str "_law_near" 748),(.str "_law_near" 749),(.str "/claim/cut.py" 750),(.int 536 0),(.int 1 0),(.int 0 0),(.int 0 0),(.int 3 0),(.ref 288),(Value.bool true),(.int 316 0),(.ref 289),.none,(.ref 290),(.ref 291),(.ref 292),(.int 754 0),(.int 536 0),(.str "/claim/cut.py" 755)]),#[]⟩
noncomputable def oh (P:Params):Obj:=⟨(.type "function"),none,(.func { name := "_law_near", qualname := "_law_near", params:=aI (st1 pw 14),body:=FuncBody.stmts (ao (st1 pw 14)),scope:=aB (st1 pw 14),globals:=3,closure:=[],defaults:=.none,kwdefaults:=.none,doc:=.none,pyModule:=(.str "law_yj0002_02" 739),annotations:=none,code:=(.ref 293),closureTuple:=.none,builtins:=0 }),#[]⟩
noncomputable def pu(P:Params):Obj:=⟨.none,none,(.fields #[]),#[]⟩
noncomputable def pt (P:Params):Obj:=⟨(.type "code"),none,(.fields #[(.str "_law_laid" 757),(.str "_law_laid" 758),(.str "/claim/cut.py" 759),(.int 541 0),(.int 2 0),(.int 0 0),(.int 0 0),(.int 3 0),(.ref 295),(Value.bool true),(.int 316 0),(.ref 296),.none,(.ref 297),(.ref 298),(.ref 299),(.int 767 0),(.int 541 0),(.str "/claim/cut.py" 768)]),#[]⟩
noncomputable def og (P:Params):Obj:=⟨(.type "function"),none,(.func { name := "_law_laid", qualname := "_law_laid", params:=aI (st1 pw 15),body:=FuncBody.stmts (ao (st1 pw 15)),scope:=aB (st1 pw 15),globals:=3,closure:=[],defaults:=.none,kwdefaults:=.none,doc:=.none,pyModule:=(.str "law_yj0002_02" 739),annotations:=none,code:=(.ref 300),closureTuple:=.none,builtins:=0 }),#[]⟩
noncomputable def pq(P:Params):Obj:=⟨.none,none,(.fields #[]),#[]⟩
noncomputable def po (P:Params):Obj:=⟨(.type "code"),none,(.fields #[(.str "law" 770),(.str "law" 771),(.str "/claim/cut.py" 772),(.int 548 0),(.int 1 0),(.int 0 0),(.int 0 0),(.int 3 0),(.ref 302),(Value.bool true),(.int 316 0),(.ref 303),.none,.none,.none,(.ref 304),(.int 773 0),(.int 548 0),(.str "/claim/cut.py" 774)]),#[]⟩
noncomputable def oa (P:Params):Obj:=⟨(.type "function"),none,(.func { name := "law", qualname := "law", params:=aI (st1 pw 16),body:=FuncBody.stmts (ao (st1 pw 16)),scope:=aB (st1 pw 16),globals:=3,closure:=[],defaults:=.none,kwdefaults:=.none,doc:=.none,pyModule:=(.str "law_yj0002_02" 739),annotations:=none,code:=(.ref 305),closureTuple:=.none,builtins:=0 }),#[]⟩
noncomputable def KK(P:Params):Frag:=[(2,o2 P),(3,o3 P),(44,o44 P),(48,o48 P),(49,o49 P),(54,o54 P),(55,o55 P),(58,o58 P),(62,o62 P),(63,o63 P),(64,o64 P),(66,o66 P),(70,o70 P),(71,o71 P),(73,o73 P),(77,o77 P),(78,o78 P),(80,o80 P),(84,o84 P),(85,o85 P),(87,o87 P),(88,o88 P),(96,o96 P),(98,o98 P),(99,o99 P),(105,qJ P),(109,qI P),(110,oK P),(112,qH P),(116,qG P),(117,oJ P),(119,qF P),(121,qE P),(123,qD P),(127,qC P),(128,qB P),(130,qA P),(134,qz P),(135,qy P),(137,qx P),(141,qw P),(142,qv P),(144,qu P),(148,qt P),(149,qr P),(162,qo P),(163,oI P),(164,qm P),(168,ql P),(172,qk P),(173,oH P),(178,qj P),(179,qi P),(181,mW P),(183,qh P),(187,qg P),(188,oG P),(190,qf P),(194,qe P),(195,oF P),(197,qd P),(201,qc P),(202,oE P),(204,qb P),(208,qa P),(209,oD P),(211,pZ P),(215,pY P),(216,oB P),(217,pX P),(219,pW P),(223,pV P),(224,oA P),(226,pU P),(230,pT P),(231,oz P),(233,pS P),(237,pR P),(238,pQ P),(239,pP P),(241,pO P),(245,pN P),(246,pM P),(248,pL P),(252,mV P),(253,ow P),(255,pK P),(259,pJ P),(260,ou P),(262,pI P),(266,pH P),(267,oo P),(269,o269 P),(270,pF P),(275,mU P),(277,pE P),(279,pD P),(280,om P),(281,lP P),(283,pC P),(285,pB P),(286,ol P),(287,mT P),(289,pA P),(293,pz P),(294,oh P),(296,pu P),(300,pt P),(301,og P),(303,pq P),(305,po P),(306,oa P)]
noncomputable def aa:List Addr:=[2,3,44,48,49,54,55,58,62,63,64,66,70,71,73,77,78,80,84,85,87,88,96,98,99,105,109,110,112,116,117,119,121,123,127,128,130,134,135,137,141,142,144,148,149,162,163,164,168,172,173,178,179,181,183,187,188,190,194,195,197,201,202,204,208,209,211,215,216,217,219,223,224,226,230,231,233,237,238,239,241,245,246,248,252,253,255,259,260,262,266,267,269,270,275,277,279,280,281,283,285,286,287,289,293,294,296,300,301,303,305,306]
noncomputable def qq:Program:=view pw [0,16]
noncomputable def loose:List Str:=[Str.ofString "_wall", Str.ofString "_tuplegetter", Str.ofString "Match", Str.ofString "_calculate_ratio", Str.ofString "SequenceMatcher", Str.ofString "nlargest", Str.ofString "get_close_matches", Str.ofString "WORD", Str.ofString "STRANGERS", Str.ofString "_law_near", Str.ofString "_law_laid"]
noncomputable def law:OpenLaw:=PySem.Challenge.rw_yj0002_02
noncomputable abbrev XtG(q:Program)(rc:WRecords)(s:Shared):Bool:=xlAt q [] s && recOk rc s
noncomputable abbrev Xt(s:Shared):Bool:=XtG qq law.row.records s
noncomputable def tk0:Nat:=776
noncomputable def lhs(pg:Program)(w:World):=((fencedOpening (T2 tnF) pg w 4714).bind (cN (T2 tnF) pg w 4714)).bind (fun s=>fL (fO fObj) (aa.map s.heap.get?) fun l=>some (openSeen qq loose (importedModules pw.main.body) Xt true s,l,Nat.ble tk0 s.toks))
noncomputable def obsL(d:Str)(w:World):List (Option Obj):=[some (o2 w.params),some (o3 w.params),some (o44 w.params),some (o48 w.params),some (o49 w.params),some (o54 w.params),some (o55 w.params),some (o58 w.params),some (o62 w.params),some (o63 w.params),some (o64 w.params),some (o66 w.params),some (o70 w.params),some (o71 w.params),some (o73 w.params),some (o77 w.params),some (o78 w.params),some (o80 w.params),some (o84 w.params),some (o85 w.params),some (o87 w.params),some (o88 w.params),some (o96 w.params),some (o98 w.params),some (o99 w.params),some (qJ w.params),some (qI w.params),some (oK w.params),some (qH w.params),some (qG w.params),some (oJ w.params),some (qF w.params),some (qE w.params),some (qD w.params),some (qC w.params),some (qB w.params),some (qA w.params),some (qz w.params),some (qy w.params),some (qx w.params),some (qw w.params),some (qv w.params),some (qu w.params),some (qt w.params),some (qr w.params),some (qo w.params),some (oI w.params),some (qm w.params),some (ql w.params),some (qk w.params),some (oH w.params),some (qj w.params),some (qi w.params),some (mW w.params),some (qh w.params),some (qg w.params),some (oG w.params),some (qf w.params),some (qe w.params),some (oF w.params),some (qd w.params),some (qc w.params),some (oE w.params),some (qb w.params),some (qa w.params),some (oD w.params),some (pZ w.params),some (pY w.params),some (oB w.params),some (pX w.params),some (pW w.params),some (pV w.params),some (oA w.params),some (pU w.params),some (pT w.params),some (oz w.params),some (pS w.params),some (pR w.params),some (pQ w.params),some (pP w.params),some (pO w.params),some (pN w.params),some (pM w.params),some (pL w.params),some (mV w.params),some (ow w.params),some (pK w.params),some (pJ w.params),some (ou w.params),some (pI w.params),some (pH w.params),some (oo w.params),some (pG d w.params),some (pF w.params),some (mU w.params),some (pE w.params),some (pD w.params),some (om w.params),some (lP w.params),some (pC w.params),some (pB w.params),some (ol w.params),some (mT w.params),some (pA w.params),some (pz w.params),some (oh w.params),some (pu w.params),some (pt w.params),some (og w.params),some (pq w.params),some (po w.params),some (oa w.params)]
noncomputable def rhs(d:Str)(w:World):=some ((expectedOf qq,bltViewBooted,true,true,pinGoodD (drecsOf qq),plainGoodE qq (looseW qq loose),plainGoodD qq loose,wideGood qq,clsGoodW qq loose),obsL d w,true)
noncomputable def oX:Stmt→Str→Stmt
 | .ClassDef a b c (.Expr (.Constant (.str _) k p) q::r) e f g h i j l,d=>.ClassDef a b c (.Expr (.Constant (.str d) k p) q::r) e f g h i j l
 | s,_=>s
noncomputable def pwD(p:Program)(d:Str):Program:={ p with main:={ p.main with body:=p.main.body.set 6 (oX (st1 p 6) d) } }
noncomputable def docL:{ cs:List Char // gh (st1 pw 6)=Str.ofString (String.ofList cs) }:=⟨_,rfl⟩
noncomputable def docA:Str:=⟨(docL.1.map Char.toNat).toArray⟩
theorem nX:docA=gh (st1 pw 6):=(docL.2.trans (PySem.W.Fast.ofString_ofList _)).symm
theorem chk0(w:World):lhs (pwD pw docA) w=rhs docA w:=by kernel_rfl
theorem mO:pwD pw (gh (st1 pw 6))=pw:=by kernel_rfl
theorem chk(w:World):lhs pw w=rhs (gh (st1 pw 6)) w:=by
 have h:=chk0 w
 rw[nX,mO] at h
 exact h
theorem o6(w:World):rhs (gh (st1 pw 6)) w=some (openGood qq loose,((KK w.params).map fun p=>some p.2,true)):=by kernel_rfl
end Mine
end
section
open PySem PySem.W PyProof.Rows
namespace Mine
theorem left:LeftO pw qq loose Xt (fun s=>(aa.map s.heap.get?,Nat.ble tk0 s.toks)) (fun w=>((KK w.params).map fun p=>some p.2,true)) 4714 :=
 f7 (Ya:=fun w=>(KK w.params).map fun p=>some p.2) fun w=>(chk w).trans (o6 w)
end Mine
end
open PySem PySem.W PySem.W.X PySem.Calls PyProof.Rows
namespace Mine
abbrev VP:=Value→Shared→Prop
abbrev FP:=Flow→Shared→Prop
abbrev UP:=Unit→Shared→Prop
abbrev BP:=Bool→Shared→Prop
abbrev LP:=List Value→Shared→Prop
noncomputable section
section
abbrev wh(s:Shared)(h:Heap):Shared:={ s with heap:=h }
abbrev wht(s:Shared)(h:Heap)(t:Tok):Shared:={ s with heap:=h,toks:=t }
abbrev wt(s:Shared)(t:Tok):Shared:={ s with toks:=t }
section
variable(M:Model)(A:Around)(env:Env)(E:VP)
abbrev lg(rest:List Stmt)(Q:FP){α:Type}(_:α)(s:Shared):Prop:=wpAny M A (execs rest env) Q E s
abbrev lV(x:Str)(rest:List Stmt)(Q:FP)(v:Value)(s:Shared):Prop:=wpAny M A (storeName env x v) (lg M A env E rest Q) E s
abbrev kSetB(attr:Str)(v:Value)(rest:List Stmt)(Q:FP)(ov:Value)(s:Shared):Prop:=wpAny M A (setAttr ov attr v) (lg M A env E rest Q) E s
abbrev kSetA(o:Expr)(attr:Str)(rest:List Stmt)(Q:FP)(v:Value)(s:Shared):Prop:=wpAny M A (eval o env) (kSetB M A env E attr v rest Q) E s
abbrev q7(t:Expr)(rest:List Stmt)(Q:FP)(v:Value){α:Type}(_:α)(s:Shared):Prop:=wpAny M A (assign t env v) (lg M A env E rest Q) E s
abbrev nH(t:Expr)(rest:List Stmt)(Q:FP)(v:Value)(s:Shared):Prop:=wpAny M A (assign t env v) (lg M A env E rest Q) E s
abbrev kTwo(t u:Expr)(rest:List Stmt)(Q:FP)(v:Value)(s:Shared):Prop:=wpAny M A (assign t env v) (q7 M A env E u rest Q v) E s
abbrev q6(t u:Expr)(rest:List Stmt)(Q:FP)(v:Value){α:Type}(_:α)(s:Shared):Prop:=wpAny M A (assign t env v) (q7 M A env E u rest Q v) E s
abbrev q5(t u z:Expr)(rest:List Stmt)(Q:FP)(v:Value)(s:Shared):Prop:=wpAny M A (assign t env v) (q6 M A env E u z rest Q v) E s
abbrev kAugB(x:Str)(op:Operator)(old:Value)(rest:List Stmt)(Q:FP)(v:Value)(s:Shared):Prop:=wpAny M A (inplaceOp op old v) (lV M A env E x rest Q) E s
abbrev kAug(x:Str)(op:Operator)(value:Expr)(rest:List Stmt)(Q:FP)(old:Value)(s:Shared):Prop:=wpAny M A (eval value env) (kAugB M A env E x op old rest Q) E s
abbrev kExpr(rest:List Stmt)(Q:FP)(v:Value)(s:Shared):Prop:=match v with | .ref _=>False | _=>wpAny M A (execs rest env) Q E s
abbrev ra(rest:List Stmt)(Q:FP)(f:Flow)(s:Shared):Prop:=match f with | .next=>wpAny M A (execs rest env) Q E s | f=>Q f s
abbrev kIf(body orelse rest:List Stmt)(Q:FP)(b:Bool)(s:Shared):Prop :=
 (b=true→wpAny M A (execs body env) (ra M A env E rest Q) E s)∧(b=false→wpAny M A (execs orelse env) (ra M A env E rest Q) E s)
abbrev kRet(Q:FP)(v:Value)(s:Shared):Prop:=Q (.ret v) s
abbrev nG(pos:Pos)(args:List Expr)(Q:VP)(f:Value)(s:Shared):Prop:=wpAny M A (callWith pos f [] (backTo pos (starEach args env)) []) Q E s
abbrev rb(pos:Pos)(args:List Expr)(Q:VP)(fx:Value×List Value)(s:Shared):Prop:=wpAny M A (callWith pos fx.1 fx.2 (backTo pos (starEach args env)) []) Q E s
abbrev kMeth(name:Str)(pl:Sem Bool)(pos:Pos)(args:List Expr)(Q:VP)(ov:Value)(s:Shared):Prop:=wpAny M A (getMethod ov name pl) (rb M A env E pos args Q) E s
abbrev re(Q:LP)(v:Value)(vs:List Value)(s:Shared):Prop:=Q (v::vs) s
abbrev kArgs(pos:Pos)(rest:List Expr)(Q:LP)(v:Value)(s:Shared):Prop:=wpAny M A (spliced (backTo pos (starEach rest env))) (re Q v) E s
abbrev kBinB(op:Operator)(a:Value)(Q:VP)(b:Value)(s:Shared):Prop:=wpAny M A (binaryOp op a b) Q E s
abbrev kBin(op:Operator)(r:Expr)(Q:VP)(a:Value)(s:Shared):Prop:=wpAny M A (eval r env) (kBinB M A E op a Q) E s
abbrev kCmpB(op:CmpOp)(a:Value)(Q:VP)(b:Value)(s:Shared):Prop:=wpAny M A (compareOp op a b) Q E s
abbrev kCmp(op:CmpOp)(r:Expr)(Q:VP)(a:Value)(s:Shared):Prop:=wpAny M A (eval r env) (kCmpB M A E op a Q) E s
abbrev q0(Q:BP)(c:Value)(s:Shared):Prop:=wpAny M A (truthy c) Q E s
abbrev kNot(Q:BP)(c:Bool)(s:Shared):Prop:=Q (!c) s
abbrev kAnd(rest:List Expr)(pos:Pos)(whole:Sem Value)(Q:BP)(c:Bool)(s:Shared):Prop:=(c=true→wpAny M A (isTrue (.BoolOp .And rest pos) env whole) Q E s)∧(c=false→Q false s)
abbrev kRes(Q:VP)(r:Result)(s:Shared):Prop:=match r with | .ok (.ret v)=>Q v s | .ok _=>False | .error e=>E e s
abbrev kBi(id:String)(first:List Value)(Q:VP)(vs:List Value)(s:Shared):Prop:=wpAny M A (call (.builtin id) (first++vs)) Q E s
abbrev kTy(T:String)(first:List Value)(Q:VP)(vs:List Value)(s:Shared):Prop:=wpAny M A (call (.type T) (first++vs)) Q E s
abbrev kDot(name:Str)(Q:VP)(ov:Value)(s:Shared):Prop:=wpAny M A (getAttr ov name true) Q E s
abbrev kOrd(ts:List (Value→Sem Unit))(xs:List Value)(Q:UP)(_:Unit)(s:Shared):Prop:=wpAny M A (assignInOrder ts xs) Q E s
abbrev lf(name:Str)(v:Value)(Q:UP)(ov:Value)(s:Shared):Prop:=wpAny M A (setAttr ov name v) Q E s
abbrev q8(ov v:Value)(Q:UP)(iv:Value)(s:Shared):Prop:=wpAny M A (setItem ov iv v) Q E s
abbrev q9(i:Expr)(v:Value)(Q:UP)(ov:Value)(s:Shared):Prop:=wpAny M A (eval i env) (q8 M A E ov v Q) E s
abbrev kGetB(T:String)(o:Value)(Q:VP)(i:Value)(s:Shared):Prop:=s.TypeIs o T∧wpAny M A (getItem o i) Q E s
abbrev kGet(T:String)(e:Expr)(Q:VP)(o:Value)(s:Shared):Prop:=wpAny M A (eval e env) (kGetB M A E T o Q) E s
end
section
variable{M:Model}{A:Around}{E:VP}{s:Shared}{env:Env}
theorem args_cons{e:Expr}{rest:List Expr}{pos:Pos}{Q:LP}(h:wpAny M A (eval e env) (kArgs M A env E pos rest Q) E s)
  (he:starEach (e::rest) env=(false,eval e env)::starEach rest env:=by rfl):wpAny M A (spliced (backTo pos (starEach (e::rest) env))) Q E s:=PyProof.Rows.args_cons h he
theorem wpAny_BinOp{l op r pos}{Q:VP}(h:wpAny M A (eval l env) (kBin M A env E op r Q) E s):wpAny M A (eval (.BinOp l op r pos) env) Q E s:=PySem.wpAny_BinOp h
theorem wpAny_isTrue_Compare1{l op r pos whole}{Q:BP}(h:wpAny M A (eval l env) (kCmp M A env E op r (q0 M A E Q)) E s)
  (hm:behindInMarks op r=false:=by with_unfolding_all rfl):wpAny M A (isTrue (.Compare l [op] [r] pos) env whole) Q E s:=PySem.wpAny_isTrue_Compare1 h hm
theorem wpAny_Compare1{l op r pos}{Q:VP}(h:wpAny M A (eval l env) (kCmp M A env E op r Q) E s)
  (hm:behindInMarks op r=false:=by with_unfolding_all rfl):wpAny M A (eval (.Compare l [op] [r] pos) env) Q E s:=PySem.wpAny_Compare1 h hm
theorem isTrue_not{x pos whole}{Q:BP}(h:wpAny M A (isTrue x env (eval x env)) (kNot Q) E s):wpAny M A (isTrue (.UnaryOp .Not x pos) env whole) Q E s:=PyProof.Rows.isTrue_not h
theorem wpAny_Constant_int{i k pos}{Q:VP}(h:Q (.int i s.toks) (wt s (s.toks+1))):wpAny M A (eval (.Constant (.int i) k pos) env) Q E s:=PySem.wpAny_Constant_int h
theorem wpAny_Constant_str{x:Str}{k pos}{Q:VP}(h:Q (.str x s.toks) (wt s (s.toks+1))):wpAny M A (eval (.Constant (.str x) k pos) env) Q E s:=PySem.wpAny_Constant_str h
end
section
variable{prog:Program}{w:World}{A:Around}{E:VP}{s:Shared}{a b:Int}{t u:Tok}{Q:VP}
theorem P.add_int(h:Q (.int (a+b) s.toks) (wt s (s.toks+1))):wpAny (model prog w) A (binaryOp .Add (.int a t) (.int b u)) Q E s:=PySem.P.add_int h
theorem P.sub_int(h:Q (.int (a - b) s.toks) (wt s (s.toks+1))):wpAny (model prog w) A (binaryOp .Sub (.int a t) (.int b u)) Q E s:=PySem.P.sub_int h
end
end
section
def cJ(oL:Obj)(l:List (Str×Value)):Prop :=
 Ex3 fun (es:Array DictEntry) (ep:Nat) (m:Str→Option Value)=>An5 (oL.data=.dict es ep) (StrKeys es) ((∀ name,nsFind es name=m name)) ((∀ p∈l,m p.1=some p.2)) ((l.map (·.1)).Nodup)
def Fm(h:Heap)(L:Addr)(l:List (Str×Value)):Prop:=∃ oL,h.get? L=some oL∧cJ oL l
theorem Fm.lt{h:Heap}{L:Addr}{l:List (Str×Value)}(F:Fm h L l):L<h.objs.size:=let ⟨_,e,_⟩:=F;Heap.lt_size e
theorem Fm.ns{h:Heap}{L:Addr}{l:List (Str×Value)}(F:Fm h L l):∃ m,An3 (h.Ns L m) ((∀ p∈l,m p.1=some p.2)) ((l.map (·.1)).Nodup) :=
 let ⟨oL,e,es,ep,m,a,b,c,d,n⟩:=F;⟨m,⟨oL,es,ep,e,a,b,c⟩,d,n⟩
theorem Fm.of_ns{h:Heap}{L:Addr}{m:Str→Option Value}{l:List (Str×Value)}(hn:h.Ns L m)(hl:∀ p∈l,m p.1=some p.2)(nd:(l.map (·.1)).Nodup):Fm h L l :=
 let ⟨o,es,ep,e,a,b,c⟩:=hn;⟨o,e,es,ep,m,a,b,c,hl,nd⟩
inductive lD:List (Str×Value)→Str→Value→List (Str×Value)→Prop
 | here {x:Str}{u v:Value}{l:List (Str×Value)}:lD ((x,u)::l) x v ((x,v)::l)
 | there {p:Str×Value}{x:Str}{v:Value}{l l':List (Str×Value)}:lD l x v l'→lD (p::l) x v (p::l')
theorem lD.keys{l l':List (Str×Value)}{x:Str}{v:Value}(h:lD l x v l'):l'.map (·.1)=l.map (·.1)∧x∈l.map (·.1):=by
 induction h with
 | here=>exact⟨rfl,List.mem_cons_self⟩
 | there _ ih=>exact⟨by rw[List.map_cons,List.map_cons,ih.1],List.mem_cons_of_mem _ ih.2⟩
theorem lD.ok{l l':List (Str×Value)}{x:Str}{v:Value}{m:Str→Option Value}(h:lD l x v l')(hl:∀ p∈l,m p.1=some p.2)(nd:(l.map (·.1)).Nodup) :
  ∀ p∈l',(if p.1=x then some v else m p.1)=some p.2:=by
 induction h with
 | here =>
  intro p hp
  rcases List.mem_cons.mp hp with rfl | hp
  ·rw[if_pos rfl]
  ·have n:=(List.nodup_cons.mp nd).1
   rw[if_neg fun e=>n (by rw[← show p.1=_ from e];exact List.mem_map.mpr ⟨p,hp,rfl⟩)]
   exact hl p (.tail _ hp)
 | there h ih =>
  intro p hp
  have n:=List.nodup_cons.mp nd
  rcases List.mem_cons.mp hp with rfl | hp
  ·rw[if_neg fun e=>n.1 (by show p.1∈_;rw[show p.1=_ from e];exact h.keys.2)]
   exact hl p (.head _)
  ·exact ih (fun p hp=>hl p (.tail _ hp)) n.2 p hp
def cg(l:List (Str×Value))(x:Str)(v:Value)(l':List (Str×Value)):Prop:=lD l x v l'∨((l.map (·.1)).contains x=false∧l'=(x,v)::l)
theorem cg.old{l l':List (Str×Value)}{x:Str}{v:Value}(h:lD l x v l'):cg l x v l':=.inl h
theorem cg.new{l:List (Str×Value)}{x:Str}{v:Value}(h:(l.map (·.1)).contains x=false):cg l x v ((x,v)::l):=.inr ⟨h,rfl⟩
theorem cg.fm{h':Heap}{L:Addr}{l l':List (Str×Value)}{x:Str}{v:Value}{m:Str→Option Value}(st:cg l x v l')(hn:h'.Ns L (fun y=>if y=x then some v else m y))
  (hl:∀ p∈l,m p.1=some p.2) (nd:(l.map (·.1)).Nodup):Fm h' L l':=by
 rcases st with s | ⟨c,rfl⟩
 ·exact .of_ns hn (s.ok hl nd) (by rw[s.keys.1];exact nd)
 ·have hx:x∉l.map (·.1):=fun q=>by rw[List.contains_iff_mem.mpr q] at c;cases c
  refine .of_ns hn (fun p hp=>?_) (List.nodup_cons.mpr ⟨hx,nd⟩)
  rcases List.mem_cons.mp hp with rfl | hp
  ·exact if_pos rfl
  ·have:p.1≠x:=fun e=>hx (e▸List.mem_map.mpr ⟨p,hp,rfl⟩)
   rw[if_neg this]
   exact hl p hp
structure St(hb:Heap)(tabs:List Addr)(L:Addr)(l:List (Str×Value))(T:List (Addr×Obj))(h:Heap):Prop where
 fm:Fm h L l
 lnew:hb.objs.size≤L
 keep:∀ b o,hb.get? b=some o→b∉tabs→h.get? b=some o
 tab:∀ t∈tabs,Ex2 fun ps more=>An3 (hb.get? t=some (tableObj ps)) (h.get? t=some (tableObj (ps++more))) (TriplesOk (ps++more).toList)
 obj:∀ p∈T,h.get? p.1=some p.2
 new:∀ p∈T,hb.objs.size≤p.1
 nd:(L::T.map (·.1)).Nodup
section
variable{hb h h':Heap}{tabs:List Addr}{L:Addr}{l l':List (Str×Value)}{T T':List (Addr×Obj)}
theorem bP{h:Heap}{a:Addr}{o:Obj}(e:h.get? a=some o):a<h.objs.size:=Heap.lt_size e
theorem St.old(S:St hb tabs L l T h){b:Addr}{o:Obj}(e:hb.get? b=some o)(hn:b∉tabs):h.get? b=some o:=S.keep b o e hn
theorem St.oldNeL(S:St hb tabs L l T h){b:Addr}{o:Obj}(e:hb.get? b=some o):b≠L:=Nat.ne_of_lt (Nat.lt_of_lt_of_le (bP e) S.lnew)
theorem St.tabLt(S:St hb tabs L l T h){t:Addr}(ht:t∈tabs):t<hb.objs.size:=by
 obtain⟨ps,more,e,_⟩:=S.tab t ht;exact bP e
theorem St.sub(S:St hb tabs L l T h)(hs:T'.Sublist T):St hb tabs L l T' h :=
 ⟨S.fm,S.lnew,S.keep,S.tab,fun p hp=>S.obj p (hs.subset hp),fun p hp=>S.new p (hs.subset hp),(S.nd.sublist (.cons_cons L (hs.map _)))⟩
theorem St.get(S:St hb tabs L l T h)(i:Nat){a:Addr}{o:Obj}(hi:T[i]? = some (a,o)):h.get? a=some o:=S.obj (a,o) (List.mem_of_getElem? hi)
theorem St.lt(S:St hb tabs L l T h){p:Addr×Obj}(hp:p∈T):p.1<h.objs.size:=bP (S.obj p hp)
theorem St.push(S:St hb tabs L l T h)(o:Obj)(hf:o.isFreed=false:=by rfl):St hb tabs L l ((h.objs.size,o)::T) (h.push o):=by
 have hsz:hb.objs.size≤h.objs.size:=Nat.le_of_lt (Nat.lt_of_le_of_lt S.lnew S.fm.lt)
 obtain⟨oL,hL,r⟩:=S.fm
 refine⟨⟨oL,Heap.get?_push_of_some _ hL,r⟩,S.lnew,fun b o' e hn=>Heap.get?_push_of_some _ (S.keep b o' e hn),fun t ht=>?_,fun p hp=>?_,fun p hp=>?_,?_⟩
 ·obtain⟨ps,more,e1,e2,e3⟩:=S.tab t ht
  exact⟨ps,more,e1,Heap.get?_push_of_some _ e2,e3⟩
 ·rcases List.mem_cons.mp hp with rfl | hp
  ·exact Heap.get?_push_size _ hf
  ·exact Heap.get?_push_of_some _ (S.obj p hp)
 ·rcases List.mem_cons.mp hp with rfl | hp
  ·exact hsz
  ·exact S.new p hp
 ·have hL':=Heap.lt_size hL
  have nd:=List.nodup_cons.mp S.nd
  refine List.nodup_cons.mpr ⟨fun hm=>?_,List.nodup_cons.mpr ⟨fun hm=>?_,nd.2⟩⟩
  ·rcases List.mem_cons.mp hm with q | q
   ·exact absurd hL' (Nat.not_lt.mpr (Nat.le_of_eq q.symm))
   ·exact nd.1 q
  ·obtain⟨p,hp,e⟩:=List.mem_map.mp hm
   exact absurd (S.lt hp) (Nat.not_lt.mpr (Nat.le_of_eq e.symm))
theorem St.setNs(S:St hb tabs L l T h)(hn:Fm h' L l')(hs:Heap.SameBut L h h'):St hb tabs L l' T h':=by
 have nd:=List.nodup_cons.mp S.nd
 refine⟨hn,S.lnew,fun b o e hn'=>(hs.2 b (S.oldNeL e)).trans (S.keep b o e hn'),fun t ht=>?_,fun p hp=>?_,S.new,S.nd⟩
 ·obtain⟨ps,more,e1,e2,e3⟩:=S.tab t ht
  exact⟨ps,more,e1,(hs.2 t (S.oldNeL e1)).trans e2,e3⟩
 ·exact (hs.2 p.1 (fun q=>nd.1 (q▸List.mem_map.mpr ⟨p,hp,rfl⟩))).trans (S.obj p hp)
theorem St.enter(S:St hb tabs L l T h){L':Addr}(hL:L'=h.objs.size)(hn:Fm h' L' l')(hk:∀ b o,h.get? b=some o→h'.get? b=some o) :
  ∃ oL,cJ oL l∧St hb tabs L' l' ((L,oL)::T) h':=by
 obtain⟨oL,e,r⟩:=S.fm
 have hLs:=Heap.lt_size e
 refine⟨oL,r,hn,?_,fun b o e hn'=>hk b o (S.keep b o e hn'),fun t ht=>?_,fun p hp=>?_,fun p hp=>?_,?_⟩
 ·rw[hL];exact Nat.le_of_lt (Nat.lt_of_le_of_lt S.lnew hLs)
 ·obtain⟨ps,more,e1,e2,e3⟩:=S.tab t ht
  exact⟨ps,more,e1,hk _ _ e2,e3⟩
 ·rcases List.mem_cons.mp hp with rfl | hp
  ·exact hk _ _ e
  ·exact hk _ _ (S.obj p hp)
 ·rcases List.mem_cons.mp hp with rfl | hp
  ·exact S.lnew
  ·exact S.new p hp
 ·refine List.nodup_cons.mpr ⟨fun hm=>?_,S.nd⟩
  rcases List.mem_cons.mp hm with q | q
  ·exact absurd hLs (Nat.not_lt.mpr (Nat.le_of_eq (hL.symm.trans q)))
  ·obtain⟨p,hp,e⟩:=List.mem_map.mp q
   exact absurd (S.lt hp) (Nat.not_lt.mpr (Nat.le_of_eq (hL.symm.trans e.symm)))
theorem St.leave{L':Addr}{oL:Obj}(S:St hb tabs L' l' T' h')(i:Nat)(hi:T'[i]? = some (L,oL))(r:cJ oL l):St hb tabs L l (T'.eraseIdx i) h':=by
 have hm:=List.mem_of_getElem? hi
 have hsub:(T'.eraseIdx i).Sublist T':=List.eraseIdx_sublist T' i
 refine⟨⟨oL,S.get i hi,r⟩,S.new _ hm,S.keep,S.tab,fun p hp=>S.obj p (hsub.subset hp),fun p hp=>S.new p (hsub.subset hp),?_⟩
 have nd:=(List.nodup_cons.mp S.nd).2
 refine List.nodup_cons.mpr ⟨fun hm'=>?_,nd.sublist (hsub.map _)⟩
 obtain⟨p,hp,e⟩:=List.mem_map.mp hm'
 obtain⟨j,hj,hji⟩:=List.mem_eraseIdx_iff_getElem?.mp hp
 have h1:(T'.map (·.1))[i]? = some L:=by rw[List.getElem?_map,hi];rfl
 have h2:(T'.map (·.1))[j]? = some L:=by rw[List.getElem?_map,hji];exact congrArg some e
 exact hj ((List.getElem?_inj (List.getElem?_eq_some_iff.mp h2).1 nd).mp (h2.trans h1.symm))
end
end
section
structure Gd(K:Frag)(tabs:List Addr)(hb:Heap):Prop where
 k:K.In hb
 mg:∃ mg,hb.Ns mainGlobals mg
 bl:∃ mb,hb.Ns builtinsNs mb∧∀ x:Str,x ≠ "__name__" → mb x=bootBuiltins x
 lim:hb.NoLimit
 nb:NoneBooked hb
 n1:mainGlobals∉tabs
 n2:builtinsNs∉tabs
 n3:cStatics∉tabs
 nt:(K.all fun p=>!tabs.contains p.1)=true
def cS:List Str→Bool
 | []=>true
 | a::l=>!l.contains a && cS l
theorem cu:∀ {l:List Str},cS l=true→l.Nodup
 | [],_=>List.nodup_nil
 | a::l,h=>by
  unfold cS at h
  obtain⟨h1,h2⟩:=Bool.and_eq_true_iff.mp h
  refine List.nodup_cons.mpr ⟨fun q=>?_,cu h2⟩
  rw[List.contains_iff_mem.mpr q] at h1
  cases h1
theorem da:∀ (l:List (Str×Value)),(l.map (·.1)).Nodup→∀ {p:Str×Value},p∈l→l.reverse.lookup p.1=some p.2
 | [],_,_,hp=>by cases hp
 | q::r,hn,p,hp=>by
  have n:=List.nodup_cons.mp hn
  rw[List.reverse_cons,List.lookup_append]
  rcases List.mem_cons.mp hp with rfl | hp
  ·have:r.reverse.lookup p.1=none:=by
    rw[List.lookup_eq_none_iff]
    intro z hz
    have hz:=List.mem_reverse.mp hz
    have:z.1≠p.1:=fun e=>n.1 (by show p.1∈_;rw[← e];exact List.mem_map.mpr ⟨z,hz,rfl⟩)
    simpa using this.symm
   rw[this]
   simp[List.lookup]
  ·rw[da r n.2 hp];rfl
section
variable{prog:Program}{w:World}{A:Around}{E:VP}{s:Shared}{K:Frag}{hb:Heap}{tabs:List Addr}{L:Addr}{l l':List (Str×Value)}{T:List (Addr×Obj)}{fd:FuncData}{fa:Addr}{x:Str}{v:Value}{pos:Pos}
theorem St.oldNs(S:St hb tabs L l T s.heap){a:Addr}{m:Str→Option Value}(hn:hb.Ns a m)(ha:a∉tabs):s.heap.Ns a m :=
 let ⟨o,es,ep,e,r⟩:=hn;⟨o,es,ep,S.old e ha,r⟩
theorem St.nb(S:St hb tabs L l T s.heap)(G:Gd K tabs hb):NoneBooked s.heap:=let ⟨mc,a,b⟩:=G.nb;⟨mc,S.oldNs a G.n3,b⟩
theorem St.lim(S:St hb tabs L l T s.heap)(G:Gd K tabs hb):s.heap.NoLimit:=let ⟨mc,a,b⟩:=G.lim;⟨mc,S.oldNs a G.n3,b⟩
theorem ac{Q:VP}(S:St hb tabs L l T s.heap)(hv:(x,v)∈l)(h:Q v s)
  (hk:fd.scope.kind=.function:=by kernel_rfl) (hl:(callEnv fd L fa).kindOf x=some .local:=by kernel_rfl) (hd:(x == ("__debug__" : Str))=false:=by kernel_rfl) :
  wpAny (model prog w) A (eval (.Name x pos) (callEnv fd L fa)) Q E s:=by
 obtain⟨m,a,b,_⟩:=S.fm.ns
 exact wpAny_Name (wpAny_loadName_local hk hl a (b _ hv) h) hd
theorem pf{Q:VP}(S:St hb tabs L l T s.heap)(hv:(x,v)∈l)(h:Q v s)
  (hk:fd.scope.kind=.function:=by kernel_rfl) (hl:(callEnv fd L fa).kindOf x=some .local:=by kernel_rfl) :
  wpAny (model prog w) A (loadName (callEnv fd L fa) x) Q E s:=by
 obtain⟨m,a,b,_⟩:=S.fm.ns
 exact wpAny_loadName_local hk hl a (b _ hv) h
theorem af{Q:UP}(S:St hb tabs L l T s.heap)(st:cg l x v l')(h:∀ h',St hb tabs L l' T h'→Q () (wht s h' (s.toks+1)))
  (hk:fd.scope.kind=.function:=by kernel_rfl) (hl:(callEnv fd L fa).kindOf x=some .local:=by kernel_rfl) :
  wpAny (model prog w) A (storeName (callEnv fd L fa) x v) Q E s:=by
 obtain⟨m,a,b,c⟩:=S.fm.ns
 exact wpAny_storeName_local hl a (fun h' hn hs=>h h' (S.setNs (st.fm hn b c) hs))
  (by show (fd.scope.kind == .class || (fd.scope.kind == .module && L != fd.globals))=false;rw[hk];rfl)
theorem aq{Q:VP}(G:Gd K tabs hb)(S:St hb tabs L l T s.heap)(e:nsIn K mainGlobals x=some (some v))(h:Q v s)
  (hk:fd.scope.kind=.function:=by kernel_rfl) (hl:(callEnv fd L fa).kindOf x=some .globalImplicit:=by kernel_rfl) (hg:fd.globals=mainGlobals:=by kernel_rfl)
  (hd:(x == ("__debug__" : Str))=false:=by kernel_rfl):wpAny (model prog w) A (eval (.Name x pos) (callEnv fd L fa)) Q E s:=by
 obtain⟨mg,a⟩:=G.mg
 refine Name_function_global hk hl (loadGlobal_global (mg:=mg) ?_ (mg_of G.k a e) h) hd
 show s.heap.Ns fd.globals mg
 rw[hg];exact S.oldNs a G.n1
theorem ai{Q:VP}(G:Gd K tabs hb)(S:St hb tabs L l T s.heap)(hv:bootBuiltins x=some v)(h:Q v s)
  (e:nsIn K mainGlobals x=some none:=by kernel_rfl)
  (hk:fd.scope.kind=.function:=by kernel_rfl) (hl:(callEnv fd L fa).kindOf x=some .globalImplicit:=by kernel_rfl) (hg:fd.globals=mainGlobals:=by kernel_rfl)
  (hbi:fd.builtins=builtinsNs:=by kernel_rfl) (hn:(x == ("__name__" : Str))=false:=by kernel_rfl)
  (hd:(x == ("__debug__" : Str))=false:=by kernel_rfl):wpAny (model prog w) A (eval (.Name x pos) (callEnv fd L fa)) Q E s:=by
 obtain⟨mg,a⟩:=G.mg
 obtain⟨mb,b,c⟩:=G.bl
 refine Name_function_global hk hl (loadGlobal_builtin (mg:=mg) (mb:=mb) ?_ (mg_none_of G.k a e) ?_ ((c x (beq_eq_false_iff_ne.mp hn)).trans hv) h) hd
 ·show s.heap.Ns fd.globals mg
  rw[hg];exact S.oldNs a G.n1
 ·show s.heap.Ns fd.builtins mb
  rw[hbi];exact S.oldNs b G.n2
theorem cc{R:Result→Shared→Prop}{oc:Value}{od:Option Addr}{osl:Array (Option Value)}{args:Args}{binds:List (Str×Value)}{body:List Stmt}
  (G:Gd K tabs hb) (S:St hb tabs L l T s.heap) (ho:K.lookup fa=some ⟨oc,od,.func fd,osl⟩) (hroom:A.depth<recursionLimit)
  (hbind:BindsTo s fd args binds)
  (h:∀ L' h_1 oL,cJ oL l→St hb tabs L' binds ((L,oL)::T) h_1 →
   wpAny (model prog w) (A.deeper (callEnv fd L' fa)) (execs body (callEnv fd L' fa)) (fun f s'=>R (.ok (.ret (match f with | .ret v=>v | _=>.none))) s')
    (fun e s'=>wpAny (model prog w) (A.deeper (callEnv fd L' fa)) (leaving (callEnv fd L' fa) e) (fun _ s''=>R (.error e) s'') (fun e' s''=>R (.error e') s'') s')
    (wht s h_1 (s.toks+binds.length)))
  (hft:fa∉tabs:=by decide)
  (hcd:∀ hh:Heap,K.In hh→hh.CodeRec fd.code fd.qualname:=by intro hh kk;exact codeRec_of kk (by kernel_rfl))
  (hct:(match fd.code with | .ref c=>tabs.contains c | _=>false)=false:=by kernel_rfl)
  (hbody:fd.body=.stmts body:=by kernel_rfl)
  (hcell:(fd.scope.names.all fun x=>x.2 != .cell)=true:=by kernel_rfl) (hloc:(binds.all fun x=>fd.scope.names.lookup x.1 == some .local)=true:=by kernel_rfl)
  (hnd':cS (binds.map (·.1))=true:=by kernel_rfl)
  (hco:fd.scope.isCoroutine=false:=by kernel_rfl) (hgen:fd.scope.isGenerator=false:=by kernel_rfl) (hk:fd.scope.kind=.function:=by kernel_rfl) :
  codeAny (model prog w) A (.call (.ref fa) args) R s:=by
 have hnd:=cu hnd'
 have hcr:s.heap.CodeRec fd.code fd.qualname:=by
  obtain⟨c,o,vs,t,e1,e2,e3,e4⟩:=hcd hb G.k
  refine⟨c,o,vs,t,e1,S.old e2 (fun q=>?_),e3,e4⟩
  rw[e1] at hct
  have hct':tabs.contains c=false:=hct
  rw[List.contains_iff_mem.mpr q] at hct'
  cases hct'
 refine codeAny_call_def (fd:=fd) (body:=body) (binds:=binds) hroom (S.old (G.k _ _ ho) hft) rfl (S.lim G) hcr hbody hbind
  (fun y hy=>by have:=List.all_eq_true.mp hcell y hy;simpa using this) (fun y hy=>by have:=List.all_eq_true.mp hloc y hy;simpa using this) (fun h_1 hns hk_1=>?_) hco hgen hk
 have hfm:Fm h_1 s.heap.objs.size binds:=Fm.of_ns hns (fun p hp=>da binds hnd hp) hnd
 obtain⟨oL,r,S'⟩:=S.enter (L':=s.heap.objs.size) rfl hfm hk_1
 exact h _ h_1 oL r S'
end
end
section
section
variable{prog:Program}{w:World}{A:Around}{E:VP}{s:Shared}{env:Env}{x:Str}{v:Value}{pos p':Pos}{rest body orelse:List Stmt}{value test e o:Expr}{attr:Str}{Q:FP}
theorem ax(h:Q .next s):wpAny (model prog w) A (execs [] env) Q E s:=wpAny_execs_nil h
theorem ak(h:wpAny (model prog w) A (eval value env) (lV (model prog w) A env E x rest Q) E s)
  (hs:swapsWith value (some (.Name x p')) pos.line env=pure false:=by rfl):wpAny (model prog w) A (execs (.Assign [.Name x p'] value pos::rest) env) Q E s :=
 wpAny_execs_cons (wpAny_Assign_Name h hs)
theorem bN(h:wpAny (model prog w) A (eval value env) (kSetA (model prog w) A env E o attr rest Q) E s)
  (hs:swapsWith value (some (.Attribute o attr p')) pos.line env=pure false:=by rfl):wpAny (model prog w) A (execs (.Assign [.Attribute o attr p'] value pos::rest) env) Q E s :=
 wpAny_execs_cons (plainObj_wpAny_Assign_Attribute h hs)
theorem eX{elts:List Expr}{k:Nat}{tpos:Pos}(h:wpAny (model prog w) A (eval value env) (nH (model prog w) A env E (.Tuple elts k tpos) rest Q) E s)
  (hs:swapsWithSole [.Tuple elts k tpos] value pos.line env=pure false:=by rfl) (hw:swappedStores [.Tuple elts k tpos] value env=pure none:=by rfl) :
  wpAny (model prog w) A (execs (.Assign [.Tuple elts k tpos] value pos::rest) env) Q E s :=
 wpAny_execs_cons (Assign_Tuple h hs hw)
theorem eW{t_1 t_2:Expr}(h:wpAny (model prog w) A (eval value env) (kTwo (model prog w) A env E t_1 t_2 rest Q) E s)
  (he:(assignEach [t_1,t_2] env).map (·.2)=[assign t_1 env,assign t_2 env]:=by rfl) (hw:swappedStores [t_1,t_2] value env=pure none:=by rfl) :
  wpAny (model prog w) A (execs (.Assign [t_1,t_2] value pos::rest) env) Q E s :=
 wpAny_execs_cons (wpAny_Assign_two h he hw)
theorem mL{t_1 t_2 t_3:Expr}(h:wpAny (model prog w) A (eval value env) (q5 (model prog w) A env E t_1 t_2 t_3 rest Q) E s)
  (he:(assignEach [t_1,t_2,t_3] env).map (·.2)=[assign t_1 env,assign t_2 env,assign t_3 env]:=by rfl) (hw:swappedStores [t_1,t_2,t_3] value env=pure none:=by rfl) :
  wpAny (model prog w) A (execs (.Assign [t_1,t_2,t_3] value pos::rest) env) Q E s :=
 wpAny_execs_cons (wpAny_Assign_three h he hw)
theorem pn{op:Operator}(h:wpAny (model prog w) A (loadName env x) (kAug (model prog w) A env E x op value rest Q) E s) :
  wpAny (model prog w) A (execs (.AugAssign (.Name x p') op value pos::rest) env) Q E s :=
 wpAny_execs_cons (wpAny_AugAssign_Name h)
theorem aZ(h:wpAny (model prog w) A (eval e env) (kExpr (model prog w) A env E rest Q) E s)
  (hi:interactive env=false:=by rfl) (hs:swapsWith e none pos.line env=pure false:=by rfl):wpAny (model prog w) A (execs (.Expr e pos::rest) env) Q E s :=
 wpAny_execs_cons (wpAny_Expr (wpAny_mono h (fun v s' h'=>by cases v<;> exact h') fun _ _ x=>x) hi hs)
theorem c8{c:Str}{k:Nat}(h:wpAny (model prog w) A (execs rest env) Q E (wt s (s.toks+1)))(hi:interactive env=false:=by rfl):wpAny (model prog w) A (execs (.Expr (.Constant (.str c) k p') pos::rest) env) Q E s :=
 aZ (Constant_str h) hi
theorem cP(h:wpAny (model prog w) A (isTrue test env (eval test env)) (kIf (model prog w) A env E body orelse rest Q) E s) :
  wpAny (model prog w) A (execs (.If test body orelse pos::rest) env) Q E s :=
 wpAny_execs_cons (wpAny_If (wpAny_mono h (fun b s' h'=>by cases b;exact h'.2 rfl;exact h'.1 rfl) fun _ _ x=>x))
theorem b7(h:wpAny (model prog w) A (eval e env) (kRet Q) E s):wpAny (model prog w) A (execs (.Return (some e) pos::rest) env) Q E s :=
 wpAny_execs_cons (wpAny_Return_some h)
theorem lN(h:Q (.ret .none) s):wpAny (model prog w) A (execs (.Return none pos::rest) env) Q E s:=wpAny_execs_cons (wpAny_Return_none h)
theorem mM(h:Q .brk s):wpAny (model prog w) A (execs (.Break pos::rest) env) Q E s:=wpAny_execs_cons (fun _ _ _=>h)
theorem iG(h:Q .cont s):wpAny (model prog w) A (execs (.Continue pos::rest) env) Q E s:=wpAny_execs_cons (fun _ _ _=>h)
end
end
section
section
variable{hb h h':Heap}{tabs:List Addr}{L:Addr}{l l':List (Str×Value)}{T T':List (Addr×Obj)}
theorem gK:∀ (l:List Addr) {h:Heap}{b:Addr}{o:Obj},(hideAll h l).get? b=some o→b∉l:=fun l h b o e hm=>by
 rw[hideAll_none l hm] at e;cases e
theorem St.toK(S:St hb tabs L l T h):Ex2 fun (m:Str→Option Value) (TL:List (Addr×Obj))=>An6 (Fr (hideAll hb tabs) L h m) (News (hideAll hb tabs) L h (TL++T)) ((∀ p∈l,m p.1=some p.2)) ((l.map (·.1)).Nodup) ((∀ p∈TL,p.1<hb.objs.size)) (∀ (h':Heap) (m':Str→Option Value) (T':List (Addr×Obj)) (l':List (Str×Value)),Fr (hideAll hb tabs) L h' m'→News (hideAll hb tabs) L h' (TL++T')→(∀ p∈l',m' p.1=some p.2)→(l'.map (·.1)).Nodup →
   (∀ p∈T',hb.objs.size≤p.1)→(L::T'.map (·.1)).Nodup→St hb tabs L l' T' h'):=by
 obtain⟨m,hn,hl,nd⟩:=S.fm.ns
 have hTL:∃ TL:List (Addr×Obj),TL.map (·.1)=tabs∧∀ p∈TL,Ex2 fun ps more=>An4 (hb.get? p.1=some (tableObj ps)) (h.get? p.1=some p.2) (p.2=tableObj (ps++more)) (TriplesOk (ps++more).toList):=by
  have:∀ ts:List Addr,(∀ t∈ts,t∈tabs)→∃ TL:List (Addr×Obj),TL.map (·.1)=ts∧∀ p∈TL,Ex2 fun ps more=>An4 (hb.get? p.1=some (tableObj ps)) (h.get? p.1=some p.2) (p.2=tableObj (ps++more)) (TriplesOk (ps++more).toList):=by
   intro ts
   induction ts with
   | nil=>intro _;exact⟨[],rfl,fun p hp=>by cases hp⟩
   | cons t ts ih =>
    intro hs
    obtain⟨TL,e,k⟩:=ih fun t ht=>hs t (.tail _ ht)
    obtain⟨ps,more,e1,e2,e4⟩:=S.tab t (hs t (.head _))
    exact⟨(t,tableObj (ps++more))::TL,by rw[List.map_cons,e],fun p hp=>by
     rcases List.mem_cons.mp hp with rfl | hp
     ·exact⟨ps,more,e1,e2,rfl,e4⟩
     ·exact k p hp⟩
  exact this tabs fun _ h=>h
 obtain⟨TL,eT,kT⟩:=hTL
 have hlt:∀ p∈TL,p.1<hb.objs.size:=fun p hp=>by obtain⟨ps,more,e1,_⟩:=kT p hp;exact Heap.lt_size e1
 refine⟨m,TL,⟨hn,fun b o e=>S.keep b o (of_hideAll _ e) (gK _ e),by rw[hideAll_size];exact S.lnew⟩,fun p hp=>?_,hl,nd,hlt,fun h' m' T' l' F N hl' nd' hT' ndT=>?_⟩
 ·rcases List.mem_append.mp hp with hp | hp
  ·obtain⟨ps,more,e1,e2,e3,e4⟩:=kT p hp
   refine⟨e2,S.oldNeL e1,?_⟩
   exact hideAll_none _ (by rw[← eT];exact List.mem_map.mpr ⟨p,hp,rfl⟩)
  ·refine⟨S.obj p hp,fun q=>(List.nodup_cons.mp S.nd).1 (q▸List.mem_map.mpr ⟨p,hp,rfl⟩),?_⟩
   cases q:(hideAll hb tabs).get? p.1 with
   | none=>rfl
   | some o=>exact absurd (Heap.lt_size (of_hideAll _ q)) (Nat.not_lt.mpr (S.new p hp))
 ·refine⟨Fm.of_ns F.ns hl' nd',S.lnew,fun b o e hn=>F.keep b o (hideAll_get _ e hn),fun t ht=>?_,fun p hp=>(N p (List.mem_append_right _ hp)).1,hT',ndT⟩
  rw[← eT] at ht
  obtain⟨p,hp,rfl⟩:=List.mem_map.mp ht
  obtain⟨ps,more,e1,e2,e3,e4⟩:=kT p hp
  exact⟨ps,more,e1,by rw[(N p (List.mem_append_left _ hp)).1,e3],e4⟩
end
section
variable{prog:Program}{w:World}{A:Around}{E:VP}{s:Shared}{K:Frag}{hb:Heap}{tabs:List Addr}{L:Addr}{l l':List (Str×Value)}{T:List (Addr×Obj)}{fd:FuncData}{fa:Addr}{x:Addr}{C dx:Addr}{v:Value}{name:Str}{fl fl':List (Str×Value)}{od:Obj}
theorem St.kin(S:St hb tabs L l T s.heap)(G:Gd K tabs hb):K.In s.heap:=fun a o e=>by
 have hnt:=G.nt
 refine S.old (G.k a o e) fun q=>?_
 have hm:(a,o)∈K:=by
  clear G hnt
  induction K with
  | nil=>cases e
  | cons p r ih =>
   obtain⟨b,o'⟩:=p
   rw[List.lookup_cons] at e
   split at e
   ·rename_i hq
    cases e
    rw[beq_iff_eq.mp hq];exact .head _
   ·exact .tail _ (ih e)
 have:=List.all_eq_true.mp hnt _ hm
 rw[List.contains_iff_mem.mpr q] at this
 cases this
inductive gV:List DictEntry→List (Str×Value)→Prop
 | nil:gV [] []
 | cons {h:Int}{k:Str}{t:Tok}{v:Value}{es:List DictEntry}{fl:List (Str×Value)}:gV es fl→gV (⟨h,.str k t,v⟩::es) ((k,v)::fl)
def aY(o:Obj)(fl:List (Str×Value)):Prop:=Ex2 fun es n=>An3 (o=dictOf es n) (gV es fl) (cS (fl.map (·.1))=true)
theorem gV.len{es:List DictEntry}(h:gV es fl):es.length=fl.length:=by
 induction h with
 | nil=>rfl
 | cons _ ih=>rw[List.length_cons,List.length_cons,ih]
theorem gV.get{es:List DictEntry}(h:gV es fl)(nd:(fl.map (·.1)).Nodup)(hm:(name,v)∈fl):getL name es=some (some v):=by
 induction h with
 | nil=>cases hm
 | cons h ih =>
  rename_i hh k t u es fl
  have n:=List.nodup_cons.mp nd
  unfold getL
  rcases List.mem_cons.mp hm with e | hm
  ·cases e
   rw[List.find?_cons_of_pos (by simp[Value.isStr])]
  ·have hk:¬ (k == name)=true:=fun q=>n.1 (by show k∈_;rw[beq_iff_eq.mp q];exact List.mem_map.mpr ⟨_,hm,rfl⟩)
   rw[List.find?_cons_of_neg (by simpa [Value.isStr] using hk)]
   have:=ih n.2 hm
   unfold getL at this
   cases q:es.find? (fun e=>e.key.isStr name) with
   | some e=>rw[q] at this;exact this
   | none=>rw[q] at this;dsimp only at this;split at this<;> cases this
inductive Put:List (Str×Value)→Str→Value→List (Str×Value)→Prop
 | nil {x:Str}{v:Value}:Put [] x v [(x,v)]
 | here {x:Str}{u v:Value}{l:List (Str×Value)}:Put ((x,u)::l) x v ((x,v)::l)
 | there {y x:Str}{u v:Value}{l l':List (Str×Value)}:(y == x)=false→Put l x v l'→Put ((y,u)::l) x v ((y,u)::l')
theorem gV.put{es:List DictEntry}{hsh:Int}{t:Tok}(h:gV es fl)(hp:Put fl name v fl'):gV (putL name hsh (.str name t) v es) fl':=by
 induction h generalizing fl' with
 | nil =>
  cases hp
  exact .cons .nil
 | cons h ih =>
  rename_i hh k t' u es fl
  unfold putL
  cases hp with
  | here =>
   rw[if_pos (by simp[Value.isStr])]
   exact .cons h
  | there hne hp =>
   rw[if_neg (by simpa [Value.isStr] using hne)]
   exact .cons (ih hp)
theorem gV.known{es:List DictEntry}(h:gV es fl):(getL name es).isSome=true:=by
 have:es.any (·.refKey)=false:=by
  induction h with
  | nil=>rfl
  | cons _ ih=>rw[List.any_cons,ih];rfl
 unfold getL
 cases es.find? (fun e=>e.key.isStr name) with
 | some e=>rfl
 | none=>rw[this];rfl
theorem kP{l l':List (Str×Value)}{x:Str}{v:Value}(hp:Put l x v l'):∀ z,z∈l'.map (·.1)→z∈l.map (·.1)∨z=x:=by
 induction hp with
 | nil=>intro z hz;simp at hz;exact .inr hz
 | here=>intro z hz;exact .inl hz
 | there _ _ ih =>
  intro z hz
  rcases List.mem_cons.mp hz with rfl | hz
  ·exact .inl (.head _)
  ·rcases ih z hz with q | q
   ·exact .inl (.tail _ q)
   ·exact .inr q
theorem jG{l l':List (Str×Value)}{x:Str}{v:Value}(hp:Put l x v l')(nd:cS (l.map (·.1))=true):cS (l'.map (·.1))=true:=by
 induction hp with
 | nil=>rfl
 | here=>exact nd
 | there hne hp ih =>
  rename_i y x u v l l'
  rw[List.map_cons] at nd ⊢
  unfold cS at nd ⊢
  obtain⟨a,b⟩:=Bool.and_eq_true_iff.mp nd
  rw[ih b,Bool.and_true]
  cases q:(l'.map (·.1)).contains y with
  | false=>rfl
  | true =>
   rcases kP hp y (List.contains_iff_mem.mp q) with z | z
   ·rw[List.contains_iff_mem.mpr z] at a;cases a
   ·rw[z] at hne;simp at hne
end
end
section
section
variable{M:Model}{A:Around}{E:VP}{s:Shared}
theorem bF{f:Value}:∀ {trees:List (Bool×Sem Value)}{Q:Args→Shared→Prop} (_:trees.any (·.1)=false) (_:wpAny M A (spliced trees) (fun vs s'=>Q ⟨vs,[]⟩ s') E s),wpAny M A (evalArgs f true trees []) Q E s
 | [],Q,hp,h=>by
  unfold evalArgs
  show wpAny M A (spliced [] >>= _) Q E s
  refine wpAny_bind (wpAny_mono h (fun vs s' h'=>?_) fun _ _ x=>x)
  refine wpAny_bind (wpAny_pure ?_)
  refine wpAny_holding ?_
  exact wpAny_bind (wpAny_pure (wpAny_bind (wpAny_pure (wpAny_pure h'))))
 | (true,x)::rest,Q,hp,h=>by cases hp
 | (false,x)::rest,Q,hp,h=>evalArgs_plain h
end
section
variable{prog:Program}{w:World}{A:Around}{E:VP}{s:Shared}{K:Frag}{hb:Heap}{tabs:List Addr}{L:Addr}{l l':List (Str×Value)}{T:List (Addr×Obj)}{fd:FuncData}{fa x C dx:Addr}{v f:Value}{name:Str}
 {fl fl':List (Str×Value)}{od:Obj}{env:Env}{pos apos:Pos}{first:List Value}{trees:List (Bool×Sem Value)}{Q:VP}{sl:Array (Option Value)}{args:List Expr}{o:Expr}
abbrev kRef(M:Model)(A:Around)(E:VP)(hb:Heap)(tabs:List Addr)(f:Value)(first:List Value)(Q:VP)(vs:List Value)(s:Shared):Prop :=
 (Ex3 fun L l T=>St hb tabs L l T s.heap)∧codeAny M A (.call f ⟨first++vs,[]⟩) (kRes E Q) s
theorem aN(G:Gd K tabs hb)(h:wpAny (model prog w) A (spliced trees) (kRef (model prog w) A E hb tabs f first Q) E s)
  (hk:keepIn K f=true:=by kernel_rfl) (hp:trees.any (·.1)=false:=by rfl):wpAny (model prog w) A (callWith pos f first trees []) Q E s :=
 callWith_of (by rw[hp];rfl) (keeps_K hk) (bF hp (wpAny_mono h (fun vs s₁ z=>let ⟨⟨_,_,_,S⟩,z⟩:=z;⟨S.kin G,wpAny_call z⟩) fun _ _ z=>z))
theorem ag{id:String}(h:wpAny (model prog w) A (spliced trees) (kBi (model prog w) A E id first Q) E s)
  (hp:trees.any (·.1)=false:=by rfl):wpAny (model prog w) A (callWith pos (.builtin id) first trees []) Q E s:=callWith_builtin hp (bF hp h)
theorem bb{T:String}(h:wpAny (model prog w) A (spliced trees) (kTy (model prog w) A E T first Q) E s)
  (hp:trees.any (·.1)=false:=by rfl):wpAny (model prog w) A (callWith pos (.type T) first trees []) Q E s:=PyProof.Rows.callWith_type hp (bF hp h)
theorem aC{pl:Sem Bool}(h:wpAny (model prog w) A (eval o env) (kMeth (model prog w) A env E name pl pos args Q) E s)
  (he:eval (.Call (.Attribute o name apos) args [] pos) env=(do
   let ov ← eval o env
   standAt apos.atName
   let (f,first) ← holding [ov] (getMethod ov name pl)
   callWith pos f first (backTo pos (starEach args env)) (backToKw pos (keywordEach [] env))):=by rfl) :
  wpAny (model prog w) A (eval (.Call (.Attribute o name apos) args [] pos) env) Q E s:=methodCall_KW h he
theorem gV.get_none{es:List DictEntry}(h:gV es fl)(hn:(fl.map (·.1)).contains name=false):getL name es=some none:=by
 have hany:es.any (·.refKey)=false:=by
  clear hn
  induction h with
  | nil=>rfl
  | cons _ ih=>rw[List.any_cons,ih];rfl
 have hf:es.find? (fun e=>e.key.isStr name)=none:=by
  clear hany
  induction h with
  | nil=>rfl
  | cons h ih =>
   rename_i hh k t u es fl
   rw[List.map_cons,List.contains_cons,Bool.or_eq_false_iff] at hn
   have hk:(k == name)=false:=by
    cases q:k == name with
    | false=>rfl
    | true =>
     have:=beq_iff_eq.mp q
     have h1:=hn.1
     rw[this] at h1
     simp at h1
   rw[List.find?_cons_of_neg (by simpa [Value.isStr] using hk)]
   exact ih hn.2
 unfold getL
 rw[hf,hany]
 rfl
theorem aQ{expr:Bool}(G:Gd K tabs hb)(S:St hb tabs L l T s.heap)(hx:(x,(⟨.ref C,some dx,.plain,sl⟩:Obj))∈T)(hd:(dx,od)∈T)(hf:aY od fl)(hm:(name,v)∈fl)(h:Q v (wt s (s.toks+1)))
  (hg:plainGet K C name=true:=by kernel_rfl) (hh:hasDictIn K C=true:=by kernel_rfl) (ha:findIn K (.ref C) name=some none:=by kernel_rfl) (hv:handedIn v=true:=by rfl) :
  wpAny (model prog w) A (getAttr (.ref x) name expr) Q E s:=by
 obtain⟨es,n,rfl,he,nd⟩:=hf
 exact get_value (S.kin G) ⟨S.obj _ hx,rfl,rfl,S.obj _ hd⟩ (plainGet_of hg).1 (findObj_own hh ha rfl (by rw[lookIn_dict];exact he.get (cu nd) hm)) hv h
theorem bA{pl:Sem Bool}{Q:Value×List Value→Shared→Prop}{f:Addr}(G:Gd K tabs hb)(S:St hb tabs L l T s.heap)(hx:(x,(⟨.ref C,some dx,.plain,sl⟩:Obj))∈T)(hd:(dx,od)∈T)(hf:aY od fl)(h:Q (.ref f,[.ref x]) s)
  (hn:(fl.map (·.1)).contains name=false:=by kernel_rfl) (hm:findIn K (.ref C) name=some (some (.ref f)):=by kernel_rfl) (hg:plainGet K C name=true:=by kernel_rfl) (ht:isFn K (.ref f)=true:=by kernel_rfl) :
  wpAny (model prog w) A (getMethod (.ref x) name pl) Q E s:=by
 obtain⟨es,n,rfl,he,nd⟩:=hf
 exact method_fn (ox:=(⟨.ref C,some dx,.plain,sl⟩:Obj)) (od:=some (dictOf es n)) (S.kin G) ⟨S.obj _ hx,rfl,rfl,S.obj _ hd⟩ (plainGet_of hg).1 (plainGet_of hg).2 hm (beq_iff_eq.mp ht) (by show (lookIn name (dictOf es n)).map _=_;rw[lookIn_dict,he.get_none hn];rfl) h
theorem dG{α:Type}{T:List α}{i:Nat}{a b:α}(hi:T[i]? = some a):T=T.take i++a::T.drop (i+1)∧T.set i b=T.take i++b::T.drop (i+1):=by
 induction T generalizing i with
 | nil=>simp at hi
 | cons c r ih =>
  cases i with
  | zero=>simp at hi;subst hi;simp
  | succ i =>
   have:=ih (i:=i) (by simpa using hi)
   constructor
   ·have h1:=congrArg (c::·) this.1;simpa using h1
   ·simp[this.2]
theorem kF{T:List (Addr×Obj)}{i:Nat}{a:Addr}{o o':Obj}(hi:T[i]? = some (a,o)):(T.set i (a,o')).map (·.1)=T.map (·.1):=by
 obtain⟨e1,e2⟩:=dG (b:=(a,o')) hi
 rw[e2]
 conv=>rhs;rw[e1]
 simp
theorem aD{Q:UP}(i:Nat)(G:Gd K tabs hb)(S:St hb tabs L l T s.heap)(hx:(x,(⟨.ref C,some dx,.plain,sl⟩:Obj))∈T)(hi:T[i]? = some (dx,od))(hf:aY od fl)(hp:Put fl name v fl')
  (h:∀ h' od',St hb tabs L l (T.set i (dx,od')) h'→aY od' fl'→Q () (wht s h' (s.toks+2)))
  (hz:Nat.ble fl'.length 1000=true:=by kernel_rfl)
  (hs:findIn K (.ref C) "__setattr__" = some (some (.builtin "object.__setattr__")):=by kernel_rfl) (hpo:plainOver K C=true:=by kernel_rfl) (ht:takerIn K C name=some none:=by kernel_rfl) (hh:hasDictIn K C=true:=by kernel_rfl) :
  wpAny (model prog w) A (setAttr (.ref x) name v) Q E s:=by
 obtain⟨es,n,rfl,he,nd⟩:=hf
 obtain⟨m,TL,F,N,hl,ndl,hTL,back⟩:=S.toK
 obtain⟨e1,-⟩:=dG (b:=(dx,dictOf es n)) hi
 have hdm:=List.mem_of_getElem? hi
 have hdn:=S.new _ hdm
 have e3:TL++T=(TL++T.take i)++(dx,dictOf es n)::T.drop (i+1):=by rw[List.append_assoc,← e1]
 rw[e3] at N
 have ndT:=(List.nodup_cons.mp S.nd).2
 have ndT':((T.take i).map (·.1)++dx::(T.drop (i+1)).map (·.1)).Nodup:=by
  have:T.map (·.1)=(T.take i).map (·.1)++dx::(T.drop (i+1)).map (·.1):=by
   conv=>lhs;rw[e1]
   simp
  rw[← this];exact ndT
 obtain⟨-,nd2,nd3⟩:=List.nodup_append.mp ndT'
 have I:InstAt s.heap x (⟨.ref C,some dx,.plain,sl⟩:Obj) C (some (dictOf es n)):=⟨S.obj _ hx,rfl,rfl,S.obj _ hdm⟩
 have he':=he.put (hsh:=PyData.keyHash w.params name) (t:=s.toks+1) hp
 refine set_plain (S.kin G) I hs (osa_dict (s:=(wt s (s.toks+1))) F N (S.kin G) I rfl hpo ht hh (by rw[lookIn_dict];exact he.known) (fun p hp'=>?_) (fun p hp'=>?_) (by rw[putName_dict]) rfl
  (by rw[he'.len];exact Nat.le_of_ble_eq_true hz) fun h' F' N'=>?_)
 ·rcases List.mem_append.mp hp' with q | q
  ·exact Nat.ne_of_lt (Nat.lt_of_lt_of_le (hTL p q) hdn)
  ·exact nd3 _ (List.mem_map.mpr ⟨p,q,rfl⟩) _ (.head _)
 ·intro e
  exact (List.nodup_cons.mp nd2).1 (e▸List.mem_map.mpr ⟨p,hp',rfl⟩)
 ·refine h h' (dictOf (putL name (PyData.keyHash w.params name) (.str name (s.toks+1)) v es) (putN name es n)) (back h' m (T.set i (dx,dictOf (putL name (PyData.keyHash w.params name) (.str name (s.toks+1)) v es) (putN name es n))) l F' ?_ hl ndl (fun p hp'=>?_) (by rw[kF hi];exact S.nd)) ⟨_,_,rfl,he',jG hp nd⟩
  ·rw[(dG hi).2,← List.append_assoc];exact N'
  ·rcases List.mem_or_eq_of_mem_set hp' with q | rfl
   ·exact S.new p q
   ·exact hdn
end
end
section
structure Kp(s s':Shared):Prop where
 os:s'.os=s.os
 gens:AllBare s.gens→AllBare s'.gens
theorem Kp.refl{s:Shared}:Kp s s:=⟨rfl,id⟩
theorem Kp.trans{a b c:Shared}(h:Kp a b)(k:Kp b c):Kp a c:=⟨k.os.trans h.os,fun z=>k.gens (h.gens z)⟩
theorem Kp.with{a b:Shared}(k:Kp a b){h:Heap}{t:Tok}:Kp a (wht b h t):=⟨k.os,k.gens⟩
section
variable{hb h h':Heap}{tabs:List Addr}{L:Addr}{l l':List (Str×Value)}{T T' own:List (Addr×Obj)}
theorem St.perm(S:St hb tabs L l T h)(p:T.Perm T'):St hb tabs L l T' h :=
 ⟨S.fm,S.lnew,S.keep,S.tab,fun q hq=>S.obj q (p.symm.subset hq),fun q hq=>S.new q (p.symm.subset hq),((List.Perm.cons L (p.map _)).nodup_iff).mp S.nd⟩
theorem St.last{p:Addr×Obj}(S:St hb tabs L l (p::T) h):St hb tabs L l (T++[p]) h:=S.perm (List.perm_append_comm (l₁:=[p]))
theorem St.front{p:Addr×Obj}(S:St hb tabs L l (T++[p]) h):St hb tabs L l (p::T) h:=S.perm (List.perm_append_comm (l₂:=[p]))
theorem St.drop(S:St hb tabs L l (T++own) h)(hk:∀ b o,b∉own.map (·.1)→h.get? b=some o→h'.get? b=some o):St hb tabs L l T h':=by
 have nd:=List.nodup_cons.mp S.nd
 rw[List.map_append] at nd
 have hL:L∉own.map (·.1):=fun q=>nd.1 (List.mem_append_right _ q)
 obtain⟨-,-,n3⟩:=List.nodup_append.mp nd.2
 have hT:∀ p∈T,p.1∉own.map (·.1):=fun p hp q=>n3 _ (List.mem_map.mpr ⟨p,hp,rfl⟩) _ q rfl
 have gq:∀ b,b<hb.objs.size→b∉own.map (·.1):=fun b hlt q=>by
  obtain⟨p,hp,e⟩:=List.mem_map.mp q
  have:=S.new p (List.mem_append_right _ hp)
  rw[e] at this
  exact absurd hlt (Nat.not_lt.mpr this)
 obtain⟨oL,e,r⟩:=S.fm
 refine⟨⟨oL,hk _ _ hL e,r⟩,S.lnew,fun b o e hn=>hk b o (gq b (bP e)) (S.keep b o e hn),fun t ht=>?_,fun p hp=>hk _ _ (hT p hp) (S.obj p (List.mem_append_left _ hp)),fun p hp=>S.new p (List.mem_append_left _ hp),?_⟩
 ·obtain⟨ps,more,e1,e2,e3⟩:=S.tab t ht
  exact⟨ps,more,e1,hk _ _ (gq t (bP e1)) e2,e3⟩
 ·exact List.nodup_cons.mpr ⟨fun q=>nd.1 (List.mem_append_left _ q),(List.nodup_append.mp nd.2).1⟩
theorem St.moved(S:St hb tabs L l (T++own) h)(hk:∀ b o,b∉own.map (·.1)→h.get? b=some o→h'.get? b=some o)(hex:∀ b∈own.map (·.1),∃ o,h'.get? b=some o) :
  ∃ own',own'.map (·.1)=own.map (·.1)∧St hb tabs L l (T++own') h':=by
 have S1:=S.drop hk
 have hm:(own.map fun p=>(p.1,(h'.get? p.1).getD default)).map (·.1)=own.map (·.1):=by rw[List.map_map];rfl
 refine⟨own.map fun p=>(p.1,(h'.get? p.1).getD default),hm,S1.fm,S1.lnew,S1.keep,S1.tab,fun p hp=>?_,fun p hp=>?_,?_⟩
 ·rcases List.mem_append.mp hp with q | q
  ·exact S1.obj p q
  ·obtain⟨p',hp',rfl⟩:=List.mem_map.mp q
   obtain⟨o,e⟩:=hex p'.1 (List.mem_map.mpr ⟨p',hp',rfl⟩)
   show h'.get? p'.1=some ((h'.get? p'.1).getD default)
   rw[e];rfl
 ·rcases List.mem_append.mp hp with q | q
  ·exact S1.new p q
  ·obtain⟨p',hp',rfl⟩:=List.mem_map.mp q
   exact S.new p' (List.mem_append_right _ hp')
 ·rw[List.map_append,hm,← List.map_append];exact S.nd
end
abbrev nF(hb:Heap)(tabs:List Addr)(L:Addr)(own Ro:List (Addr×Obj))(J:List (Str×Value)→List (Addr×Obj)→Prop)(s:Shared)(R:Result→Shared→Prop)(f:Flow)(s3:Shared):Prop:=match f with
 | .next | .cont=>Ex2 fun l₂ T₂=>An4 (St hb tabs L l₂ (T₂++own) s3.heap) (J l₂ T₂) (∀ p∈Ro,p∈T₂) (Kp s s3)
 | .brk=>R (.ok .next) s3
 | .ret v=>R (.ok (.ret v)) s3
abbrev qZ(hb:Heap)(tabs:List Addr)(L:Addr)(own Ro:List (Addr×Obj))(J:Tok→List (Str×Value)→List (Addr×Obj)→Prop)(s:Shared)(R:Result→Shared→Prop)(f:Flow)(s3:Shared):Prop:=match f with
 | .next | .cont=>Ex2 fun l₂ T₂=>An4 (St hb tabs L l₂ (T₂++own) s3.heap) (J s3.toks l₂ T₂) (∀ p∈Ro,p∈T₂) (Kp s s3)
 | .brk=>R (.ok .next) s3
 | .ret v=>R (.ok (.ret v)) s3
abbrev lh(M:Model)(A:Around)(env:Env)(E:VP)(body:List Stmt)(B:FP)(_:Unit)(s:Shared):Prop:=wpAny M A (execs body env) B E s
abbrev rd(M:Model)(A:Around)(env:Env)(E:VP)(rest:List Stmt)(Q:FP)(r:Result)(s:Shared):Prop:=match r with
 | .ok .next=>wpAny M A (execs rest env) Q E s
 | .ok f=>Q f s
 | .error e=>cameBackBy M A env E e s
abbrev kLoop(M:Model)(A:Around)(env:Env)(E:VP)(target:Expr)(body rest:List Stmt)(Q:FP)(it:Value)(s:Shared):Prop:=codeAny M A (.forLoop target it body [] env) (rd M A env E rest Q) s
abbrev kIter(M:Model)(A:Around)(env:Env)(E:VP)(target:Expr)(body rest:List Stmt)(Q:FP)(x:Value)(s:Shared):Prop:=wpAny M A (pyIter x) (kLoop M A env E target body rest Q) E s
section
variable{prog:Program}{w:World}{A:Around}{s:Shared}{hb:Heap}{tabs:List Addr}{L:Addr}{l:List (Str×Value)}{T own Ro:List (Addr×Obj)}{env:Env}{target:Expr}{body:List Stmt}{I:Addr}{fp wr:List Addr}{n:Nat}{P:Nat→Value→Prop}{Wt:Nat→Heap→Prop}
theorem dK{R:Result→Shared→Prop}(W:Walks prog w A I fp wr n P Wt)(hex:∀ i h,Wt i h→∀ b∈wr,∃ o,h.get? b=some o)(how:own.map (·.1)=wr)
  (hro:∀ b∈fp,b∉wr→(∃ o,(b,o)∈Ro)∨∃ o,hb.get? b=some o∧b∉tabs) (S:St hb tabs L l (T++own) s.heap) (hst:Wt 0 s.heap)
  (J:Nat→List (Str×Value)→List (Addr×Obj)→Prop) (h0:J 0 l T) (hR0:∀ p∈Ro,p∈T)
  (step:∀ E i v l₁ T1 own1 s₁,i<n→P i v→J i l₁ T1→St hb tabs L l₁ (T1++own1) s₁.heap→(∀ p∈Ro,p∈T1)→Kp s s₁ →
   wpAny (model prog w) A (assign target env v) (lh (model prog w) A env E body (nF hb tabs L own1 Ro (J (i+1)) s R)) E s₁)
  (hR:∀ s' l' T',Kp s s'→St hb tabs L l' T' s'.heap→J n l' T'→(∀ p∈Ro,p∈T')→R (.ok .next) s')
  (ht:∀ v,letOwnedTupleGo target (.ref I) v=pure ():=by intro _;rfl) :
  codeAny (model prog w) A (.forLoop target (.ref I) body [] env) R s:=by
 refine codeAny_forLoop (fun k s'=>Ex4 fun i l₁ T1 own1=>An8 (own1.map (·.1)=wr) (St hb tabs L l₁ (T1++own1) s'.heap) (Wt i s'.heap) (J i l₁ T1) ((∀ p∈Ro,p∈T1)) (Kp s s') (i≤n) (k=n - i)) ?_ n ⟨0,l,T,own,how,S,hst,h0,hR0,Kp.refl,Nat.zero_le _,rfl⟩ ht
 rintro k s' ⟨i,l₁,T1,own1,how1,S_1,hst1,hJ,hRo,hKp,hi,rfl⟩
 by_cases hlt:i<n
 ·refine W.item i _ _ _ hlt hst1 fun v h_1 tk_1 hP hst2 hk_1=>?_
  obtain⟨own2,e_2,S_2⟩:=S_1.moved (h':=h_1) (fun b o hb' e=>hk_1 b o (how1▸hb') e) (fun b hb'=>hex _ _ hst2 b (how1▸hb'))
  refine wpAny_mono (step _ i v l₁ T1 own2 (wht s' h_1 tk_1) hlt hP hJ S_2 hRo hKp.with) (fun _ s_2 h_2=>wpAny_mono h_2 (fun f s3 h_3=>?_) fun _ _ e=>e) fun _ _ e=>e
  have fin:(Ex2 fun l₂ T₂=>An4 (St hb tabs L l₂ (T₂++own2) s3.heap) (J (i+1) l₂ T₂) ((∀ p∈Ro,p∈T₂)) (Kp s s3))→∃ m,m<n - i∧Ex4 fun i l₁ T1 own1=>An8 (own1.map (·.1)=wr) (St hb tabs L l₁ (T1++own1) s3.heap) (Wt i s3.heap) (J i l₁ T1) ((∀ p∈Ro,p∈T1)) (Kp s s3) (i≤n) (m=n - i):=by
   rintro⟨l₂,T₂,S_3,hJ3,hRo3,hKp3⟩
   refine⟨n - (i+1),by exact z8t hlt,i+1,l₂,T₂,own2,e_2.trans how1,S_3,W.frame _ _ _ hst2 fun b hb' o e=>?_,hJ3,hRo3,hKp3,hlt,rfl⟩
   by_cases q:b∈wr
   ·have:b∈own2.map (·.1):=by rw[e_2,how1];exact q
    obtain⟨p,hp,rfl⟩:=List.mem_map.mp this
    have e1:=S_2.obj p (List.mem_append_right _ hp)
    have e2:=S_3.obj p (List.mem_append_right _ hp)
    have e1':h_1.get? p.1=some p.2:=e1
    rw[e1'] at e
    rw[← e];exact e2
   ·rcases hro b hb' q with⟨o',ho'⟩ | ⟨o',ho',hnt⟩
    ·have e1:h_1.get? b=some o':=S_2.obj _ (List.mem_append_left _ (hRo _ ho'))
     rw[e1] at e
     rw[← e];exact S_3.obj _ (List.mem_append_left _ (hRo3 _ ho'))
    ·have e1:h_1.get? b=some o':=S_2.keep _ _ ho' hnt
     rw[e1] at e
     rw[← e];exact S_3.keep _ _ ho' hnt
  cases f with
  | next=>exact fin h_3
  | cont=>exact fin h_3
  | brk=>exact h_3
  | ret v=>exact h_3
 ·have hin:i=n:=by exact z8u hi hlt
  subst hin
  refine W.done _ _ _ hst1 fun h_1 tk_1 hk_1=>wpAny_execs_nil ?_
  exact hR _ l₁ T1 hKp.with (S_1.drop fun b o hb' e=>hk_1 b o (how1▸hb') e) hJ hRo
end
section
variable{prog:Program}{w:World}{A:Around}{E:VP}{s:Shared}{env:Env}{target iter:Expr}{body rest:List Stmt}{pos:Pos}{Q:FP}
theorem el(h:wpAny (model prog w) A (eval iter env) (kIter (model prog w) A env E target body rest Q) E s)
  (hs:∀ x,foldedSetIterable iter env x=pure x:=by intro _;rfl):wpAny (model prog w) A (execs (.For target iter body [] pos::rest) env) Q E s:=by
 refine wpAny_execs_cons (wpAny_For (wpAny_mono h (fun x s₁ h_1=>wpAny_mono h_1 (fun it s_2 h_2=>codeAny_mono h_2 fun r s' z=>?_) fun _ _ e=>e) fun _ _ e=>e) hs)
 rcases r with e | (v | _ | _ | _)<;> exact z
end
end
section
abbrev au (vs:List Value):Obj:={ cls:=.type "tuple", data:=.seq vs.toArray }
abbrev ae (vs:List Value) (n:Nat):Obj:={ cls:=.type "list", data:=.seq vs.toArray n }
section
variable{hb h h':Heap}{tabs:List Addr}{L:Addr}{l l':List (Str×Value)}{T T' own:List (Addr×Obj)}
theorem St.grown(S:St hb tabs L l T h)(hk:∀ b o,h.get? b=some o→h'.get? b=some o):St hb tabs L l T h' :=
 St.drop (own:=[]) ((List.append_nil T).symm▸S) fun b o _ e=>hk b o e
theorem St.extBut(S:St hb tabs L l T h)(he:Heap.ExtBut h.objs.size h h'):St hb tabs L l T h' :=
 S.grown fun b o e=>he b o (Nat.ne_of_lt (bP e)) e
end
section
variable{prog:Program}{w:World}{A:Around}{E:VP}{s:Shared}{K:Frag}{hb:Heap}{tabs:List Addr}{L:Addr}{l l':List (Str×Value)}{T:List (Addr×Obj)}{fd:FuncData}{fa x C dx:Addr}{v f:Value}{name:Str}
 {env:Env}{pos tpos:Pos}{Q:VP}{elts:List Expr}{k:Nat}{value:Expr}{rest:List Stmt}
abbrev kTup(Q:VP)(vs:List Value)(s₁:Shared):Prop:=Nat.ble vs.length 1000=true∧Ex5 fun hb tabs L l T=>St hb tabs L l T s₁.heap∧∀ a h',St hb tabs L l ((a,au vs)::T) h'→Q (.ref a) (wh s₁ h')
abbrev kLst(Q:VP)(vs:List Value)(s₁:Shared):Prop:=Nat.ble vs.length 1000=true∧Ex5 fun hb tabs L l T=>St hb tabs L l T s₁.heap∧∀ a h',St hb tabs L l ((a,ae vs 0)::T) h'→Q (.ref a) (wh s₁ h')
theorem le_line{n:Nat}(h:Nat.ble n 1000=true):n≤sizeLine:=by rw[sizeLine_eq];exact Nat.le_trans (Nat.le_of_ble_eq_true h) (by decide)
theorem aX(h:wpAny (model prog w) A (spliced (backTo pos (starEach elts env))) (kTup Q) E s) :
  wpAny (model prog w) A (eval (.Tuple elts k pos) env) Q E s :=
 wpAny_Tuple (wpAny_mono h (fun vs s₁ ⟨hz,_,_,_,_,_,S,z⟩=>⟨le_line hz,z _ _ (S.push _)⟩) fun _ _ z=>z)
theorem bc(h:wpAny (model prog w) A (spliced (backTo pos (starEach elts env))) (kLst Q) E s) :
  wpAny (model prog w) A (eval (.List elts pos) env) Q E s :=
 wpAny_List (wpAny_mono h (fun vs s₁ ⟨hz,_,_,_,_,_,S,z⟩=>⟨le_line hz,z _ _ (S.push _)⟩) fun _ _ z=>z)
theorem dY{Q:FP}{elts vals:List Expr}{vk:Nat}{vpos:Pos}(names:List Str)(h:wpAny (model prog w) A (spliced (backTo vpos (starEach vals env))) (fun vs s₁=>vs.length=names.length∧Nat.ble vs.length 1000=true∧A.handled=none∧Ex5 fun hb tabs L l T=>St hb tabs L l T s₁.heap∧∀ h',
   St hb tabs L l T h'→wpAny (model prog w) A (assignInOrder (names.reverse.map fun n=>bindName env n) vs.reverse) (fun _ s_2=>wpAny (model prog w) A (execs rest env) Q E s_2) E (wh s₁ h')) E s)
  (hw:swappedStores [.Tuple elts k tpos] (.Tuple vals vk vpos) env=pure (some names):=by kernel_rfl) :
  wpAny (model prog w) A (execs (.Assign [.Tuple elts k tpos] (.Tuple vals vk vpos) pos::rest) env) Q E s:=by
 refine wpAny_execs_cons (Assign_Tuple_swapped (aX (wpAny_mono h (fun vs s₁ z=>?_) fun _ _ z=>z)) rfl hw)
 obtain⟨hl,hz,hh,_,_,_,_,_,S,z⟩:=z
 refine⟨hz,_,_,_,_,_,S,fun a h' S'=>?_⟩
 have ht:IsTup h' a vs.toArray:=⟨_,S'.get 0 rfl,rfl,_,rfl⟩
 have e:names.length=vs.toArray.size:=by rw[List.size_toArray];exact hl.symm
 rw[e]
 refine unpackItems_tuple hh ht fun h_2 he=>?_
 rw[List.toList_toArray]
 exact z _ ((S'.sub (List.sublist_cons_self _ _)).extBut he)
theorem eg{xs:List Value}{Q:UP}(h:Q () s):wpAny (model prog w) A (assignInOrder [] xs) Q E s:=assignInOrder_nil h
theorem aU{n:Str}{ts:List (Value→Sem Unit)}{y:Value}{xs:List Value}{Q:UP}(h:wpAny (model prog w) A (storeName env n y) (kOrd (model prog w) A E ts xs Q) E s) :
  wpAny (model prog w) A (assignInOrder ((fun v=>bindName env n v)::ts) (y::xs)) Q E s:=assignInOrder_cons (bindName_ h)
theorem bg{o:Expr}(h:wpAny (model prog w) A (eval o env) (kDot (model prog w) A E name Q) E s)
  (he:eval (.Attribute o name pos) env=(do
   let v ← eval o env
   standAt pos.atName
   let r ← holding [v] (getAttr v name true)
   letTemporaryGo o v r
   pure r):=by with_unfolding_all rfl):wpAny (model prog w) A (eval (.Attribute o name pos) env) Q E s:=Attribute_any_ h he
theorem ap{func:Expr}{args:List Expr}(h:wpAny (model prog w) A (eval func env) (nG (model prog w) A env E pos args Q) E s)
  (he:eval (.Call func args [] pos) env=(do callWith pos (← eval func env) [] (backTo pos (starEach args env)) (backToKw pos (keywordEach [] env))):=by rfl) :
  wpAny (model prog w) A (eval (.Call func args [] pos) env) Q E s:=Call_ h he
theorem r_min{a b:Int}{t u:Tok}(hh:A.handled=none)(S:St hb tabs L l T s.heap)
  (h:∀ h' tk t',St hb tabs L l T h'→Q (.int (min a b) t') (wht s h' tk)):wpAny (model prog w) A (call (.builtin "min") [.int a t,.int b u]) Q E s :=
 min_two_ints hh fun h' tk hk=>by
  have:=fun t'=>h h' tk t' (S.grown hk)
  by_cases c:b<a
  ·rw[Int.min_def,if_neg (by exact zb9 c)] at this
   rw[if_pos c];exact this _
  ·rw[Int.min_def,if_pos (by exact zba c)] at this
   rw[if_neg c];exact this _
end
end
section
open PySem.Spec
abbrev dict0:Obj:={ cls:=.type "dict", data:=.dict #[] }
section
variable{prog:Program}{w:World}{hb h h':Heap}{tabs:List Addr}{L:Addr}{l l':List (Str×Value)}{T:List (Addr×Obj)}{K:Type}[DecidableEq K]{knd:KeyKind prog w K}
theorem cy:dict0.IsDictOf knd []:=by
 obtain⟨o,ho,hd⟩:=Heap.dictOf_iff.mp (Heap.DictOf.new (knd:=knd) {})
 rw[Heap.get?_push_size _ rfl] at ho
 have e:=Option.some.inj ho
 rw[← e] at hd
 exact hd
theorem St.change(S:St hb tabs L l T h)(i:Nat){a:Addr}{o o':Obj}(hi:T[i]? = some (a,o))(hs:Heap.SameBut a h h')(ho:h'.get? a=some o'):St hb tabs L l (T.set i (a,o')) h':=by
 have e:=(dG (b:=(a,o')) hi)
 have S1:St hb tabs L l ((T.take i++T.drop (i+1))++[(a,o)]) h:=S.perm (by
  conv=>lhs;rw[e.1]
  rw[List.append_assoc]
  exact List.Perm.append_left _ (List.perm_append_comm (l₁:=[(a,o)])))
 obtain⟨own',hm,S2⟩:=S1.moved (h':=h') (fun b x hb' hx=>(hs.2 b (fun q=>hb' (by rw[q];exact .head _))).trans hx) (fun b hb'=>by
  rw[List.map_cons,List.map_nil,List.mem_singleton] at hb'
  exact⟨o',by rw[hb'];exact ho⟩)
 rcases own' with _ | ⟨⟨a',o''⟩,r⟩
 ·cases hm
 ·rw[List.map_cons,List.map_cons,List.map_nil] at hm
  obtain⟨ha,hr⟩:=List.cons.inj hm
  rw[List.map_eq_nil_iff] at hr
  subst hr
  have ha':a'=a:=ha
  subst ha'
  have h2:h'.get? a'=some o'':=S2.obj (a',o'') (List.mem_append_right _ (.head _))
  rw[ho] at h2
  have e2:=Option.some.inj h2
  subst e2
  refine S2.perm ?_
  rw[e.2,List.append_assoc]
  exact List.Perm.append_left _ (List.perm_append_comm (l₂:=[(a',o')]))
theorem St.notMods{K:Frag}(S:St hb tabs L l T h)(G:Gd K tabs hb){p:Addr×Obj}(hp:p∈T):(p.1 == sysModules)=false :=
 beq_eq_false_iff_ne.mpr (Nat.ne_of_gt (Nat.lt_of_lt_of_le (modules_low G.lim) (S.new p hp)))
end
section
variable{prog:Program}{w:World}{A:Around}{E:VP}{s:Shared}{F:Frag}{hb:Heap}{tabs:List Addr}{L d:Addr}{l l':List (Str×Value)}{T:List (Addr×Obj)}{env:Env}{pos:Pos}{Q:VP}{o:Obj}
 {K:Type} [DecidableEq K] {knd:KeyKind prog w K}{kvs:List (K×Value)}{k:K}{key v dflt:Value}
theorem dW(S:St hb tabs L l T s.heap)(h:∀ d h',St hb tabs L l ((d,dict0)::T) h'→Q (.ref d) (wh s h')):wpAny (model prog w) A (eval (.Dict [] [] pos) env) Q E s :=
 wpAny_Dict_empty (h _ _ (S.push _))
theorem d8(S:St hb tabs L l T s.heap)(hm:(d,o)∈T)(hd:o.IsDictOf knd kvs):s.heap.DictOf knd d kvs:=Heap.dictOf_iff.mpr ⟨o,S.obj _ hm,hd⟩
theorem dT{Q:UP}(i:Nat)(S:St hb tabs L l T s.heap)(hi:T[i]? = some (d,o))(hd:o.IsDictOf knd kvs)(hkey:knd.is k key=true)
  (h:∀ h' o',St hb tabs L l (T.set i (d,o')) h'→o'.IsDictOf knd (stored kvs k v)→Q () (wht s h' (s.toks+1))) (hz:kvs.length≤1000) :
  wpAny (model prog w) A (setItem (.ref d) key v) Q E s :=
 wpAny_setItem_pairs (hsz:=by rw[sizeLine_eq];exact up 16776216 hz) hkey (d8 S (List.mem_of_getElem? hi) hd) fun h' hm hs=>by
  obtain⟨o',ho',hd'⟩:=Heap.dictOf_iff.mp hm
  exact h h' o' (S.change i hi hs ho') hd'
theorem jz(S:St hb tabs L l T s.heap)(hm:(d,o)∈T)(hd:o.IsDictOf knd kvs)(hkey:knd.is k key=true)(hv:valueAt kvs k=some v)(h:Q v (wt s (s.toks+1))) :
  wpAny (model prog w) A (getItem (.ref d) key) Q E s:=wpAny_getItem_of hkey (d8 S hm hd).mapOf hv h
theorem jA(G:Gd F tabs hb)(S:St hb tabs L l T s.heap)(hm:(d,o)∈T)(hd:o.IsDictOf knd kvs)(hkey:knd.is k key=true)(h:Q ((valueAt kvs k).getD dflt) (wt s (s.toks+1))) :
  wpAny (model prog w) A (call (.builtin "dict.get") [.ref d,key,dflt]) Q E s :=
 have hD:=d8 S hm hd
 call_meetsIn PySem.F.slot_dict_get hD.typeIs PySem.F.entry_dict_get (PySem.F.args_dict_get_3 _ _ _) (meets_dict_get_default knd d hkey (S.notMods G hm) dflt) ⟨_,hD.mapOf,h⟩
theorem fS(i:Nat)(G:Gd F tabs hb)(S:St hb tabs L l T s.heap)(hi:T[i]? = some (d,o))(hd:o.IsDictOf knd kvs)(hkey:knd.is k key=true)
  (h1:∀ v,valueAt kvs k=some v→Q v (wt s (s.toks+1)))
  (h2:valueAt kvs k=none→∀ h' o',St hb tabs L l (T.set i (d,o')) h'→o'.IsDictOf knd (stored kvs k dflt)→Q dflt (wht s h' (s.toks+1))) (hz:kvs.length≤1000) :
  wpAny (model prog w) A (call (.builtin "dict.setdefault") [.ref d,key,dflt]) Q E s :=
 have hm:=List.mem_of_getElem? hi
 have hD:=d8 S hm hd
 call_meetsIn PySem.F.slot_dict_setdefault hD.typeIs PySem.F.entry_dict_setdefault (PySem.F.args_dict_setdefault_3 _ _ _) (kt_meets_setdefault knd d hkey (S.notMods G hm) dflt)
  ⟨kvs,hD,by rw[sizeLine_eq];exact up 16776216 hz,fun v hv=>h1 v hv,fun hn h' hmm hs=>by
   obtain⟨o',ho',hd'⟩:=Heap.dictOf_iff.mp hmm
   exact h2 hn h' o' (S.change i hi hs ho') hd'⟩
end
end
section
section
variable{prog:Program}{w:World}{A:Around}{E:VP}{s:Shared}{K:Frag}{hb:Heap}{tabs:List Addr}{L:Addr}{l:List (Str×Value)}{T:List (Addr×Obj)}{env:Env}{pos:Pos}
theorem nI{Q:VP}{y z:Str}{u v:Tok}(NB:NoneBooked s.heap)(hu:u≠0)(hv:v≠0)(ht:u=v→y=z)(h:∀ c:Bool,(c=true→y=z)→Q (.bool c) s) :
  wpAny (model prog w) A (compareOp .Is (.str y u) (.str z v)) Q E s:=by
 have key:∀ {Q:BP},(∀ c:Bool,(c=true→y=z)→Q c s)→wpAny (model prog w) A (isSame (.str y u) (.str z v)) Q E s:=by
  intro Q h
  show wpAny (model prog w) A (isSame.created (y == z) u v) Q E s
  unfold isSame.created
  have h0:(u == 0 || v == 0)=false:=by
   cases q:(u == 0 || v == 0) with
   | false=>rfl
   | true =>
    rcases Bool.or_eq_true_iff.mp q with q | q
    ·exact absurd (beq_iff_eq.mp q) hu
    ·exact absurd (beq_iff_eq.mp q) hv
  refine KFB.if_not h0 ?_
  by_cases huv:u=v
  ·refine KFB.if_so (beq_iff_eq.mpr huv) (wpAny_pure (h true fun _=>ht huv))
  ·refine KFB.if_not (beq_eq_false_iff_ne.mpr huv) ?_
   by_cases hyz:y=z
   ·refine KFB.if_not (by rw[beq_iff_eq.mpr hyz];rfl) ?_
    refine wpAny_bind (wpAny_sharingNotTold_none NB ?_)
    refine KFB.if_not rfl ?_
    refine wpAny_bind (wpAny_sharingNotTold_none NB ?_)
    refine KFB.if_not rfl ?_
    refine wpAny_bind (wpAny_rule ?_)
    refine wpAny_bind (wpAny_askSetting ?_)
    exact wpAny_pure (h _ fun _=>hyz)
   ·refine KFB.if_so (by rw[beq_eq_false_iff_ne.mpr hyz];rfl) (wpAny_pure (h false fun q=>by cases q))
 show wpAny (model prog w) A (do return .bool (← isSame (.str y u) (.str z v))) Q E s
 exact wpAny_bind (key fun c hc=>wpAny_pure (h c hc))
theorem bH{o:Expr}{name:Str}{v:Value}{Q:UP}(h:wpAny (model prog w) A (eval o env) (lf (model prog w) A E name v Q) E s) :
  wpAny (model prog w) A (assign (.Attribute o name pos) env v) Q E s:=by
 rw[assign_Attribute]
 exact wpAny_bind (wpAny_holding (wpAny_mono h (fun ov s₁ z=>wpAny_bind (wpAny_standAt (wpAny_bind (wpAny_holding (wpAny_mono z (fun _ s_2 z=>fun Γ p hΓ=>by simp only[Sem.wp_release];exact z) fun _ _ z=>z))))) fun _ _ z=>z))
theorem aT{x:Str}{v:Value}{Q:UP}(h:wpAny (model prog w) A (storeName env x v) Q E s):wpAny (model prog w) A (assign (.Name x pos) env v) Q E s:=assign_Name h
end
end
section
section
variable{prog:Program}{w:World}{A:Around}{s:Shared}{hb:Heap}{tabs:List Addr}{L:Addr}{l:List (Str×Value)}{T own Ro:List (Addr×Obj)}{env:Env}{body:List Stmt}{I:Addr}{fp wr:List Addr}{n:Nat}{Pt:Nat→Array Value→Prop}{Wt:Nat→Heap→Prop}{Mid:Nat→Addr→Heap→Prop}
 {elts:List Expr}{x1:Nat}{tpos:Pos}
theorem ga{R:Result→Shared→Prop}(hh:A.handled=none)(W:WalksU prog w A I fp wr n Pt Wt Mid)(hex:∀ i h,Wt i h→∀ b∈wr,∃ o,h.get? b=some o)(how:own.map (·.1)=wr)
  (hro:∀ b∈fp,b∉wr→(∃ o,(b,o)∈Ro)∨∃ o,hb.get? b=some o∧b∉tabs) (S:St hb tabs L l (T++own) s.heap) (hst:Wt 0 s.heap)
  (J:Nat→List (Str×Value)→List (Addr×Obj)→Prop) (h0:J 0 l T) (hR0:∀ p∈Ro,p∈T)
  (hsz:∀ i vals,Pt i vals→(assignEach elts env).length=vals.size) (hstar:(assignEach elts env).findIdx? (·.1)=none)
  (step:∀ E i vals l₁ T1 own1 s₁,i<n→Pt i vals→J i l₁ T1→St hb tabs L l₁ (T1++own1) s₁.heap→(∀ p∈Ro,p∈T1)→Kp s s₁ →
   wpAny (model prog w) A (assignInOrder ((assignEach elts env).map (·.2)) vals.toList) (lh (model prog w) A env E body (nF hb tabs L own1 Ro (J (i+1)) s R)) E s₁)
  (hR:∀ s' l' T',Kp s s'→St hb tabs L l' T' s'.heap→J n l' T'→(∀ p∈Ro,p∈T')→R (.ok .next) s') :
  codeAny (model prog w) A (.forLoop (.Tuple elts x1 tpos) (.ref I) body [] env) R s:=by
 refine codeAny_forLoop_any (fun k s'=>Ex4 fun i l₁ T1 own1=>An8 (own1.map (·.1)=wr) (St hb tabs L l₁ (T1++own1) s'.heap) (Wt i s'.heap) (J i l₁ T1) ((∀ p∈Ro,p∈T1)) (Kp s s') (i≤n) (k=n - i)) ?_ n ⟨0,l,T,own,how,S,hst,h0,hR0,Kp.refl,Nat.zero_le _,rfl⟩
 rintro k s' ⟨i,l₁,T1,own1,how1,S_1,hst1,hJ,hRo,hKp,hi,rfl⟩
 by_cases hlt:i<n
 ·refine W.item i _ _ _ hlt hst1 fun tu vals h_1 tk_1 hP htu hmid hk_1=>?_
  refine W.go elts x1 tpos i tu _ _ _ hmid fun h_2 hst2 hk2=>?_
  have ht_2:h_2.IsTuple tu vals:=htu.at fun o e=>hk2 tu o (W.apart i tu h_1 hmid) e
  obtain⟨own2,e_2,S_2⟩:=S_1.moved (h':=h_2) (fun b o hb' e=>hk2 b o (how1▸hb') (hk_1 b o (how1▸hb') e)) (fun b hb'=>hex _ _ hst2 b (how1▸hb'))
  refine wpAny_assign_Tuple hh ht_2 (hsz i vals hP) hstar fun h_3 hx3=>?_
  replace hx3:Heap.ExtBut h_2.objs.size h_2 h_3:=hx3
  have S_3:=S_2.extBut hx3
  have hst3:Wt (i+1) h_3:=W.frame _ _ _ hst2 fun b hb' o e=>hx3 b o (Nat.ne_of_lt (Heap.lt_size e)) e
  refine wpAny_mono (step _ i vals l₁ T1 own2 (wht s' h_3 tk_1) hlt hP hJ S_3 hRo hKp.with) (fun _ s_2 h_2'=>wpAny_mono h_2' (fun f s3 h3'=>?_) fun _ _ e=>e) fun _ _ e=>e
  have fin:(Ex2 fun l₂ T₂=>An4 (St hb tabs L l₂ (T₂++own2) s3.heap) (J (i+1) l₂ T₂) ((∀ p∈Ro,p∈T₂)) (Kp s s3))→∃ m,m<n - i∧Ex4 fun i l₁ T1 own1=>An8 (own1.map (·.1)=wr) (St hb tabs L l₁ (T1++own1) s3.heap) (Wt i s3.heap) (J i l₁ T1) ((∀ p∈Ro,p∈T1)) (Kp s s3) (i≤n) (m=n - i):=by
   rintro⟨l₂,T₂,S4,hJ3,hRo3,hKp3⟩
   refine⟨n - (i+1),by exact z8t hlt,i+1,l₂,T₂,own2,e_2.trans how1,S4,W.frame _ _ _ hst3 fun b hb' o e=>?_,hJ3,hRo3,hKp3,hlt,rfl⟩
   by_cases q:b∈wr
   ·have:b∈own2.map (·.1):=by rw[e_2,how1];exact q
    obtain⟨p,hp,rfl⟩:=List.mem_map.mp this
    have e1:h_3.get? p.1=some p.2:=S_3.obj p (List.mem_append_right _ hp)
    have e2:=S4.obj p (List.mem_append_right _ hp)
    rw[e1] at e
    rw[← e];exact e2
   ·rcases hro b hb' q with⟨o',ho'⟩ | ⟨o',ho',hnt⟩
    ·have e1:h_3.get? b=some o':=S_3.obj _ (List.mem_append_left _ (hRo _ ho'))
     rw[e1] at e
     rw[← e];exact S4.obj _ (List.mem_append_left _ (hRo3 _ ho'))
    ·have e1:h_3.get? b=some o':=S_3.keep _ _ ho' hnt
     rw[e1] at e
     rw[← e];exact S4.keep _ _ ho' hnt
  cases f with
  | next=>exact fin h3'
  | cont=>exact fin h3'
  | brk=>exact h3'
  | ret v=>exact h3'
 ·have hin:i=n:=by exact z8u hi hlt
  subst hin
  refine W.done _ _ _ hst1 fun h_1 tk_1 hk_1=>wpAny_execs_nil ?_
  exact hR _ l₁ T1 hKp.with (S_1.drop fun b o hb' e=>hk_1 b o (how1▸hb') e) hJ hRo
theorem toU(W:WalksT prog w A I fp wr n Pt Wt Mid):WalksU prog w A I fp wr n Pt Wt Mid :=
 ⟨W.sub,W.frame,fun i s Q E hi st hQ=>W.item i s Q E hi st fun T vals h' tk a _ c d e=>hQ T vals h' tk a c d e,W.go,W.apart,W.done,W.self⟩
end
section
variable{hb h h':Heap}{tabs:List Addr}{L:Addr}{l:List (Str×Value)}{T own:List (Addr×Obj)}
theorem St.adds(S:St hb tabs L l T h)(hk:∀ b o,h.get? b=some o→h'.get? b=some o)(ho:∀ p∈own,h'.get? p.1=some p.2)(hn:∀ p∈own,h.objs.size≤p.1)(hd:(own.map (·.1)).Nodup):St hb tabs L l (T++own) h':=by
 have S1:=S.grown hk
 have hsz:hb.objs.size≤h.objs.size:=Nat.le_of_lt (Nat.lt_of_le_of_lt S.lnew S.fm.lt)
 refine⟨S1.fm,S1.lnew,S1.keep,S1.tab,fun p hp=>?_,fun p hp=>?_,?_⟩
 ·rcases List.mem_append.mp hp with q | q
  ·exact S1.obj p q
  ·exact ho p q
 ·rcases List.mem_append.mp hp with q | q
  ·exact S1.new p q
  ·exact Nat.le_trans hsz (hn p q)
 ·rw[List.map_append,← List.cons_append]
  refine List.nodup_append.mpr ⟨S.nd,hd,fun a ha b hb' e=>?_⟩
  obtain⟨p,hp,e2⟩:=List.mem_map.mp hb'
  have h1:=hn p hp
  rw[e2,← e] at h1
  rcases List.mem_cons.mp ha with q | q
  ·rw[q] at h1
   exact absurd S.fm.lt (Nat.not_lt.mpr h1)
  ·obtain⟨p',hp',e3⟩:=List.mem_map.mp q
   rw[← e3] at h1
   exact absurd (S.lt hp') (Nat.not_lt.mpr h1)
end
end
section
open PySem.Spec
namespace B
theorem slot_md_get:Slot "method_descriptor" "__get__" "method_descriptor.__get__" :=
 .of (owner := "method_descriptor") (n := "__get__") (by rw[typeLookup_type,builtinLookup_eq_fast];kernel_rfl) (by decide +kernel) (by decide +kernel) (by decide +kernel)
  (by first | exact .inl (by decide +kernel) | exact .inr (by decide +kernel)) (by rw[isSubtype_type];kernel_rfl)
theorem entry_md_get:entryFor table "method_descriptor.__get__" = some Builtin.«method_descriptor.__get__»:=entryFor_of_tree (by kernel_rfl)
theorem args_md_get (a b c:Value):argsOk "method_descriptor.__get__" ⟨[a,b,c],[]⟩:=by unfold argsOk;kernel_rfl
theorem md_set:typeLookup (.type "method_descriptor") "__set__" = pure none:=by rw[typeLookup_type,builtinLookup_eq_fast];kernel_rfl
theorem md_delete:typeLookup (.type "method_descriptor") "__delete__" = pure none:=by rw[typeLookup_type,builtinLookup_eq_fast];kernel_rfl
theorem type_dict_contains:typeOf (.builtin "dict.__contains__")=pure (.type "method_descriptor"):=by show builtinType _=_;rw[builtinType_eq_fast];kernel_rfl
end B
abbrev bmO (id:String) (d:Addr):Obj:={ cls:=.type "builtin_function_or_method", data:=.fields #[.builtin id,.ref d] }
section
variable{prog:Program}{w:World}{M:Model}{A:Around}{E:VP}{s:Shared}{d:Addr}
theorem iB{P:Fin→Shared→Prop}{id T:String}{o:Obj}(ho:s.heap.get? d=some o)(hc:o.cls=.type T)(htold:Manifest.toldItsClass.contains id=false)
  (hown : ".".intercalate (id.cutAt '.').dropLast=T) (hsub:isSubtype (.type T) (.type T)=pure true) (h:P (.done (.ret (.ref s.heap.objs.size))) (wh s (s.heap.push (bmO id d)))) :
  wpAny M A (Builtin.«method_descriptor.__get__» ⟨[.builtin id,.ref d,.type T],[]⟩) P E s:=by
 unfold Builtin.«method_descriptor.__get__»
 refine wpAny_bind (wpAny_of_eq (a:=(.builtin id,some (.ref d),some (.type T))) (by first | rfl | kernel_rfl) ?_)
 dsimp only
 rw[htold,if_neg Bool.false_ne_true]
 wp_delta
 refine wpAny_bind ?_
 wp_delta
 refine wpAny_bind ?_
 wp_delta
 simp only[hown]
 refine wpAny_pure ?_
 refine wpAny_bind (wpAny_isInstance (T:=T) (b:=true) ⟨o,ho,hc⟩ hsub ?_)
 refine wpAny_pure ?_
 exact wpAny_bind (wpAny_newObj_type (wpAny_pure h))
theorem bY{Q:VP}{id T:String}{o:Obj}(ho:s.heap.get? d=some o)(hc:o.cls=.type T)(htold:Manifest.toldItsClass.contains id=false)
  (hown : ".".intercalate (id.cutAt '.').dropLast=T) (hsub:isSubtype (.type T) (.type T)=pure true) (hty:typeOf (.builtin id)=pure (.type "method_descriptor")) (h:Q (.ref s.heap.objs.size) (wh s (s.heap.push (bmO id d)))) :
  wpAny (model prog w) A (call (.builtin "method_descriptor.__get__") [.builtin id,.ref d,.type T]) Q E s :=
 wpAny_call_entry B.slot_md_get hty B.entry_md_get (iB ho hc htold hown hsub ⟨_,rfl,h⟩) (B.args_md_get _ _ _)
theorem db {P:Fin→Shared→Prop}{o:Obj}{es:Array DictEntry}{k:Nat}{name:Str}{u:Tok}{id:String} (hx:s.heap.get? d=some o) (hc:o.cls=.type "dict") (hdat:o.data=.dict es k) (hd:o.dict=none)
  (hl:typeLookup (.type "dict") name=pure (some (.builtin id))) (hty:typeOf (.builtin id)=pure (.type "method_descriptor")) (htold:Manifest.toldItsClass.contains id=false)
  (hown : ".".intercalate (id.cutAt '.').dropLast = "dict") (hname:(["__module__", "__name__", "__qualname__", "__doc__", "__annotations__"]:List Str).contains name=false)
  (h:P (.done (.ret (.ref s.heap.objs.size))) (wh s (s.heap.push (bmO id d)))) :
  wpAny (model prog w) A (Builtin.«object.__getattribute__» ⟨[.ref d,.str name u],[]⟩) P E s:=by
 obtain⟨c,dct,dat,sl⟩:=o
 simp only at hc hdat hd
 subst hc hdat hd
 obtain⟨hp,g,dr,tk,os⟩:=s
 have hT:(⟨hp,g,dr,tk,os⟩:Shared).TypeIs (.ref d) "dict" := ⟨_,hx,rfl⟩
 have hT2:(⟨hp,g,dr,tk,os⟩:Shared).TypeIs (.builtin id) "method_descriptor" := hty
 have f1:=B.slot_md_get.lookup
 have f2:=B.md_set
 have f3:=B.md_delete
 have hsub:isSubtype (.type "dict") (.type "dict")=pure true:=by rw[isSubtype_type];kernel_rfl
 unfold Builtin.«object.__getattribute__»
 repeat (any_goals (first | assumption | ((with_reducible show wpAny _ _ (call (Value.builtin "method_descriptor.__get__") _ _) _ _ _);refine bY hx rfl htold hown hsub hty ?_) | wp_step))
 simp only[hname,Bool.false_eq_true,if_false]
 repeat (any_goals (first | assumption | ((with_reducible show wpAny _ _ (call (Value.builtin "method_descriptor.__get__") _ _) _ _ _);refine bY hx rfl htold hown hsub hty ?_) | wp_step))
theorem dC {P:Fin→Shared→Prop}{o:Obj}{es:Array (Int×Value)}{k:Nat}{tb:SetTable}{name:Str}{u:Tok}{id:String} (hx:s.heap.get? d=some o) (hc:o.cls=.type "set") (hdat:o.data=.set es k tb) (hd:o.dict=none)
  (hl:typeLookup (.type "set") name=pure (some (.builtin id))) (hty:typeOf (.builtin id)=pure (.type "method_descriptor")) (htold:Manifest.toldItsClass.contains id=false)
  (hown : ".".intercalate (id.cutAt '.').dropLast = "set") (hname:(["__module__", "__name__", "__qualname__", "__doc__", "__annotations__"]:List Str).contains name=false)
  (h:P (.done (.ret (.ref s.heap.objs.size))) (wh s (s.heap.push (bmO id d)))) :
  wpAny (model prog w) A (Builtin.«object.__getattribute__» ⟨[.ref d,.str name u],[]⟩) P E s:=by
 obtain⟨c,dct,dat,sl⟩:=o
 simp only at hc hdat hd
 subst hc hdat hd
 obtain⟨hp,g,dr,tk,os⟩:=s
 have hT:(⟨hp,g,dr,tk,os⟩:Shared).TypeIs (.ref d) "set" := ⟨_,hx,rfl⟩
 have hT2:(⟨hp,g,dr,tk,os⟩:Shared).TypeIs (.builtin id) "method_descriptor" := hty
 have f1:=B.slot_md_get.lookup
 have f2:=B.md_set
 have f3:=B.md_delete
 have hsub:isSubtype (.type "set") (.type "set")=pure true:=by rw[isSubtype_type];kernel_rfl
 unfold Builtin.«object.__getattribute__»
 repeat (any_goals (first | assumption | ((with_reducible show wpAny _ _ (call (Value.builtin "method_descriptor.__get__") _ _) _ _ _);refine bY hx rfl htold hown hsub hty ?_) | wp_step))
 simp only[hname,Bool.false_eq_true,if_false]
 repeat (any_goals (first | assumption | ((with_reducible show wpAny _ _ (call (Value.builtin "method_descriptor.__get__") _ _) _ _ _);refine bY hx rfl htold hown hsub hty ?_) | wp_step))
theorem dy:typeLookup (.type "set") "__getattr__" = pure none:=by rw[typeLookup_type,builtinLookup_eq_fast];kernel_rfl
theorem b6:entryFor table "set.__getattribute__" = some Builtin.«object.__getattribute__» :=
 entryFor_alias (id' := "object.__getattribute__") (by kernel_rfl) (by decide +kernel) (by decide +kernel) (by kernel_rfl)
theorem iV {o:Obj}{es:Array DictEntry}{k:Nat}{name:Str}{id:String}{Q:VP} (hx:s.heap.get? d=some o) (hc:o.cls=.type "dict") (hdat:o.data=.dict es k) (hd:o.dict=none)
  (hl:typeLookup (.type "dict") name=pure (some (.builtin id))) (hty:typeOf (.builtin id)=pure (.type "method_descriptor")) (htold:Manifest.toldItsClass.contains id=false)
  (hown : ".".intercalate (id.cutAt '.').dropLast = "dict") (hname:(["__module__", "__name__", "__qualname__", "__doc__", "__annotations__"]:List Str).contains name=false)
  (h:Q (.ref s.heap.objs.size) (wht s (s.heap.push (bmO id d)) (s.toks+1))) :
  wpAny (model prog w) A (getAttr (.ref d) name true) Q E s:=by
 obtain⟨c,dct,dat,sl⟩:=o
 simp only at hc hdat hd
 subst hc hdat hd
 obtain⟨hp,g,dr,tk,os⟩:=s
 have hT:∀ tk',(⟨hp,g,dr,tk',os⟩:Shared).TypeIs (.ref d) "dict" := fun _=>⟨_,hx,rfl⟩
 have f3:=F.slot_dict_getattribute.lookup
 have f4:=F.slot_dict_getattribute.bind (.ref d)
 have f5:=am_dict_getattr_none
 unfold getAttr getAttrBy
 repeat (any_goals (first | assumption | exact hT _ | ((with_reducible show wpAny _ _ (call (Value.builtin "dict.__getattribute__") _ _) _ _ _);refine wpAny_call_entry F.slot_dict_getattribute (hT _) am_entry_dict_getattribute (db hx rfl rfl rfl hl hty htold hown hname ⟨_,rfl,?_⟩) (F.args_dict_getattribute_2 _ _)) | wp_step))
theorem kb {o:Obj}{es:Array (Int×Value)}{k:Nat}{tb:SetTable}{name:Str}{id:String}{Q:VP} (hx:s.heap.get? d=some o) (hc:o.cls=.type "set") (hdat:o.data=.set es k tb) (hd:o.dict=none)
  (hl:typeLookup (.type "set") name=pure (some (.builtin id))) (hty:typeOf (.builtin id)=pure (.type "method_descriptor")) (htold:Manifest.toldItsClass.contains id=false)
  (hown : ".".intercalate (id.cutAt '.').dropLast = "set") (hname:(["__module__", "__name__", "__qualname__", "__doc__", "__annotations__"]:List Str).contains name=false)
  (h:Q (.ref s.heap.objs.size) (wht s (s.heap.push (bmO id d)) (s.toks+1))) :
  wpAny (model prog w) A (getAttr (.ref d) name true) Q E s:=by
 obtain⟨c,dct,dat,sl⟩:=o
 simp only at hc hdat hd
 subst hc hdat hd
 obtain⟨hp,g,dr,tk,os⟩:=s
 have hT:∀ tk',(⟨hp,g,dr,tk',os⟩:Shared).TypeIs (.ref d) "set" := fun _=>⟨_,hx,rfl⟩
 have f3:=F.slot_set_getattribute.lookup
 have f4:=F.slot_set_getattribute.bind (.ref d)
 have f5:=dy
 unfold getAttr getAttrBy
 repeat (any_goals (first | assumption | exact hT _ | ((with_reducible show wpAny _ _ (call (Value.builtin "set.__getattribute__") _ _) _ _ _);refine wpAny_call_entry F.slot_set_getattribute (hT _) b6 (dC hx rfl rfl rfl hl hty htold hown hname ⟨_,rfl,?_⟩) (F.args_set_getattribute_2 _ _)) | wp_step))
end
end
section
open PySem.Spec
section
variable{prog:Program}{w:World}{M:Model}{A:Around}{E:VP}{s:Shared}{d:Addr}
theorem gR{P:UP}{id T:String}{rest:List Value}{o:Obj}(hx:s.heap.get? d=some o)(hcl:o.cls=.type T)(hnc:∀ c,o.data≠.cls c)(hk:builtinKind id=some .method)(hva:Manifest.varargsMethods.contains id=false)
  (hmod:isSubtype (.type T) (.type "module")=pure false)
  (hargs:(match Manifest.signature? id with | some sig=>Bind.checkArgs id { sig with full:=s!"{Bind.lastOf T}.{Bind.lastOf id}" } ⟨.ref d::rest,[]⟩ | none=>pure ())=pure ()) (h:P () s) :
  wpAny (model prog w) A (checkBoundCall id ⟨.ref d::rest,[]⟩) P E s:=by
 have hT:s.TypeIs (.ref d) T:=⟨o,hx,hcl⟩
 unfold checkBoundCall
 cases hsig:Manifest.signature? id with
 | none=>exact wpAny_pure h
 | some sig =>
 rw[hsig] at hargs
 simp only[hk]
 rw[if_neg (by decide)]
 refine wpAny_bind (wpAny_isInstance hT hmod ?_)
 rw[hva]
 simp only[Bool.or_false,Bool.false_eq_true,if_false]
 unfold isType
 refine wpAny_bind (wpAny_bind (wpAny_load hx (wpAny_pure ?_)))
 refine KFB.if_not (c:=_) (by cases q:o.data<;> first | rfl | exact absurd q (hnc _)) ?_
 refine wpAny_bind (wpAny_typeOf hT ?_)
 dsimp only
 exact wpAny_of_eq hargs h
theorem dh{B:Builtin}{S:PySem.Spec}{Q:VP}{u:Addr}{id T:String}{pos:List Value}(ho:s.heap.get? u=some (bmO id d)){o:Obj}(hx:s.heap.get? d=some o)(hcl:o.cls=.type T)(hnc:∀ c,o.data≠.cls c)(hk:builtinKind id=some .method)(hva:Manifest.varargsMethods.contains id=false)
  (hmod:isSubtype (.type T) (.type "module")=pure false)
  (hargs:(match Manifest.signature? id with | some sig=>Bind.checkArgs id { sig with full:=s!"{Bind.lastOf T}.{Bind.lastOf id}" } ⟨.ref d::pos,[]⟩ | none=>pure ())=pure ()) (hq:plainId id=true)
  (entry:entryFor table id=some B) (g:MeetsIn prog w (B ⟨.ref d::pos,[]⟩) S) (h:S A (wants Q E) s):wpAny (model prog w) A (call (.ref u) pos) Q E s:=by
 refine wpAny_call (codeAny_of_tree ?_)
 show wpAny _ A.in1 (callAny (.ref u) ⟨pos,[]⟩) _ _ s
 simp only[callAny]
 refine wpAny_bind (wpAny_load ho ?_)
 simp only[bmO,show (Value.type "builtin_function_or_method" == Value.type "method" || Value.type "builtin_function_or_method" == Value.type "builtin_function_or_method" || Value.type "builtin_function_or_method" == Value.type "method-wrapper")=true by decide,if_true]
 refine KFB.if_so (by decide) ?_
 refine wpAny_bind (gR hx hcl hnc hk hva hmod hargs ?_)
 refine wpAny_bind (wpAny_pure (wpAny_pure ?_))
 exact⟨plainId_quiet hq _,codeAny_builtin entry (by rw[Around.under_plainId hq];exact g A (wants Q E) s h)⟩
end
section
variable{prog:Program}{w:World}{A:Around}{E:VP}{s:Shared}{F:Frag}{hb:Heap}{tabs:List Addr}{L d u:Addr}{l:List (Str×Value)}{T:List (Addr×Obj)}{pos:Pos}{Q:VP}{o:Obj}{id:String}{first:List Value}{trees:List (Bool×Sem Value)}
 {K:Type} [DecidableEq K] {knd:KeyKind prog w K}{kvs:List (K×Value)}{k:K}{key v dflt:Value}
theorem jB{name:Str}(id:String)(S:St hb tabs L l T s.heap)(hm:(d,o)∈T)(hd:o.IsDictOf knd kvs)(h:∀ u h',St hb tabs L l ((u,bmO id d)::T) h'→Q (.ref u) (wht s h' (s.toks+1)))
  (hl:typeLookup (.type "dict") name=pure (some (.builtin id))) (hty:typeOf (.builtin id)=pure (.type "method_descriptor")) (htold:Manifest.toldItsClass.contains id=false:=by decide +kernel)
  (hown : ".".intercalate (id.cutAt '.').dropLast = "dict" := by decide +kernel) (hname:(["__module__", "__name__", "__qualname__", "__doc__", "__annotations__"]:List Str).contains name=false:=by decide +kernel) :
  wpAny (model prog w) A (getAttr (.ref d) name true) Q E s:=by
 obtain⟨es,ep,hx,hdd,-⟩:=hd
 exact iV (S.obj _ hm) hx.1 hdd hx.2.1 hl hty htold hown hname (h _ _ (S.push _))
theorem cz(h:wpAny (model prog w) A (spliced trees) (fun vs s₁=>s₁.heap.get? u=some (bmO id d)∧wpAny (model prog w) A (call (.ref u) (first++vs)) Q E s₁) E s)(hp:trees.any (·.1)=false:=by rfl) :
  wpAny (model prog w) A (callWith pos (.ref u) first trees []) Q E s:=by
 unfold callWith
 refine wpAny_bind (wpAny_holding (bF hp (wpAny_mono h (fun x s₁ h_1=>wpAny_bind (wpAny_standAt ?_)) fun _ _ x=>x)))
 obtain⟨ho,hcall⟩:=h_1
 simp only[hp,List.any_nil,Bool.or_false]
 refine wpAny_bind (m:=keeperOf (.ref u)) ?_
 unfold keeperOf
 refine wpAny_bind (wpAny_load ho ?_)
 simp only[bmO,show (Value.type "builtin_function_or_method" != Value.type "method")=true by decide,show (Value.type "builtin_function_or_method" == Value.type "builtin_function_or_method" || Value.type "builtin_function_or_method" == Value.type "method-wrapper")=true by decide,if_true]
 refine wpAny_pure ?_
 exact wpAny_bind (wpAny_mono hcall (fun r s_2 hr=>wpAny_bind (wpAny_holding (wpAny_point (wpAny_pure hr)))) fun _ _ x=>x)
theorem ij:isSubtype (.type "dict") (.type "module")=pure false:=by rw[isSubtype_type];kernel_rfl
theorem n6 (G:Gd F tabs hb) (S:St hb tabs L l T s.heap) (hu:(u,bmO "dict.get" d)∈T) (hm:(d,o)∈T) (hd:o.IsDictOf knd kvs) (hkey:knd.is k key=true) (h:Q ((valueAt kvs k).getD dflt) (wt s (s.toks+1))) :
  wpAny (model prog w) A (call (.ref u) [key,dflt]) Q E s:=by
 have hD:=d8 S hm hd
 obtain⟨es,ep,hx,hdd,-⟩:=id hd
 exact dh (T := "dict") (S.obj _ hu) (S.obj _ hm) hx.1 (fun c q=>by rw[hdd] at q;cases q) (by decide +kernel) (by decide +kernel) ij
  (by rw[PySem.signature?_of (id := "dict.get") (n:=['t','e','g']) (o:=['t','c','i','d']) (by kernel_rfl) PySem.F.owner_dict];kernel_rfl) (by decide +kernel) PySem.F.entry_dict_get (meets_dict_get_default knd d hkey (S.notMods G hm) dflt) ⟨_,hD.mapOf,h⟩
theorem gS (G:Gd F tabs hb) (S:St hb tabs L l T s.heap) (hu:(u,bmO "dict.__contains__" d)∈T) (hm:(d,o)∈T) (hd:o.IsDictOf knd kvs) (hkey:knd.is k key=true) (h:Q (.bool (valueAt kvs k).isSome) (wt s (s.toks+1))) :
  wpAny (model prog w) A (call (.ref u) [key]) Q E s:=by
 have hD:=d8 S hm hd
 obtain⟨es,ep,hx,hdd,-⟩:=id hd
 exact dh (T := "dict") (S.obj _ hu) (S.obj _ hm) hx.1 (fun c q=>by rw[hdd] at q;cases q) (by decide +kernel) (by decide +kernel) ij
  (by first | kernel_rfl) (by decide +kernel) entry_dict_contains (meets_dict_contains knd d hkey (S.notMods G hm)) ⟨_,hD.mapOf,h⟩
end
end
section
abbrev bz (led:Bool):Obj:={ cls:=.type "set", dict:=none,data:=.set #[] 0 (.fresh 0 0 led) }
section
variable{hb h h':Heap}{tabs:List Addr}{L:Addr}{l l':List (Str×Value)}{T own:List (Addr×Obj)}
theorem St.forget(S:St hb tabs L l T h)(hs:l'.Sublist l):St hb tabs L l' T h:=by
 obtain⟨oL,e,es,ep,m,a,b,c,d,n⟩:=S.fm
 exact⟨⟨oL,e,es,ep,m,a,b,c,fun p hp=>d p (hs.subset hp),n.sublist (hs.map _)⟩,S.lnew,S.keep,S.tab,S.obj,S.new,S.nd⟩
end
section
variable{prog:Program}{w:World}{A:Around}{E:VP}{s:Shared}{F:Frag}{hb:Heap}{tabs:List Addr}{L d u a:Addr}{l:List (Str×Value)}{T:List (Addr×Obj)}{pos:Pos}{Q:VP}{o:Obj}
 {K:Type} [DecidableEq K] {knd:PySem.KeyKind prog w K}{k:K}{key v:Value}{vs:List Value}{n:Nat}
theorem lL (S:St hb tabs L l T s.heap) (h:∀ a led h',St hb tabs L l ((a,bz led)::T) h'→Q (.ref a) (wh s h')):wpAny (model prog w) A (call (.type "set") []) Q E s :=
 call_set_0 fun led=>h _ led _ (S.push _)
theorem aW(i:Nat)(S:St hb tabs L l T s.heap)(hi:T[i]? = some (d,ae vs n))(h:∀ h',St hb tabs L l (T.set i (d,ae (vs++[v]) (n+1))) h'→Q .none (wh s h'))(hz:vs.length≤10000) :
  wpAny (model prog w) A (call (.builtin "list.append") [.ref d,v]) Q E s :=
 append_at (hsz:=by rw[sizeLine_eq,List.size_toArray];exact up 16767216 hz) (S.obj _ (List.mem_of_getElem? hi)) fun h' hs ho=>h h' (S.change i hi hs (by rw[ho];simp[ae]))
theorem mA(led:Bool){h:Heap}(hx:h.get? d=some (bz led)):h.SetOf knd d (fun _=>false) 0 :=
 ⟨_,#[],0,.fresh 0 0 led,hx,⟨rfl,rfl,rfl⟩,rfl,(fun e he=>by simp at he),(fun k=>⟨fun q=>by simp at q,fun q=>by obtain⟨e,he,_⟩:=q;simp at he⟩),by decide,by cases led<;> decide,rfl⟩
theorem pj{name:Str}(id:String)(led:Bool)(S:St hb tabs L l T s.heap)(hm:(d,bz led)∈T)(h:∀ u h',St hb tabs L l ((u,bmO id d)::T) h'→Q (.ref u) (wht s h' (s.toks+1)))
  (hl:typeLookup (.type "set") name=pure (some (.builtin id))) (hty:typeOf (.builtin id)=pure (.type "method_descriptor")) (htold:Manifest.toldItsClass.contains id=false:=by decide +kernel)
  (hown : ".".intercalate (id.cutAt '.').dropLast = "set" := by decide +kernel) (hname:(["__module__", "__name__", "__qualname__", "__doc__", "__annotations__"]:List Str).contains name=false:=by decide +kernel) :
  wpAny (model prog w) A (getAttr (.ref d) name true) Q E s :=
 kb (S.obj _ hm) rfl rfl rfl hl hty htold hown hname (h _ _ (S.push _))
theorem mz:isSubtype (.type "set") (.type "module")=pure false:=by rw[isSubtype_type];kernel_rfl
theorem cV(hkey:knd.is k key=true)(hsc:key.scannable=true) :
  MeetsIn prog w (Builtin.«frozenset.__contains__» ⟨[.ref a,key],[]⟩) (fun _ R s=>Ex2 fun S n=>s.heap.SetOf knd a S n∧R (.ok (.ret (.bool (S k)))) (wt s (s.toks+1))) :=
 .of_wp fun A R s ⟨S,n,hS,h⟩=>by
  unfold Builtin.«frozenset.__contains__» Builtin.Frozenset.oneOther
  simp only[List.isEmpty_nil,bind_assoc]
  unfold Builtin.Frozenset.addrOf Builtin.Frozenset.withSetAsKey setContains
  refine wpAny_bind (wpAny_pure ?_)
  try dsimp only
  refine wpAny_bind (wpAny_pure ?_)
  try dsimp only
  refine wpAny_bind (wpAny_tryCatch ?_)
  refine wpAny_holding ?_
  refine wpAny_bind (knd.pyHash hkey ?_)
  refine wpAny_bind (wpAny_setFind_of (s:=(wt s (s.toks+1))) hkey hsc hS fun r hr=>?_)
  refine wpAny_pure ?_
  show wpAny _ _ (ret (Value.bool r.isSome)) _ _ _
  rw[hr]
  exact wpAny_pure ⟨_,rfl,h⟩
theorem iu (led:Bool) (S:St hb tabs L l T s.heap) (hu:(u,bmO "set.__contains__" d)∈T) (hm:(d,bz led)∈T) (hkey:knd.is k key=true) (hsc:key.scannable=true) (h:Q (.bool false) (wt s (s.toks+1))) :
  wpAny (model prog w) A (call (.ref u) [key]) Q E s :=
 dh (T := "set") (S.obj _ hu) (S.obj _ hm) rfl (fun c q=>by cases q) (by decide +kernel) (by decide +kernel) mz
  (by first | kernel_rfl) (by decide +kernel) entry_set_contains (cV (knd:=knd) hkey hsc) ⟨_,0,mA led (S.obj _ hm),h⟩
end
end
section
def n9(la:List Str)(i:Nat)(v:Value):Prop:=Ex2 fun c u=>la[i]? = some c∧v=.str c u
structure ItV(prog:Program)(w:World)(hb:Heap)(tabs:List Addr)(Ra:List (Addr×Obj))(I:Addr)(n:Nat)(P:Nat→Value→Prop)(Wt:Nat→Heap→Prop)(fp:List Addr):Prop where
 walks:∀ A:Around,A.handled=none→Walks prog w A I fp [I] n P Wt
 ex:∀ i h,Wt i h→∃ o,h.get? I=some o
 ro:∀ b∈fp,b∉[I]→(∃ o,(b,o)∈Ra)∨∃ o,hb.get? b=some o∧b∉tabs
structure ItU(prog:Program)(w:World)(hb:Heap)(tabs:List Addr)(Ra:List (Addr×Obj))(I:Addr)(wr:List Addr)(n:Nat)(Pt:Nat→Array Value→Prop)(Wt:Nat→Heap→Prop)(Mid:Nat→Addr→Heap→Prop)(fp:List Addr):Prop where
 walks:∀ A:Around,A.handled=none→WalksU prog w A I fp wr n Pt Wt Mid
 ex:∀ i h,Wt i h→∀ b∈wr,∃ o,h.get? b=some o
 ro:∀ b∈fp,b∉wr→(∃ o,(b,o)∈Ra)∨∃ o,hb.get? b=some o∧b∉tabs
structure SqV(prog:Program)(w:World)(hb:Heap)(tabs:List Addr)(Ra:List (Addr×Obj))(va:Value)(la:List Str):Prop where
 len:∀ {A:Around}{E:VP}{s:Shared}{L:Addr}{l:List (Str×Value)}{T:List (Addr×Obj)}{Q:VP},St hb tabs L l T s.heap→(∀ p∈Ra,p∈T) →
  (∀ t tk,Q (.int la.length t) (wt s tk))→wpAny (model prog w) A (call (.builtin "len") [va]) Q E s
 hand:handedIn va=true
 small:la.length≤60
 item:∀ {A:Around}{E:VP}{s:Shared}{L:Addr}{l:List (Str×Value)}{T:List (Addr×Obj)}{Q:VP}{value slice:Expr}{i:Nat}{t:Tok}{c:Str},St hb tabs L l T s.heap→(∀ p∈Ra,p∈T) →
  la[i]? = some c→(∀ u tk,Q (.str c u) (wt s tk))→(∀ o k,subscripted slice false o (.int k t)=operate [o,.int k t] (getItem o (.int k t)))→wpAny (model prog w) A (subscriptTail value slice va (.int i t)) Q E s
 iter:∀ {A:Around}{E:VP}{s:Shared}{L:Addr}{l:List (Str×Value)}{T:List (Addr×Obj)}{Q:VP},St hb tabs L l T s.heap→(∀ p∈Ra,p∈T) →
  (∀ I o Wt fp h',ItV prog w hb tabs Ra I la.length (n9 la) Wt fp→Wt 0 h'→St hb tabs L l (T++[(I,o)]) h'→Q (.ref I) (wh s h'))→wpAny (model prog w) A (pyIter va) Q E s
 enum:∀ {A:Around}{E:VP}{s:Shared}{L:Addr}{l:List (Str×Value)}{T:List (Addr×Obj)}{Q:VP},A.handled=none→St hb tabs L l T s.heap→(∀ p∈Ra,p∈T) →
  (∀ I J o o' Wt Mid fp h',ItU prog w hb tabs Ra I [I,J] la.length (fun i vals=>Ex2 fun t x=>n9 la i x∧vals = #[.int i t,x]) Wt Mid fp→Wt 0 h'→St hb tabs L l (T++[(I,o),(J,o')]) h'→Q (.ref I) (wh s h')) →
  wpAny (model prog w) A (call (.type "enumerate") [va]) Q E s
def ah(x:Str):List Str:=x.cps.toList.map fun c=>⟨#[c]⟩
theorem bj(x:Str):(ah x).length=x.cps.size:=by simp[ah]
theorem cx{x:Str}{i:Nat}{v:Value}(h:SignAt x i v):n9 (ah x) i v:=by
 obtain⟨c,u,e,rfl⟩:=h
 exact⟨⟨#[c]⟩,u,by simp[ah,e],rfl⟩
theorem gJ{x:Str}{i:Nat}{c:Str}(h:(ah x)[i]? = some c):∃ k,x.cps[i]? = some k∧c=⟨#[k]⟩:=by
 unfold ah at h
 rw[List.getElem?_map] at h
 obtain⟨k,e,rfl⟩:=Option.map_eq_some_iff.mp h
 exact⟨k,by simpa using e,rfl⟩
section
variable{prog:Program}{w:World}{hb:Heap}{tabs:List Addr}
theorem bJ{A:Around}{I:Addr}{fp wr:List Addr}{n:Nat}{P P':Nat→Value→Prop}{Wt:Nat→Heap→Prop}(W:Walks prog w A I fp wr n P Wt)(h:∀ i v,P i v→P' i v):Walks prog w A I fp wr n P' Wt :=
 ⟨W.sub,W.frame,fun i s Q E hi st hQ=>W.item i s Q E hi st fun v h' tk a b c=>hQ v h' tk (h _ _ a) b c,W.done,W.self⟩
theorem cD{A:Around}{I:Addr}{fp wr:List Addr}{n:Nat}{P P':Nat→Array Value→Prop}{Wt:Nat→Heap→Prop}{Mid:Nat→Addr→Heap→Prop}(W:WalksU prog w A I fp wr n P Wt Mid)(h:∀ i v,P i v→P' i v):WalksU prog w A I fp wr n P' Wt Mid :=
 ⟨W.sub,W.frame,fun i s Q E hi st hQ=>W.item i s Q E hi st fun T vals h' tk a b c d=>hQ T vals h' tk (h _ _ a) b c d,W.go,W.apart,W.done,W.self⟩
theorem cY{h:Heap}{a b:Addr}{k:Int}{v:Value}(h':IsEnum h a b k v):∃ o,h.get? a=some o:=⟨_,h'⟩
theorem dm(x:Str)(t:Tok)(hx:x.cps.size≤60):SqV prog w hb tabs [] (.str x t) (ah x) where
 len:=fun S _ h=>by
  have e:x.length=x.cps.size:=rfl
  refine len_str (by rw[e];lia) ?_
  have:=h
  rw[bj] at this
  exact this _ _
 hand:=rfl
 small:=by rw[bj];exact hx
 item:=fun {A E s L l T Q value slice i u c} S _ hi h hs=>by
  obtain⟨k,e,rfl⟩:=gJ hi
  have hlt:i<x.cps.size:=by
   rcases Nat.lt_or_ge i x.cps.size with q | q
   ·exact q
   ·rw[Array.getElem?_eq_none q] at e;cases e
  refine tail_any (typeIs_str s x t) slot_str_getitem.lookup (getItem_str (c:=k) ?_ ?_ (h _ _)) (hs _ _)
  ·simp only[Bool.or_eq_false_iff,decide_eq_false_iff_not];lia
  ·have:seqIndex? (i:Int) x.length=some i:=by
    have e2:x.length=x.cps.size:=rfl
    unfold seqIndex?
    rw[e2]
    simp
    lia
   rw[this];exact e
 iter:=fun {A E s L l T Q} S _ h=>by
  refine wpAny_pyIter_strU ?_
  cases ha:x.cps.all (· < 128)
  ·have e:strIterType x = "str_iterator" := by simp[strIterType,ha]
   rw[e]
   refine h _ _ (fun i h=>h.IsStrIter s.heap.objs.size "str_iterator" x t i) _ _ ⟨fun A hA=>bj x▸bJ (Walks.strWide hA _ x t) fun _ _=>cx,fun i h q=>let ⟨o,e,_⟩:=q;⟨o,e⟩,fun b hb' hn=>absurd hb' hn⟩ ⟨_,Heap.get?_push_size _ rfl,rfl,rfl⟩ (S.push _).last
  ·have e:strIterType x = "str_ascii_iterator" := by simp[strIterType,ha]
   rw[e]
   refine h _ _ (fun i h=>h.IsStrIter s.heap.objs.size "str_ascii_iterator" x t i) _ _ ⟨fun A hA=>bj x▸bJ (Walks.strAscii hA _ x t) fun _ _=>cx,fun i h q=>let ⟨o,e,_⟩:=q;⟨o,e⟩,fun b hb' hn=>absurd hb' hn⟩ ⟨_,Heap.get?_push_size _ rfl,rfl,rfl⟩ (S.push _).last
 enum:=fun {A E s L l T Q} hh S _ h=>by
  refine call_enumerate_str fun h' he hi hz hk=>?_
  obtain⟨oe,hoe⟩:=cY he
  obtain⟨oi,hoi,-⟩:=id hi
  have S':St hb tabs L l (T++[(s.heap.objs.size+1,oe),(s.heap.objs.size,oi)]) h':=S.adds hk (fun p hp=>by
   rcases List.mem_cons.mp hp with rfl | hp
   ·exact hoe
   ·rcases List.mem_cons.mp hp with rfl | hp
    ·exact hoi
    ·cases hp) (fun p hp=>by
   rcases List.mem_cons.mp hp with rfl | hp
   ·exact Nat.le_succ _
   ·rcases List.mem_cons.mp hp with rfl | hp
    ·exact Nat.le_refl _
    ·cases hp) (by simp)
  cases ha:x.cps.all (· < 128)
  ·have e:strIterType x = "str_iterator" := by simp[strIterType,ha]
   rw[e] at hi
   refine h _ _ _ _ _ _ _ _ ⟨fun A hA=>bj x▸cD (toU (WalksT.enumerateD (Draws.strWide (A:=A.in1) hA s.heap.objs.size x t) (s.heap.objs.size+1) (Nat.succ_ne_self _) (by simp) (by simp))) (fun i v q=>?e1),?e2,?e3⟩ ⟨⟨_,he⟩,hi⟩ S'
   case e1 =>
    obtain⟨t,x',a,b⟩:=q
    exact⟨t,x',cx a,b⟩
   case e2 =>
    rintro i h ⟨⟨old,q⟩,q2⟩ b hb'
    rcases List.mem_cons.mp hb' with rfl | hb'
    ·exact cY q
    ·rw[List.mem_singleton] at hb';subst hb'
     obtain⟨o,e,_⟩:=q2
     exact⟨o,e⟩
   case e3 =>
    intro b hb' hn
    exact absurd hb' hn
  ·have e:strIterType x = "str_ascii_iterator" := by simp[strIterType,ha]
   rw[e] at hi
   refine h _ _ _ _ _ _ _ _ ⟨fun A hA=>bj x▸cD (toU (WalksT.enumerateD (Draws.strAscii (A:=A.in1) hA s.heap.objs.size x t) (s.heap.objs.size+1) (Nat.succ_ne_self _) (by simp) (by simp))) (fun i v q=>?e1),?e2,?e3⟩ ⟨⟨_,he⟩,hi⟩ S'
   case e1 =>
    obtain⟨t,x',a,b⟩:=q
    exact⟨t,x',cx a,b⟩
   case e2 =>
    rintro i h ⟨⟨old,q⟩,q2⟩ b hb'
    rcases List.mem_cons.mp hb' with rfl | hb'
    ·exact cY q
    ·rw[List.mem_singleton] at hb';subst hb'
     obtain⟨o,e,_⟩:=q2
     exact⟨o,e⟩
   case e3 =>
    intro b hb' hn
    exact absurd hb' hn
end
end
section
section
variable{K:Type}[DecidableEq K]
theorem aR(k k':K)(v:Value)(l:List (K×Value)):valueAt ((k,v)::l) k'=if k=k' then some v else valueAt l k':=by
 unfold valueAt
 rw[List.find?_cons]
 by_cases h:k=k'
 ·simp[h]
 ·simp[h]
theorem ek(l r:List (K×Value))(k:K):valueAt (l++r) k=(valueAt l k).or (valueAt r k):=by
 unfold valueAt
 rw[List.find?_append]
 cases l.find? fun kv=>decide (kv.1=k)<;> simp
theorem gv(l:List (K×Value))(k k':K)(v:Value):valueAt (l.map fun kv=>if kv.1=k then (kv.1,v) else kv) k'=if k=k' then (valueAt l k').map fun _=>v else valueAt l k':=by
 induction l with
 | nil=>simp[valueAt]
 | cons p l ih =>
  obtain⟨a,u⟩:=p
  rw[List.map_cons]
  by_cases h:a=k
  ·simp only[h,if_true]
   rw[aR,ih,aR]
   by_cases h2:k=k'
   ·simp[h2]
   ·simp[h2]
  ·simp only[h,if_false]
   rw[aR,ih,aR]
   by_cases h2:a=k'
   ·have:k≠k':=fun e=>h (h2.trans e.symm)
    simp[h2,this]
   ·simp[h2]
theorem fz(l:List (K×Value))(k:K):l.any (fun kv=>decide (kv.1=k))=(valueAt l k).isSome:=by
 induction l with
 | nil=>rfl
 | cons p l ih =>
  obtain⟨a,u⟩:=p
  rw[aR,List.any_cons,ih]
  by_cases h:a=k<;> simp[h]
theorem bn(l:List (K×Value))(k k':K)(v:Value):valueAt (stored l k v) k'=if k=k' then some v else valueAt l k':=by
 unfold stored
 split
 ·rename_i h
  rw[gv]
  by_cases h2:k=k'
  ·subst h2
   rw[fz] at h
   obtain⟨u,e⟩:=Option.isSome_iff_exists.mp h
   simp[e]
  ·simp[h2]
 ·rename_i h
  rw[ek]
  have hn:valueAt l k=none:=by
   rw[fz] at h
   simpa using h
  rw[aR]
  by_cases h2:k=k'
  ·subst h2;simp[hn]
  ·simp[h2,valueAt]
theorem cZ(l:List (K×Value))(k:K)(v:Value):(stored l k v).length≤l.length+1:=stored_length_le l k v
end
def bd(lb:List Str)(c:Str):List Nat:=(List.range lb.length).filter fun i=>decide (lb[i]? = some c)
theorem dZ(lb:List Str)(d c:Str):bd (lb++[d]) c=bd lb c++if d=c then [lb.length] else []:=by
 unfold bd
 rw[List.length_append,List.length_singleton,List.range_succ,List.filter_append]
 congr 1
 ·apply List.filter_congr
  intro i hi
  have hi:=List.mem_range.mp hi
  rw[List.getElem?_append_left hi]
 ·rw[List.filter_cons]
  by_cases h:d=c<;> simp[h]
theorem cB{lb:List Str}{c:Str}:bd lb c=[]↔c∉lb:=by
 unfold bd
 rw[List.filter_eq_nil_iff]
 constructor
 ·intro h hm
  obtain⟨i,hi,e⟩:=List.mem_iff_getElem.mp hm
  exact h i (List.mem_range.mpr hi) (by simp[List.getElem?_eq_getElem hi,e])
 ·intro h i hi hd
  exact h (List.mem_of_getElem? (of_decide_eq_true hd))
inductive bh:List Value→List Nat→Prop
 | nil:bh [] []
 | cons {n:Nat}{t:Tok}{vs:List Value}{ns:List Nat}:bh vs ns→bh (.int n t::vs) (n::ns)
theorem bh.snoc{vs:List Value}{ns:List Nat}(h:bh vs ns)(n:Nat)(t:Tok):bh (vs++[.int n t]) (ns++[n]):=by
 induction h with
 | nil=>exact .cons .nil
 | cons _ ih=>exact .cons ih
theorem bh.len{vs:List Value}{ns:List Nat}(h:bh vs ns):vs.length=ns.length:=by
 induction h with
 | nil=>rfl
 | cons _ ih=>rw[List.length_cons,List.length_cons,ih]
theorem bh.get{vs:List Value}{ns:List Nat}(h:bh vs ns){i:Nat}{v:Value}(e:vs[i]? = some v):Ex2 fun n t=>ns[i]? = some n∧v=.int n t:=by
 induction h generalizing i with
 | nil=>simp at e
 | cons _ ih =>
  rename_i n t vs ns _
  cases i with
  | zero=>simp at e;subst e;exact⟨n,t,by simp,rfl⟩
  | succ i=>simp at e;obtain⟨m,u,a,b⟩:=ih e;exact⟨m,u,by simpa using a,b⟩
structure aM where
 c:Str
 a:Addr
 vs:List Value
 n:Nat
def aM.kv(r:aM):Str×Value:=(r.c,.ref r.a)
def aM.ob(r:aM):Addr×Obj:=(r.a,ae r.vs r.n)
structure bB(lb:List Str)(rows:List aM):Prop where
 nd:(rows.map (·.c)).Nodup
 at_:∀ r∈rows,bh r.vs (bd lb r.c)
 all:∀ c∈lb,c∈rows.map (·.c)
 sub:∀ c∈rows.map (·.c),c∈lb
theorem bK{rows:List aM}{c:Str}{v:Value}(h:valueAt (rows.map aM.kv) c=some v):Ex2 fun (j:Nat) (r:aM)=>An3 (rows[j]? = some r) (r.c=c) (v=.ref r.a):=by
 induction rows with
 | nil=>simp[valueAt] at h
 | cons r rows ih =>
  rw[List.map_cons] at h
  rw[show r.kv=(r.c,Value.ref r.a) from rfl,aR] at h
  split at h
  ·rename_i e
   cases h
   exact⟨0,r,rfl,e,rfl⟩
  ·obtain⟨j,r',a,b,c⟩:=ih h
   exact⟨j+1,r',by rw[List.getElem?_cons_succ];exact a,b,c⟩
theorem bL{rows:List aM}{c:Str}(h:valueAt (rows.map aM.kv) c=none):c∉rows.map (·.c):=by
 intro hm
 obtain⟨r,hr,rfl⟩:=List.mem_map.mp hm
 have:(valueAt (rows.map aM.kv) r.c).isSome=true:=by
  rw[← fz,List.any_eq_true]
  exact⟨r.kv,List.mem_map.mpr ⟨r,hr,rfl⟩,by simp[aM.kv]⟩
 rw[h] at this;cases this
theorem bB.old{lb:List Str}{rows:List aM}(R:bB lb rows){j:Nat}{r:aM}(hj:rows[j]? = some r){t:Tok}{n:Nat}:bB (lb++[r.c]) (rows.set j ⟨r.c,r.a,r.vs++[.int lb.length t],n⟩):=by
 have hm:=List.mem_of_getElem? hj
 have hk:(rows.set j ⟨r.c,r.a,r.vs++[.int lb.length t],n⟩).map (·.c)=rows.map (·.c):=by
  rw[List.map_set]
  apply List.ext_getElem?
  intro i
  rw[List.getElem?_set]
  by_cases e:j=i
  ·subst e
   rw[List.getElem?_map,hj]
   simp[(List.getElem?_eq_some_iff.mp hj).1]
  ·rw[if_neg e]
 refine⟨hk▸R.nd,fun r' hr'=>?_,fun c hc=>?_,fun c hc=>?_⟩
 ·obtain⟨i,hi⟩:=List.mem_iff_getElem?.mp hr'
  rw[List.getElem?_set] at hi
  rw[dZ]
  by_cases e:j=i
  ·subst e
   rw[if_pos rfl] at hi
   split at hi
   ·cases hi
    rw[if_pos rfl]
    exact (R.at_ r hm).snoc _ _
   ·cases hi
  ·rw[if_neg e] at hi
   have hne:r.c≠r'.c:=by
    intro q
    have h1:(rows.map (·.c))[j]? = some r.c:=by rw[List.getElem?_map,hj];rfl
    have h2:(rows.map (·.c))[i]? = some r.c:=by rw[List.getElem?_map,hi,q];rfl
    exact e ((List.getElem?_inj (List.getElem?_eq_some_iff.mp h1).1 R.nd).mp (h1.trans h2.symm))
   rw[if_neg hne,List.append_nil]
   exact R.at_ r' (List.mem_of_getElem? hi)
 ·rw[hk]
  rcases List.mem_append.mp hc with q | q
  ·exact R.all c q
  ·rw[List.mem_singleton.mp q];exact List.mem_map.mpr ⟨r,hm,rfl⟩
 ·rw[hk] at hc
  exact List.mem_append_left _ (R.sub c hc)
theorem bB.new{lb:List Str}{rows:List aM}(R:bB lb rows){c:Str}(hc:c∉rows.map (·.c)){a:Addr}{t:Tok}{n:Nat}:bB (lb++[c]) (rows++[⟨c,a,[.int lb.length t],n⟩]):=by
 have hlb:c∉lb:=fun q=>hc (R.all c q)
 refine⟨?_,fun r' hr'=>?_,fun d hd=>?_,fun d hd=>?_⟩
 ·rw[List.map_append,List.nodup_append]
  refine⟨R.nd,by simp,fun d hd e he q=>hc ?_⟩
  simp at he
  rw[← he,← q];exact hd
 ·rw[dZ]
  rcases List.mem_append.mp hr' with q | q
  ·have:c≠r'.c:=fun e=>hc (e▸List.mem_map.mpr ⟨r',q,rfl⟩)
   rw[if_neg this,List.append_nil]
   exact R.at_ r' q
  ·rw[List.mem_singleton.mp q]
   show bh [_] (bd lb c++if c=c then _ else _)
   rw[if_pos rfl,cB.mpr hlb]
   exact .cons .nil
 ·rw[List.map_append]
  rcases List.mem_append.mp hd with q | q
  ·exact List.mem_append_left _ (R.all d q)
  ·exact List.mem_append_right _ (by simpa using q)
 ·rw[List.map_append] at hd
  rcases List.mem_append.mp hd with q | q
  ·exact List.mem_append_left _ (R.sub d q)
  ·exact List.mem_append_right _ (by simpa using q)
theorem bB.nil:bB [] []:=⟨List.nodup_nil,nofun,nofun,nofun⟩
theorem dN{rows:List aM}{c:Str}{a:Addr}(h:valueAt (rows.map aM.kv) c=none):stored (rows.map aM.kv) c (.ref a)=(rows++[(⟨c,a,[],0⟩:aM)]).map aM.kv:=by
 unfold stored
 rw[fz,h]
 simp[aM.kv]
theorem cR{α:Type}[DecidableEq α]:∀ {l m:List α},l.Nodup→(∀ x∈l,x∈m)→l.length≤m.length
 | [],m,_,_=>Nat.zero_le _
 | a::l,m,nd,h=>by
  have n:=List.nodup_cons.mp nd
  have ha:=h a (.head _)
  have ih:=cR (l:=l) (m:=m.erase a) n.2 (fun x hx=>(List.mem_erase_of_ne (fun e:x=a=>n.1 (e▸hx))).mpr (h x (.tail _ hx)))
  have:=List.length_erase_of_mem ha
  have hp:0<m.length:=List.length_pos_of_mem ha
  rw[List.length_cons];exact zbj ih this hp
theorem bB.small{lb:List Str}{rows:List aM}(R:bB lb rows):rows.length≤lb.length:=by
 have:=cR R.nd R.sub
 rwa [List.length_map] at this
theorem c9(lb:List Str)(c:Str):(bd lb c).length≤lb.length:=by
 have:=List.length_filter_le (fun i=>decide (lb[i]? = some c)) (List.range lb.length)
 rwa [List.length_range] at this
section
variable{rows:List aM}{j:Nat}{r r':aM}{X:List (Addr×Obj)}
theorem rn(hj:rows[j]? = some r):(rows.map aM.ob++X)[j]? = some r.ob:=by
 have hl:=(List.getElem?_eq_some_iff.mp hj).1
 rw[List.getElem?_append_left (by rw[List.length_map];exact hl),List.getElem?_map,hj];rfl
theorem oV(hj:rows[j]? = some r):(rows.map aM.ob++X).set j r'.ob=(rows.set j r').map aM.ob++X:=by
 have hl:=(List.getElem?_eq_some_iff.mp hj).1
 rw[List.set_append_left _ _ (by rw[List.length_map];exact hl),List.map_set]
theorem oW(hj:rows[j]? = some r)(hc:r'.c=r.c)(ha:r'.a=r.a):(rows.set j r').map aM.kv=rows.map aM.kv:=by
 rw[List.map_set]
 apply List.ext_getElem?
 intro i
 rw[List.getElem?_set]
 by_cases e:j=i
 ·subst e
  rw[List.getElem?_map,hj]
  simp[(List.getElem?_eq_some_iff.mp hj).1,aM.kv,hc,ha]
 ·rw[if_neg e]
end
end
section
open PySem.Spec
section
variable{α:Type}{a b c d e f g i j k:α}{l:List α}
theorem m0:a∈a::l:=.head _
theorem m1:a∈b::a::l:=.tail _ (.head _)
theorem m2:a∈b::c::a::l:=.tail _ m1
theorem m3:a∈b::c::d::a::l:=.tail _ m2
theorem m4:a∈b::c::d::e::a::l:=.tail _ m3
theorem m5:a∈b::c::d::e::f::a::l:=.tail _ m4
theorem m6:a∈b::c::d::e::f::g::a::l:=.tail _ m5
theorem m7:a∈b::c::d::e::f::g::i::a::l:=.tail _ m6
theorem m8:a∈b::c::d::e::f::g::i::j::a::l:=.tail _ m7
theorem m9:a∈b::c::d::e::f::g::i::j::k::a::l:=.tail _ m8
end
section
variable{prog:Program}{w:World}{A:Around}{E:VP}{s:Shared}{F:Frag}{hb:Heap}{tabs:List Addr}{L d u a:Addr}{l:List (Str×Value)}{T:List (Addr×Obj)}{pos:Pos}{Q:VP}{o:Obj}{env:Env}
 {K:Type} [DecidableEq K] {knd:PySem.KeyKind prog w K}{kvs:List (K×Value)}{k:K}{key v dflt:Value}{vs:List Value}{n:Nat}
theorem eV {pl:Sem Bool}{name:Str}{id:String}{Q:Value×List Value→Shared→Prop} (S:St hb tabs L l T s.heap) (hm:(d,o)∈T) (hd:o.IsDictOf knd kvs) (slot:Slot "dict" name id) (ty:typeOf (.builtin id)=pure (.type "method_descriptor"))
  (h:Q (.builtin id,[.ref d]) s):wpAny (model prog w) A (getMethod (.ref d) name pl) Q E s:=by
 obtain⟨es,ep,hx,hdd,-⟩:=hd
 exact getMethod_builtin ⟨_,S.obj _ hm,hx.1⟩ PySem.F.plainAttrs_dict slot ty (fun a e=>by cases e;exact⟨_,S.obj _ hm,hx.2.1⟩) h
theorem ba {pl:Sem Bool}{name:Str}{id:String}{Q:Value×List Value→Shared→Prop} (S:St hb tabs L l T s.heap) (hm:(d,ae vs n)∈T) (slot:Slot "list" name id) (ty:typeOf (.builtin id)=pure (.type "method_descriptor"))
  (h:Q (.builtin id,[.ref d]) s):wpAny (model prog w) A (getMethod (.ref d) name pl) Q E s :=
 getMethod_builtin ⟨_,S.obj _ hm,rfl⟩ PySem.F.plainAttrs_list slot ty (fun a e=>by cases e;exact⟨_,S.obj _ hm,rfl⟩) h
theorem cC:bootBuiltins (Str.ofString "enumerate")=some (.type "enumerate"):=by kernel_rfl
theorem ir:bootBuiltins (Str.ofString "set")=some (.type "set"):=by kernel_rfl
end
section
variable{prog:Program}{w:World}{A:Around}{E:VP}{s:Shared}{env:Env}{pos:Pos}
theorem aA{n:Str}{es:List Expr}{y:Value}{ys:List Value}{Q:UP}(h:wpAny (model prog w) A (storeName env n y) (kOrd (model prog w) A E ((assignEach es env).map (·.2)) ys Q) E s)
  (he:(assignEach (.Name n pos::es) env).map (·.2)=assign (.Name n pos) env::(assignEach es env).map (·.2):=by rfl) :
  wpAny (model prog w) A (assignInOrder ((assignEach (.Name n pos::es) env).map (·.2)) (y::ys)) Q E s:=by
 rw[he]
 exact assignInOrder_cons (assign_Name h)
theorem bx{Q:UP}(h:Q () s):wpAny (model prog w) A (assignInOrder ((assignEach [] env).map (·.2)) []) Q E s:=assignInOrder_nil h
end
section
variable{M:Model}{A:Around}{E:VP}{s:Shared}{env:Env}{pos:Pos}{x:Expr}{rest:List Expr}{whole:Sem Value}{Q:BP}
theorem bw(h:wpAny M A (isTrue x env (eval x env)) (kAnd M A env E rest pos whole Q) E s):wpAny M A (isTrue (.BoolOp .And (x::rest) pos) env whole) Q E s :=
 isTrue_and (wpAny_mono h (fun c s' z=>by cases c;exact z.2 rfl;exact z.1 rfl) fun _ _ z=>z)
theorem kL(h:wpAny M A (isTrue x env (eval x env)) (fun c s'=>(c=true→Q true s')∧(c=false→wpAny M A (isTrue (.BoolOp .Or rest pos) env whole) Q E s')) E s):wpAny M A (isTrue (.BoolOp .Or (x::rest) pos) env whole) Q E s :=
 isTrue_or (wpAny_mono h (fun c s' z=>by cases c;exact z.2 rfl;exact z.1 rfl) fun _ _ z=>z)
end
section
variable{prog:Program}{w:World}{A:Around}{E:VP}{s:Shared}{env:Env}{pos p':Pos}{test value o i:Expr}{body orelse rest:List Stmt}{Q:FP}
theorem fU(P:Shared→Prop)(h:wpAny (model prog w) A (isTrue test env (eval test env)) (fun b s_2 =>
   (b=true→wpAny (model prog w) A (execs body env) (fun f s'=>f=.next∧P s') E s_2) ∧
   (b=false→wpAny (model prog w) A (execs orelse env) (fun f s'=>f=.next∧P s') E s_2)) E s)
  (k:∀ s',P s'→wpAny (model prog w) A (execs rest env) Q E s'):wpAny (model prog w) A (execs (.If test body orelse pos::rest) env) Q E s :=
 cP (wpAny_mono h (fun b s_2 z=>⟨fun hb=>wpAny_mono (z.1 hb) (fun f s' q=>by obtain⟨rfl,q⟩:=q;exact k _ q) fun _ _ z=>z,fun hb=>wpAny_mono (z.2 hb) (fun f s' q=>by obtain⟨rfl,q⟩:=q;exact k _ q) fun _ _ z=>z⟩) fun _ _ z=>z)
theorem fT(h:wpAny (model prog w) A (eval value env) (fun v s₁=>wpAny (model prog w) A (eval o env) (fun ov s_2=>wpAny (model prog w) A (eval i env) (fun iv s3 =>
   wpAny (model prog w) A (setItem ov iv v) (fun _ s4=>wpAny (model prog w) A (execs rest env) Q E s4) E s3) E s_2) E s₁) E s)
  (hs:swapsWith value (some (.Subscript o i p')) pos.line env=pure false:=by rfl):wpAny (model prog w) A (execs (.Assign [.Subscript o i p'] value pos::rest) env) Q E s :=
 wpAny_execs_cons (wpAny_Assign_Subscript h hs)
end
section
variable{prog:Program}{w:World}{A:Around}{E:VP}{s:Shared}{F:Frag}{hb:Heap}{tabs:List Addr}{L d u:Addr}{l:List (Str×Value)}{T:List (Addr×Obj)}{Q:VP}{o:Obj}
 {K:Type} [DecidableEq K] {knd:PySem.KeyKind prog w K}{kvs:List (K×Value)}{k:K}{key v:Value}{value slice:Expr}
theorem pi(S:St hb tabs L l T s.heap)(hm:(d,o)∈T)(hd:o.IsDictOf knd kvs)(hkey:knd.is k key=true)(hv:valueAt kvs k=some v)(h:Q v (wt s (s.toks+1)))
  (hs:subscripted slice false (.ref d) key=operate [.ref d,key] (getItem (.ref d) key):=by with_unfolding_all rfl):wpAny (model prog w) A (subscriptTail value slice (.ref d) key) Q E s:=by
 have hD:=d8 S hm hd
 exact tail_any hD.typeIs PySem.F.slot_dict_getitem.lookup (jz S hm hd hkey hv h) hs
end
end
section
open PySem.Spec
section
variable{prog:Program}{w:World}{A:Around}{E:VP}{s:Shared}{F:Frag}{hb:Heap}{tabs:List Addr}{L d u:Addr}{l:List (Str×Value)}{T:List (Addr×Obj)}{Q:VP}{vs:List Value}{n:Nat}{env:Env}{pos:Pos}
theorem mH(S:St hb tabs L l T s.heap)(hm:(d,ae vs n)∈T)
  (h:∀ I o Wt fp h',ItV prog w hb tabs [(d,ae vs n)] I vs.length (fun i v=>vs[i]? = some v) Wt fp→Wt 0 h'→St hb tabs L l (T++[(I,o)]) h'→Q (.ref I) (wh s h')):wpAny (model prog w) A (pyIter (.ref d)) Q E s:=by
 have hl:s.heap.IsList d vs.toArray:=⟨_,S.obj _ hm,rfl,n,rfl⟩
 have hne:d≠s.heap.objs.size:=Nat.ne_of_lt (S.lt hm)
 refine wpAny_pyIter_list hl (h _ _ (fun i h=>h.IsListIter s.heap.objs.size d i∧h.IsList d vs.toArray) [s.heap.objs.size,d] _ ⟨fun A hA=>?_,?_,?_⟩ ⟨⟨_,Heap.get?_push_size _ rfl,rfl,rfl⟩,⟨_,Heap.get?_push_of_some _ (S.obj _ hm),rfl,n,rfl⟩⟩ (S.push _).last)
 case refine_1 =>
  have W:=Walks.list (prog:=prog) (w:=w) hA s.heap.objs.size d hne vs.toArray
  rw[List.size_toArray] at W
  exact bJ W fun i v e=>by simpa using e
 case refine_2 =>
  rintro i h ⟨⟨o,e,_⟩,_⟩
  exact⟨o,e⟩
 case refine_3 =>
  intro b hb' hn
  rcases List.mem_cons.mp hb' with rfl | hb'
  ·exact absurd (.head _) hn
  ·rw[List.mem_singleton] at hb'
   subst hb'
   exact .inl ⟨_,.head _⟩
abbrev rngO (a b:Int) (t u v:Tok):Obj:={ cls:=.type "range", data:=.fields #[.int a t,.int b u,.int 1 v] }
theorem ju {a b:Int}{t u:Tok} (S:St hb tabs L l T s.heap) (h:∀ r v h' tk,St hb tabs L l ((r,rngO a b t u v)::T) h'→Q (.ref r) (wht s h' tk)):wpAny (model prog w) A (call (.type "range") [.int a t,.int b u]) Q E s :=
 call_range_2 (h _ _ _ _ (S.push _))
theorem jw{a b:Int}{t u v:Tok}(S:St hb tabs L l T s.heap)(hm:(d,rngO a b t u v)∈T)(ha : -1000≤a)(ha':a≤1000)(hb1 : -1000≤b)(hb':b≤1000)
  (h:∀ I o Wt fp h',ItV prog w hb tabs [] I (b - a).toNat (fun i v=>∃ t,v=.int (a+i) t) Wt fp→Wt 0 h'→St hb tabs L l (T++[(I,o)]) h'→Q (.ref I) (wh s h')):wpAny (model prog w) A (pyIter (.ref d)) Q E s:=by
 have e:Builtin.Range.rangeSize a b 1=((b - a).toNat:Int):=by rw[rangeSize_one];split<;> lia
 refine wpAny_pyIter_range (S.obj _ hm) (small_one (by lia) (by lia) (by lia) (by lia)) (h _ _ (fun i h=>IsRangeIter h s.heap.objs.size (a+(i:Nat) * 1) (((b - a).toNat:Int) - (i:Nat)) 1) [s.heap.objs.size] _ ⟨fun A hA=>?_,?_,?_⟩ ?_ (S.push _).last)
 case refine_1 =>
  exact bJ (Walks.range (prog:=prog) (w:=w) hA s.heap.objs.size a 1 (b - a).toNat) fun i v q=>by
   obtain⟨t,q⟩:=q
   exact⟨t,by rw[q,Int.mul_one]⟩
 case refine_2=>exact fun i h q=>⟨_,q⟩
 case refine_3 =>
  intro b hb' hn
  exact absurd hb' hn
 case refine_4 =>
  show (s.heap.push _).get? _=_
  rw[e]
  simp
  exact Heap.get?_push_size _ rfl
theorem rH{o i:Expr}{v:Value}{Q:UP}(h:wpAny (model prog w) A (eval o env) (q9 (model prog w) A env E i v Q) E s) :
  wpAny (model prog w) A (assign (.Subscript o i pos) env v) Q E s:=by
 rw[assign_Subscript]
 refine wpAny_bind (wpAny_holding (wpAny_mono h (fun ov s₁ z=>wpAny_bind (wpAny_holding (wpAny_mono z (fun iv s_2 z=>wpAny_bind (wpAny_standAt (wpAny_bind (wpAny_holding (wpAny_mono z (fun _ s3 z=>fun Γ p hΓ=>by simp only[Sem.wp_release];exact z) fun _ _ z=>z))))) fun _ _ z=>z))) fun _ _ z=>z))
theorem di:bootBuiltins (Str.ofString "range")=some (.type "range"):=by kernel_rfl
end
end
section
open PySem.Spec
section
variable{prog:Program}{w:World}{A:Around}{E:VP}{s:Shared}{env:Env}{pos:Pos}{test:Expr}{body rest:List Stmt}{Q:FP}{hb:Heap}{tabs:List Addr}{L d:Addr}{l:List (Str×Value)}{T:List (Addr×Obj)}
theorem jD(P:Shared→Prop)(I:Nat→Shared→Prop)(n:Nat)(h0:I n s)
  (turn:∀ E' n s,I n s→wpAny (model prog w) A (isTrue test env (eval test env)) (fun b s_2 =>
   (b=true→wpAny (model prog w) A (execs body env) (fun f s3=>match f with
    | .next | .cont=>∃ m,m<n∧I m s3
    | .brk=>P s3
    | .ret v=>Q (.ret v) s3) E' s_2)∧(b=false→P s_2)) E' s)
  (k:∀ s',P s'→wpAny (model prog w) A (execs rest env) Q E s'):wpAny (model prog w) A (execs (.While test body [] pos::rest) env) Q E s:=by
 refine wpAny_execs_cons (wpAny_While (codeAny_mono (R:=fun r s'=>match r with
   | .ok .next=>P s'
   | .ok .cont=>False
   | .ok .brk=>False
   | .ok (.ret v)=>Q (.ret v) s'
   | .error e=>False) (codeAny_whileLoop I (fun n s hI=>?_) n h0) fun r s' z=>?_))
 ·refine wpAny_mono (turn _ n s hI) (fun b s_2 z=>?_) fun _ _ z=>z
  cases b with
  | true =>
   refine wpAny_mono (z.1 rfl) (fun f s3 z=>?_) fun _ _ z=>z
   cases f<;> exact z
  | false=>exact wpAny_execs_nil (z.2 rfl)
 ·rcases r with e | (v | _ | _ | _)<;> first | exact z.elim | exact z | exact k _ z
theorem cq(P:Shared→Prop)(h:∀ E',wpAny (model prog w) A (isTrue test env (eval test env)) (fun b s_2=>b=false∧P s_2) E' s)
  (k:∀ s',P s'→wpAny (model prog w) A (execs rest env) Q E s'):wpAny (model prog w) A (execs (.While test body [] pos::rest) env) Q E s :=
 jD P (fun _ s'=>s'=s) 0 rfl (fun E' n s' e=>by
  subst e
  exact wpAny_mono (h E') (fun b s_2 z=>⟨fun hb=>(by rw[z.1] at hb;cases hb),fun _=>z.2⟩) fun _ _ z=>z) k
theorem bG{elts:List Expr}{x1:Nat}{tpos:Pos}{vs:List Value}{Q:UP}(hh:A.handled=none)(S:St hb tabs L l T s.heap)(hm:(d,au vs)∈T)
  (h:∀ h',St hb tabs L l T h'→wpAny (model prog w) A (assignInOrder ((assignEach elts env).map (·.2)) vs) Q E (wh s h'))
  (hsz:(assignEach elts env).length=vs.length:=by rfl) (hstar:(assignEach elts env).findIdx? (·.1)=none:=by kernel_rfl) :
  wpAny (model prog w) A (assign (.Tuple elts x1 tpos) env (.ref d)) Q E s :=
 wpAny_assign_Tuple hh (items:=vs.toArray) ⟨_,S.obj _ hm,rfl,_,rfl⟩ (by rw[List.size_toArray];exact hsz) hstar fun h' he=>h h' (S.extBut he)
end
section
variable{M:Model}{α:Type}{A:Around}{E:VP}{s:Shared}{hb:Heap}{tabs:List Addr}{L:Addr}{l:List (Str×Value)}{T:List (Addr×Obj)}{t:Sem α}{Q:α→Shared→Prop}
theorem az(S:St hb tabs L l T s.heap)(h:∀ s',Kp s s'→St hb tabs L l T s'.heap→wpAny M A t Q E s'):wpAny M A t Q E s:=h s Kp.refl S
theorem cF:typeLookup (.type "set") "__contains__" = pure (some (.builtin "set.__contains__")):=by rw[typeLookup_type,builtinLookup_eq_fast];kernel_rfl
theorem c0:typeOf (.builtin "set.__contains__")=pure (.type "method_descriptor"):=by show builtinType _=_;rw[builtinType_eq_fast];kernel_rfl
theorem d7:typeLookup (.type "dict") "get" = pure (some (.builtin "dict.get")):=by rw[typeLookup_type,builtinLookup_eq_fast];kernel_rfl
theorem fu:typeOf (.builtin "dict.get")=pure (.type "method_descriptor"):=by show builtinType _=_;rw[builtinType_eq_fast];kernel_rfl
end
end
section
def KOk{α:Type}(D:Nat→Nat→Prop)(Ans:Nat→Nat→Bool→Prop)(P:α→Prop):KasT α→Prop
 | .ret a=>P a
 | .ask i j k=>D i j∧∀ b,Ans i j b→KOk D Ans P (k b)
theorem KOk.bind{α β:Type}{D:Nat→Nat→Prop}{Ans:Nat→Nat→Bool→Prop}{P:α→Prop}{P':β→Prop}{f:α→KasT β}:∀ {t:KasT α},KOk D Ans P t→(∀ a,P a→KOk D Ans P' (f a))→KOk D Ans P' (t.bind f)
 | .ret a,h,hf=>hf a h
 | .ask i j k,h,hf=>⟨h.1,fun b hb=>KOk.bind (h.2 b hb) hf⟩
theorem KOk.mono{α:Type}{D:Nat→Nat→Prop}{Ans:Nat→Nat→Bool→Prop}{P P':α→Prop}(hp:∀ a,P a→P' a):∀ {t:KasT α},KOk D Ans P t→KOk D Ans P' t
 | .ret a,h=>hp a h
 | .ask i j k,h=>⟨h.1,fun b hb=>KOk.mono hp (h.2 b hb)⟩
theorem KOk.wp{α:Type}{D:Nat→Nat→Prop}{Ans:Nat→Nat→Bool→Prop}{P:α→Prop}{cmp:Nat→Nat→(Bool→Shared→Prop)→Shared→Prop}{Inv:Shared→Prop}
  (hc:∀ i j (C:BP) s,Inv s→D i j→(∀ b s',Inv s'→Ans i j b→C b s')→cmp i j C s) {Q:α→Shared→Prop} (hQ:∀ a s,Inv s→P a→Q a s) :
  ∀ {t:KasT α}{s:Shared},KOk D Ans P t→Inv s→t.kasWp cmp Q s
 | .ret a,s,h,hs=>hQ a s hs h
 | .ask i j k,s,h,hs=>hc i j _ s hs h.1 fun b s' hs' hb=>KOk.wp hc hQ (h.2 b hb) hs'
section
variable{n:Nat}{H:Prop}{rk:Nat→Nat}
def Rk(rk:Nat→Nat)(p:Array Nat)(i:Nat):Nat:=rk (p.getD i 0)
def aL(rk:Nat→Nat)(p:Array Nat)(m:Nat):Prop:=∀ i j,i≤j→j<m→Rk rk p i≤Rk rk p j
def Pm(n:Nat)(p:Array Nat):Prop:=p.Perm (List.range n).toArray
abbrev lG(n:Nat)(i j:Nat):Prop:=i<n∧j<n
abbrev lH(H:Prop)(rk:Nat→Nat)(i j:Nat)(b:Bool):Prop:=H→b=decide (rk i<rk j)
theorem Pm.size{p:Array Nat}(h:Pm n p):p.size=n:=by rw[Array.Perm.size_eq h];simp
theorem Pm.lt{p:Array Nat}(h:Pm n p)(hn:0<n)(i:Nat):p.getD i 0<n:=by
 by_cases hi:i<p.size
 ·have e:p.getD i 0=p[i]:=by simp[Array.getD,hi]
  rw[e]
  have hm:p[i]∈p.toList:=by simp
  have:=(Array.perm_iff_toList_perm.mp h).mem_iff.mp hm
  simpa using this
 ·have e:p.getD i 0=0:=by simp[Array.getD,hi]
  rw[e];exact hn
theorem cO{p q:Array Nat}{i j:Nat}(h:p[i]? = q[j]?):Rk rk p i=Rk rk q j:=by
 unfold Rk
 rw[Array.getD_eq_getD_getElem?,Array.getD_eq_getD_getElem?,h]
theorem g7{p:Array Nat}{i j:Nat}(hj:j≤p.size)(k:Nat):Rk rk (kas_rev p i j) k=if i≤k∧k<j then Rk rk p (i+j - 1 - k) else Rk rk p k:=by
 have e:=getElem?_mirror_all (i:=i) hj k
 unfold kas_rev
 by_cases h:i≤k∧k<j
 ·rw[if_pos h] at e ⊢;exact cO e
 ·rw[if_neg h] at e ⊢;exact cO e
theorem pm_rev{p:Array Nat}(h:Pm n p)(i j:Nat):Pm n (kas_rev p i j):=(mirror_perm p i j _).trans h
theorem kh(hn:0<n){p:Array Nat}(hp:Pm n p):∀ (f m:Nat),(H→aL rk p m)→0<m →
  KOk (lG n) (lH H rk) (fun r=>m≤r∧r≤m+f∧(H→aL rk p r)∧(H→r<m+f→Rk rk p r<Rk rk p (r - 1))) (kas_asc p f m)
 | 0,m,hs,hm=>⟨Nat.le_refl _,Nat.le_refl _,hs,fun _ h=>absurd h (Nat.lt_irrefl _)⟩
 | f+1,m,hs,hm=>by
  refine⟨⟨hp.lt hn _,hp.lt hn _⟩,fun b hb=>?_⟩
  cases b with
  | true =>
   refine⟨Nat.le_refl _,Nat.le_add_right _ _,hs,fun h _=>?_⟩
   exact of_decide_eq_true (hb h).symm
  | false =>
   have hs':H→aL rk p (m+1):=fun h i j hij hj=>by
    have hlt:¬ Rk rk p m<Rk rk p (m - 1):=of_decide_eq_false (hb h).symm
    rcases Nat.lt_or_ge j m with q | q
    ·exact hs h i j hij q
    ·have:j=m:=by exact zf1 hj q
     subst this
     rcases Nat.lt_or_ge i j with q2 | q2
     ·have:=hs h i (j - 1) (by exact zcp q2) (by exact zfl hm)
      exact zft hlt this
     ·have:i=j:=by exact zf8 hij q2
      subst this;exact Nat.le_refl _
   have ih:=kh hn hp f (m+1) hs' (by exact z64)
   have:m+1+f=m+(f+1):=by exact zf2
   rw[this] at ih
   refine KOk.mono (fun r hr=>⟨by exact zg3 hr.1,hr.2.1,hr.2.2.1,hr.2.2.2⟩) ih
def gn(rk:Nat→Nat)(p:Array Nat)(m:Nat):Prop:=∀ i j,i≤j→j<m→Rk rk p j≤Rk rk p i
def lF(rk:Nat→Nat)(p:Array Nat)(m q:Nat):Prop:=∀ x,m - (q+1)≤x→x<m→Rk rk p x=Rk rk p (m - 1)
theorem dR{p:Array Nat}{m q:Nat}(hm:m≤p.size)(he:lF rk p m q)(x:Nat):Rk rk (kas_rev p (m - (q+1)) m) x=Rk rk p x:=by
 rw[g7 hm]
 split
 ·rename_i h
  rw[he _ (by exact zey h.2) (by exact zf3 h.1 h.2),he x h.1 h.2]
 ·rfl
theorem gP(hn:0<n):∀ (f:Nat) (p:Array Nat) (m q:Nat),Pm n p→0<m→q<m→m+f≤n→(H→gn rk p m∧lF rk p m q) →
  KOk (lG n) (lH H rk) (fun r=>Pm n r.1∧m≤r.2.1∧r.2.1≤m+f∧r.2.2<r.2.1∧(H→gn rk r.1 r.2.1∧lF rk r.1 r.2.1 r.2.2)) (kas_desc f p m q)
 | 0,p,m,q,hp,hm,hq,hf,hs=>⟨hp,Nat.le_refl _,Nat.le_refl _,hq,hs⟩
 | f+1,p,m,q,hp,hm,hq,hf,hs=>by
  have hsz:=hp.size
  refine⟨⟨hp.lt hn _,hp.lt hn _⟩,fun b hb=>?_⟩
  have ef:m+1+f=m+(f+1):=by exact zf2
  cases b with
  | true =>
   have next:∀ p',Pm n p'→(H→∀ x,Rk rk p' x=Rk rk p x)→KOk (lG n) (lH H rk) (fun r=>Pm n r.1∧m≤r.2.1∧r.2.1≤m+(f+1)∧r.2.2<r.2.1∧(H→gn rk r.1 r.2.1∧lF rk r.1 r.2.1 r.2.2)) (kas_desc f p' (m+1) 0):=by
    intro p' hp' hr
    have ih:=gP hn f p' (m+1) 0 hp' (by exact z64) (by exact z64) (by exact zbe hf) (fun h=>by
     have hlt:Rk rk p m<Rk rk p (m - 1):=of_decide_eq_true (hb h).symm
     have hr:=hr h
     refine⟨fun i j hij hj=>?_,fun x h1 h2=>by congr 1;exact zfg h1 h2⟩
     rw[hr,hr]
     rcases Nat.lt_or_ge j m with q1 | q1
     ·exact (hs h).1 i j hij q1
     ·have:j=m:=by exact zf1 hj q1
      subst this
      rcases Nat.lt_or_ge i j with q2 | q2
      ·have:=(hs h).1 i (j - 1) (by exact zcp q2) (by exact zfl hm)
       exact zg6 hlt this
      ·have:i=j:=by exact zf8 hij q2
       subst this;exact Nat.le_refl _)
    rw[ef] at ih
    exact KOk.mono (fun r hr=>⟨hr.1,by exact zg3 hr.2.1,hr.2.2⟩) ih
   show KOk _ _ _ (if q > 0 then kas_desc f (kas_rev p (m - (q+1)) m) (m+1) 0 else kas_desc f p (m+1) 0)
   split
   ·exact next _ (pm_rev hp _ _) fun h x=>dR (by exact zga hf hsz) (hs h).2 x
   ·exact next _ hp fun _ _=>rfl
  | false =>
   show KOk _ _ _ (KasT.ask (p.getD (m - 1) 0) (p.getD m 0) fun d=>if d=true then .ret (p,m,q) else kas_desc f p (m+1) (q+1))
   refine⟨⟨hp.lt hn _,hp.lt hn _⟩,fun d hd=>?_⟩
   cases d with
   | true=>exact⟨hp,Nat.le_refl _,Nat.le_add_right _ _,hq,hs⟩
   | false =>
    have ih:=gP hn f p (m+1) (q+1) hp (by exact z64) (by exact z8j hq) (by exact zbe hf) (fun h=>by
     have h1:¬ Rk rk p m<Rk rk p (m - 1):=of_decide_eq_false (hb h).symm
     have h2:¬ Rk rk p (m - 1)<Rk rk p m:=of_decide_eq_false (hd h).symm
     refine⟨fun i j hij hj=>?_,fun x h3 h4=>?_⟩
     ·rcases Nat.lt_or_ge j m with q1 | q1
      ·exact (hs h).1 i j hij q1
      ·have:j=m:=by exact zf1 hj q1
       subst this
       rcases Nat.lt_or_ge i j with q2 | q2
       ·have:=(hs h).1 i (j - 1) (by exact zcp q2) (by exact zfl hm)
        exact zgh h2 this
       ·have:i=j:=by exact zf8 hij q2
        subst this;exact Nat.le_refl _
     ·rw[Nat.add_sub_cancel]
      rcases Nat.lt_or_ge x m with q1 | q1
      ·have:=(hs h).2 x (by exact zgk h3) q1
       exact zgn h1 h2 this
      ·have:x=m:=by exact zf1 h4 q1
       subst this;rfl)
    rw[ef] at ih
    exact KOk.mono (fun r hr=>⟨hr.1,by exact zg3 hr.2.1,hr.2.2⟩) ih
def CntP(n:Nat)(H:Prop)(rk:Nat→Nat)(r:Nat×Array Nat):Prop:=Pm n r.2∧0<r.1∧r.1≤n∧(H→aL rk r.2 r.1)
theorem gW(hn:0<n){m:Nat}{p:Array Nat}(hp:Pm n p)(hm:0<m)(hmn:m≤n)(hd:H→gn rk p m):KOk (lG n) (lH H rk) (CntP n H rk) (kas_tail3 m n p):=by
 have hsz:=hp.size
 refine KOk.bind (kh hn (pm_rev hp 0 m) (n - m) m (fun h i j hij hj=>?_) hm) fun r hr=>⟨pm_rev hp 0 m,by show 0<r;exact zez hm hr.1,by show r≤n;exact zf6 hmn hr.2.1,hr.2.2.1⟩
 rw[g7 (by exact zfb hmn hsz),g7 (by exact zfb hmn hsz),if_pos ⟨by exact zfh,by exact zfj hij hj⟩,if_pos ⟨by exact zfh,hj⟩]
 exact hd h _ _ (by exact zfq hij) (by exact zfr hj)
theorem d9(hn:0<n){m:Nat}{p:Array Nat}(hp:Pm n p)(hm:0<m)(hmn:m<n)(hd:H→gn rk p (m+1)):KOk (lG n) (lH H rk) (CntP n H rk) (kas_descPart m n p):=by
 refine KOk.bind (gP hn (n - (m+1)) p (m+1) 0 hp (by exact z64) (by exact z64) (by exact zfa hmn) (fun h=>⟨hd h,fun x h1 h2=>by congr 1;exact zfg h1 h2⟩)) fun r hr=>?_
 obtain⟨h1,h2,h3,h4,h5⟩:=hr
 have hsz:=h1.size
 show KOk _ _ _ (if r.2.2 > 0 then kas_tail3 r.2.1 n (kas_rev r.1 (r.2.1 - (r.2.2+1)) r.2.1) else kas_tail3 r.2.1 n r.1)
 split
 ·refine gW hn (pm_rev h1 _ _) (by exact zfn h2) (by exact zfv hmn h3) fun h i j hij hj=>?_
  rw[dR (by exact zg0 hmn h3 hsz) (h5 h).2,dR (by exact zg0 hmn h3 hsz) (h5 h).2]
  exact (h5 h).1 i j hij hj
 ·exact gW hn h1 (by exact zfn h2) (by exact zfv hmn h3) fun h=>(h5 h).1
theorem ly(hn:0<n){p:Array Nat}(hp:Pm n p):KOk (lG n) (lH H rk) (CntP n H rk) (kas_count n p):=by
 have hsz:=hp.size
 refine KOk.bind (kh hn hp (n - 1) 1 (fun h i j hij hj=>(by exact zf0 hij hj:i=j)▸Nat.le_refl _) (by exact zam)) fun m hm=>?_
 obtain⟨h1,h2,h3,h4⟩:=hm
 show KOk _ _ _ (if (m == n)=true then .ret (m,p) else if m > 1 then KasT.ask (p.getD 0 0) (p.getD (m - 1) 0) fun c=>if c=true then .ret (m,p) else kas_descPart m n (kas_rev p 0 m) else kas_descPart m n p)
 split
 ·exact⟨hp,by show 0<m;lia,by show m≤n;lia,h3⟩
 ·rename_i hne
  have hne:m≠n:=fun e=>hne (by rw[e];simp)
  split
  ·refine⟨⟨hp.lt hn _,hp.lt hn _⟩,fun b hb=>?_⟩
   cases b with
   | true=>exact⟨hp,by show 0<m;exact h1,by show m≤n;exact zfs hn h2,h3⟩
   | false =>
    refine d9 hn (pm_rev hp _ _) (by lia) (by lia) fun h i j hij hj=>?_
    have hlt:¬ Rk rk p 0<Rk rk p (m - 1):=of_decide_eq_false (hb h).symm
    have hs:=h3 h
    have hm4:=h4 h (by lia)
    have eq:∀ x,x<m→Rk rk p x=Rk rk p 0:=fun x hx=>by
     have a:=hs 0 x (by exact zfh) hx
     have b:=hs x (m - 1) (by exact zcp hx) (by exact zgb h1)
     exact zge hlt a b
    have e1:=eq (m - 1) (by exact zgb h1)
    have val:∀ x,x≤m→Rk rk (kas_rev p 0 m) x=if x<m then Rk rk p 0 else Rk rk p m:=fun x hx=>by
     rw[g7 (by exact zgg hn hsz h2)]
     by_cases q:x<m
     ·rw[if_pos ⟨Nat.zero_le _,q⟩,if_pos q,eq (0+m - 1 - x) (by exact zgj q)]
     ·rw[if_neg (fun z=>q z.2),if_neg q]
      have:x=m:=by exact z8u hx q
      rw[this]
    rw[val j (by exact zg7 hj),val i (by exact zgo hij hj)]
    by_cases q:i<m
    ·rw[if_pos q]
     split
     ·exact Nat.le_refl _
     ·exact zgq hm4 e1
    ·rw[if_neg q,if_neg (by exact zgs hij q)]
     exact Nat.le_refl _
  ·have hm1:m=1:=by lia
   subst hm1
   refine d9 hn hp (by lia) (by lia) fun h i j hij hj=>?_
   have hm4:=h4 h (by lia)
   rcases Nat.lt_or_ge i j with q | q
   ·have:i=0:=by exact zgx hj q
    have:j=1:=by exact zgy hj q
    subst i j
    exact Nat.le_of_lt hm4
   ·have:i=j:=by exact zf8 hij q
    subst this;exact Nat.le_refl _
theorem eZ(hn:0<n){p:Array Nat}(hp:Pm n p){k:Nat}:∀ (f l r:Nat),l≤r→r≤k→r - l≤f→(H→aL rk p k∧(∀ x,x<l→Rk rk p x≤Rk rk p k)∧∀ x,r≤x→x<k→Rk rk p k<Rk rk p x) →
  KOk (lG n) (lH H rk) (fun l=>l≤k∧(H→(∀ x,x<l→Rk rk p x≤Rk rk p k)∧∀ x,l≤x→x<k→Rk rk p k<Rk rk p x)) (kas_place p k f l r)
 | 0,l,r,hlr,hrk,hf,hs=>by
  have:l=r:=by exact zf4 hlr hf
  subst this
  exact⟨hrk,fun h=>(hs h).2⟩
 | f+1,l,r,hlr,hrk,hf,hs=>by
  show KOk _ _ _ (if l≥r then .ret l else KasT.ask (p.getD k 0) (p.getD ((l+r) / 2) 0) fun c=>if c=true then kas_place p k f l ((l+r) / 2) else kas_place p k f ((l+r) / 2+1) r)
  split
  ·have:l=r:=by omega
   subst this
   exact⟨hrk,fun h=>(hs h).2⟩
  ·refine⟨⟨hp.lt hn _,hp.lt hn _⟩,fun b hb=>?_⟩
   cases b with
   | true =>
    refine eZ hn hp f l ((l+r) / 2) (by omega) (by omega) (by exact zfu hf) fun h=>⟨(hs h).1,(hs h).2.1,fun x h1 h2=>?_⟩
    have hlt:Rk rk p k<Rk rk p ((l+r) / 2):=of_decide_eq_true (hb h).symm
    have:=(hs h).1 ((l+r) / 2) x h1 h2
    exact zfw hlt this
   | false =>
    refine eZ hn hp f ((l+r) / 2+1) r (by omega) (by exact hrk) (by exact zfy hf) fun h=>⟨(hs h).1,fun x h1=>?_,(hs h).2.2⟩
    have hlt:¬ Rk rk p k<Rk rk p ((l+r) / 2):=of_decide_eq_false (hb h).symm
    have:=(hs h).1 x ((l+r) / 2) (by exact zg1 h1) (by omega)
    exact zft hlt this
theorem fQ{p:Array Nat}{k d:Nat}(hk:k<p.size)(hd:d≤k)(x:Nat):Rk rk (bubble p k d) x=if x=k - d then Rk rk p k else if k - d<x∧x≤k then Rk rk p (x - 1) else Rk rk p x:=by
 have e:=getElem?_bubble hk d hd x
 by_cases h1:x=k - d
 ·rw[if_pos h1] at e ⊢;exact cO e
 ·rw[if_neg h1] at e ⊢
  by_cases h2:k - d<x∧x≤k
  ·rw[if_pos h2] at e ⊢;exact cO e
  ·rw[if_neg h2] at e ⊢;exact cO e
theorem l3(hn:0<n):∀ (f:Nat) (p:Array Nat) (k:Nat),Pm n p→k+f=n→(H→aL rk p k)→KOk (lG n) (lH H rk) (fun r=>Pm n r∧(H→aL rk r n)) (kas_bin f p k)
 | 0,p,k,hp,hk,hs=>by
  have:k=n:=by exact hk
  subst this
  exact⟨hp,hs⟩
 | f+1,p,k,hp,hk,hs=>by
  have hsz:=hp.size
  refine KOk.bind (eZ hn hp k 0 k (Nat.zero_le _) (Nat.le_refl _) (by exact zf7) fun h=>⟨hs h,fun x hx=>absurd hx (Nat.not_lt_zero _),fun x h1 h2=>absurd h2 (by exact zf9 h1)⟩) fun l hl=>?_
  obtain⟨h1,h2⟩:=hl
  refine l3 hn f _ (k+1) ((bubble_perm p k _).trans hp) (by exact zfe hk) fun h i j hij hj=>?_
  have hs:=hs h
  obtain⟨ha,hb⟩:=h2 h
  rw[fQ (by exact zfk hk hsz) (by exact zfo),fQ (by exact zfk hk hsz) (by exact zfo),show k - (k - l)=l by exact zg2 h1]
  by_cases i1:i=l
  ·rw[if_pos i1]
   by_cases j1:j=l
   ·rw[if_pos j1];exact Nat.le_refl _
   ·rw[if_neg j1,if_pos ⟨by exact zg4 hij i1 j1,by exact zg7 hj⟩]
    exact Nat.le_of_lt (hb _ (by exact zg9 hij i1 j1) (by exact zgc hij hj i1 j1))
  ·rw[if_neg i1]
   by_cases i2:l<i∧i≤k
   ·rw[if_pos i2,if_neg (by exact zgd hij i2.1),if_pos ⟨by exact zgf hij i2.1,by exact zg7 hj⟩]
    exact hs _ _ (by exact zgi hij) (by exact zgl hj i2.1 i2.2)
   ·rw[if_neg i2]
    by_cases j1:j=l
    ·rw[if_pos j1]
     exact ha i (by exact zgm hij i1 j1)
    ·rw[if_neg j1]
     by_cases j2:l<j∧j≤k
     ·rw[if_pos j2]
      exact hs _ _ (by exact zgp hij i2 j2.1 j2.2) (by exact zgr j2.1 j2.2)
     ·rw[if_neg j2]
      exact hs _ _ hij (by exact zgu h1 hj j1 j2)
theorem jb(hn:0<n):KOk (lG n) (lH H rk) (fun r=>Pm n r∧(H→aL rk r n)) (kas_sort n):=by
 refine KOk.bind (ly hn (Array.Perm.refl _)) fun r hr=>?_
 obtain⟨h1,h2,h3,h4⟩:=hr
 show KOk _ _ _ (if r.1<n then kas_bin (n - max r.1 1) r.2 (max r.1 1) else .ret r.2)
 split
 ·have e:max r.1 1=r.1:=by exact zfd h2
  rw[e]
  exact l3 hn _ _ _ h1 (by lia) h4
 ·have e:r.1=n:=by lia
  exact⟨h1,fun h=>e▸h4 h⟩
end
end
section
open PySem.Spec
section
variable{prog:Program}{w:World}{A:Around}{E:VP}{s:Shared}{hb:Heap}{tabs:List Addr}{L d:Addr}{l:List (Str×Value)}{T pre post:List (Addr×Obj)}{vs:List Value}{v:Value}{n:Nat}
theorem g8{Q:BP}(S:St hb tabs L l T s.heap)(hm:(d,ae vs n)∈T)(hz:vs.length≤1000)(h:∀ tk,Q (!vs.isEmpty) (wt s tk)):wpAny (model prog w) A (truthy (.ref d)) Q E s :=
 wpAny_truthy_list (items:=vs.toArray) ⟨_,S.obj _ hm,rfl,n,rfl⟩ (by rw[List.size_toArray];lia) (by rw[List.isEmpty_toArray];exact h _)
theorem r_pop{Q:VP}(i:Nat)(S:St hb tabs L l T s.heap)(hi:T[i]? = some (d,ae (vs++[v]) n))(hz:vs.length≤1000)(h:∀ h' n',St hb tabs L l (T.set i (d,ae vs n')) h'→Q v (wh s h')) :
  wpAny (model prog w) A (call (.builtin "list.pop") [.ref d]) Q E s:=by
 have ho:=S.obj _ (List.mem_of_getElem? hi)
 refine call_meets PySem.F.slot_list_pop ⟨_,ho,rfl⟩ PySem.F.entry_list_pop (PySem.F.args_list_pop_1 _) (PySem.MeetsSeq.list_pop_last d (vs++[v]).toArray n v (by simp) (by rw[sizeLine_eq,List.size_toArray,List.length_append,List.length_singleton];exact z93 hz)) ⟨ho,?_⟩
 have hs:=Heap.SameBut.update s.heap d (Obj.mapSeq fun xs=>xs.eraseIdxIfInBounds ((vs++[v]).toArray.size - 1))
 have e:(Obj.mapSeq (fun xs=>xs.eraseIdxIfInBounds ((vs++[v]).toArray.size - 1)) (ae (vs++[v]) n))=ae vs (n+1):=by
  have e1:(vs++[v]).toArray.eraseIdxIfInBounds ((vs++[v]).toArray.size - 1)=vs.toArray:=by
   simp[Array.eraseIdxIfInBounds]
   rw[List.eraseIdx_append_of_length_le (Nat.le_refl _)]
   simp
  simp only[Obj.mapSeq,ae,e1]
  simp
 exact h _ (n+1) (S.change i hi hs (by rw[Heap.get?_update_self _ ho (by rw[e];rfl),e]))
theorem pa{Tt:Value}{H:Prop}{rk:Nat→Nat}{Q:VP}(S:St hb tabs L l (pre++(d,ae vs n)::post) s.heap)(h2:2≤vs.length)(h64:vs.length<64)
  (hty:∀ v∈vs,Ex2 fun a o=>An3 (v=.ref a) ((a,o)∈pre++post) (o.cls=Tt)) (hT1:(Tt != Value.type "tuple")=true) (hT2:(Tt == Tt)=true)
  (hlt:∀ (s':Shared) e1,Kp s s'→St hb tabs L l (pre++(d,ae [] e1)::post) s'.heap→∀ i j,i<vs.length→j<vs.length→∀ C:BP,(∀ b tk,(H→b=decide (rk i<rk j))→C b (wt s' tk)) →
   wpAny (model prog w) A.in1 (keyLt' oneType' (vs.getD i .none) (vs.getD j .none)) C (fun _ _=>False) s')
  (k:∀ s' n' (p:Array Nat),Kp s s'→Pm vs.length p→(H→aL rk p vs.length)→St hb tabs L l (pre++(d,ae (p.toList.map fun i=>vs.getD i .none) n')::post) s'.heap→Q .none s') :
  wpAny (model prog w) A (call (.builtin "list.sort") [.ref d]) Q E s:=by
 obtain⟨m,TL,F,N,hl,nd,hTL,back⟩:=S.toK
 have hmem:(d,ae vs n)∈pre++(d,ae vs n)::post:=List.mem_append_right _ (.head _)
 have ho:=S.obj _ hmem
 have hdn:=S.new _ hmem
 have ndT:=(List.nodup_cons.mp S.nd)
 have hdL:d≠L:=fun e=>ndT.1 (by rw[← e];exact List.mem_map.mpr ⟨_,hmem,rfl⟩)
 have nd2:=ndT.2
 rw[List.map_append,List.map_cons] at nd2
 obtain⟨-,n3,n4⟩:=List.nodup_append.mp nd2
 have hne:∀ p∈TL++(pre++post),p.1≠d:=fun p hp=>by
  rcases List.mem_append.mp hp with q | q
  ·exact Nat.ne_of_lt (Nat.lt_of_lt_of_le (hTL p q) hdn)
  ·rcases List.mem_append.mp q with q | q
   ·exact n4 _ (List.mem_map.mpr ⟨p,q,rfl⟩) _ (.head _)
   ·intro e
    exact (List.nodup_cons.mp n3).1 (e▸List.mem_map.mpr ⟨p,q,rfl⟩)
 have N0:News (hideAll hb tabs) L s.heap (TL++(pre++post)):=fun p hp=>by
  refine N p ?_
  rcases List.mem_append.mp hp with q | q
  ·exact List.mem_append_left _ q
  ·refine List.mem_append_right _ ?_
   rcases List.mem_append.mp q with q | q
   ·exact List.mem_append_left _ q
   ·exact List.mem_append_right _ (.tail _ q)
 have hd0:(hideAll hb tabs).get? d=none:=(N _ (List.mem_append_right _ hmem)).2.2
 have keys:∀ o',(pre++(d,o')::post).map (·.1)=(pre++(d,ae vs n)::post).map (·.1):=fun o'=>by simp
 have toSt:∀ (h':Heap) (o':Obj),Fr (hideAll hb tabs) L h' m→News (hideAll hb tabs) L h' ((d,o')::(TL++(pre++post)))→St hb tabs L l (pre++(d,o')::post) h':=fun h' o' F' N'=>by
  refine back h' m _ l F' (fun p hp=>N' p ?_) hl nd (fun p hp=>?_) (by rw[keys];exact S.nd)
  ·rcases List.mem_append.mp hp with q | q
   ·exact .tail _ (List.mem_append_left _ q)
   ·rcases List.mem_append.mp q with q | q
    ·exact .tail _ (List.mem_append_right _ (List.mem_append_left _ q))
    ·rcases List.mem_cons.mp q with rfl | q
     ·exact .head _
     ·exact .tail _ (List.mem_append_right _ (List.mem_append_right _ q))
  ·have hk:p.1∈(pre++(d,ae vs n)::post).map (·.1):=by rw[← keys o'];exact List.mem_map.mpr ⟨p,hp,rfl⟩
   obtain⟨p',hp',e⟩:=List.mem_map.mp hk
   rw[← e];exact S.new p' hp'
 have toN:∀ (h':Heap) (o':Obj),St hb tabs L l (pre++(d,o')::post) h'→(∀ p∈TL,h'.get? p.1=some p.2)→News (hideAll hb tabs) L h' ((d,o')::(TL++(pre++post))):=fun h' o' S' hT=>fun p hp=>by
  rcases List.mem_cons.mp hp with rfl | hp
  ·exact⟨S'.obj _ (List.mem_append_right _ (.head _)),hdL,hd0⟩
  ·have:=N0 p hp
   refine⟨?_,this.2⟩
   rcases List.mem_append.mp hp with q | q
   ·exact hT p q
   ·rcases List.mem_append.mp q with q | q
    ·exact S'.obj _ (List.mem_append_left _ q)
    ·exact S'.obj _ (List.mem_append_right _ (.tail _ q))
 refine wpAny_call_entry PyProof.Rows.slot_list_sort ⟨_,ho,rfl⟩ PyProof.Rows.entry_list_sort ?_ (args_list_sort _)
 refine kas_list_sort (T:=Tt) F N0 ho hdL hd0 hne h2 h64 (fun e1 h' F' N' v hv=>?_) hT1 hT2 fun e1 h' F' N'=>?_
 ·obtain⟨a,o,rfl,hm,rfl⟩:=hty v hv
  exact (Looks.ld (N' (a,o) (.tail _ (List.mem_append_right _ hm))).1).andThen .now
 ·refine KOk.wp (Inv:=fun s'=>Kp s s'∧Fr (hideAll hb tabs) L s'.heap m∧News (hideAll hb tabs) L s'.heap ((d,seqObj "list" #[] e1)::(TL++(pre++post)))) (fun i j C s' hI hD hC=>?_) (fun p s' hI hp=>?_) (jb (H:=H) (rk:=rk) (by exact z22 h2:0<vs.length)) ⟨⟨rfl,id⟩,F',N'⟩
  ·obtain⟨K',F',N'⟩:=hI
   have S':=toSt _ _ F' N'
   exact hlt s' e1 K' S' i j hD.1 hD.2 C fun b tk hb'=>hC b _ ⟨⟨K'.os,K'.gens⟩,F',N'⟩ hb'
  ·obtain⟨K',F',N'⟩:=hI
   refine KasFin.intro F' N' (.head hne) fun h'' c F'' N''=>?_
   exact⟨_,rfl,k _ c p ⟨K'.os,K'.gens⟩ hp.1 hp.2 (toSt _ _ F'' N'')⟩
end
end
section
namespace MP
theorem jd:Slot "map" "__init__" "object.__init__" :=
 .of (owner := "object") (n := "__init__") (by rw[typeLookup_type,builtinLookup_eq_fast];kernel_rfl) (by decide +kernel) (by decide +kernel) (by decide +kernel)
  (by first | exact .inl (by decide +kernel) | exact .inr (by decide +kernel)) (by rw[isSubtype_type];kernel_rfl)
theorem mro:mroOf (.type "map")=pure [.type "map", .type "object"]:=by rw[mroOf_type];kernel_rfl
theorem iH:typeLookup (.type "map") "__new__" = pure (some (.builtin "map.__new__")):=by rw[typeLookup_type,builtinLookup_eq_fast];kernel_rfl
theorem called:TypeCalled "map" "map.__new__" "object.__init__" :=
 ⟨by decide +kernel,by decide +kernel,⟨_,_,mro⟩,madeBy_type mro iH (by decide +kernel),by decide +kernel,by rw[isSubtype_type];kernel_rfl,jd⟩
theorem typeCall (a b:Value):checkTypeCall "map" ⟨[a,b],[]⟩=pure ():=by kernel_rfl
theorem newCall (a b:Value):checkBuiltinCall "map.__new__" ⟨[.type "map", a,b],[]⟩=pure ():=by kernel_rfl
theorem entry_new:entryFor table "map.__new__" = some Builtin.«map.__new__»:=entryFor_of_tree (by kernel_rfl)
theorem slot_iter:Slot "map" "__iter__" "map.__iter__" :=
 .of (owner := "map") (n := "__iter__") (by rw[typeLookup_type,builtinLookup_eq_fast];kernel_rfl) (by decide +kernel) (by decide +kernel) (by decide +kernel)
  (by first | exact .inl (by decide +kernel) | exact .inr (by decide +kernel)) (by rw[isSubtype_type];kernel_rfl)
theorem entry_iter:entryFor table "map.__iter__" = some Builtin.«dict_keyiterator.__iter__» :=
 entryFor_alias (id' := "dict_keyiterator.__iter__") (by kernel_rfl) (by first | rfl | decide +kernel | (unfold String.splitOn;simp +decide [String.splitOnAux])) (by decide +kernel) (by kernel_rfl)
theorem args_iter (a:Value):argsOk "map.__iter__" ⟨[a],[]⟩:=by unfold argsOk;kernel_rfl
theorem slot_next:Slot "map" "__next__" "map.__next__" :=
 .of (owner := "map") (n := "__next__") (by rw[typeLookup_type,builtinLookup_eq_fast];kernel_rfl) (by decide +kernel) (by decide +kernel) (by decide +kernel)
  (by first | exact .inl (by decide +kernel) | exact .inr (by decide +kernel)) (by rw[isSubtype_type];kernel_rfl)
theorem entry_next:entryFor table "map.__next__" = some Builtin.«map.__next__»:=entryFor_of_tree (by kernel_rfl)
theorem args_next (a:Value):argsOk "map.__next__" ⟨[a],[]⟩:=by unfold argsOk;kernel_rfl
theorem no_len:typeLookup (.type "map") "__len__" = pure none:=by rw[typeLookup_type,builtinLookup_eq_fast];kernel_rfl
theorem no_hint:typeLookup (.type "map") "__length_hint__" = pure none:=by rw[typeLookup_type,builtinLookup_eq_fast];kernel_rfl
theorem sub_map:isSubtype (.type "map") (.type "map")=pure true:=by rw[isSubtype_type];kernel_rfl
end MP
end
section
abbrev gp (d:Addr) (i:Nat):Obj:={ cls:=.type "list_iterator", data:=.fields #[.ref d,.int i 0] }
abbrev f6 (t:Addr) (f:Value):Obj:={ cls:=.type "map", data:=.fields #[.ref t,f] }
theorem ff(f:Value)(l:Addr)(vs:List Value)(n:Nat) :
  Meets (Builtin.«map.__new__» ⟨[.type "map", f,.ref l],[]⟩) (fun _ R s=>s.heap.get? l=some (ae vs n) ∧
   R (.ok (.ret (.ref ((s.heap.push (gp l 0)).push (au [.ref s.heap.objs.size])).objs.size))) (wh s (((s.heap.push (gp l 0)).push (au [.ref s.heap.objs.size])).push (f6 (s.heap.push (gp l 0)).objs.size f)))) :=
 .of_wp fun prog w A R s h=>by
  obtain⟨hp,g,d,tk,os⟩:=s;obtain⟨hl,h⟩:=h
  have hL:Heap.IsList (Shared.heap ⟨hp,g,d,tk,os⟩) l vs.toArray:=⟨_,hl,rfl,n,rfl⟩
  have hsub:=MP.sub_map
  unfold Builtin.«map.__new__» Builtin.SmallTypes.newClass Builtin.SmallTypes.refuseKeywords Builtin.SmallTypes.iterAll Builtin.SmallTypes.newRecord
  refine wpAny_bind (wpAny_bind (wpAny_of_eq (a:=true) rfl ?_))
  refine KFB.if_not rfl ?_
  refine wpAny_bind (wpAny_of_eq hsub ?_)
  refine KFB.if_not rfl (wpAny_pure ?_)
  refine wpAny_bind ?_
  refine KFB.if_so rfl (wpAny_pure ?_)
  refine wpAny_ite_split (fun hab=>absurd hab (by simp)) (fun _=>?_)
  refine wpAny_bind (wpAny_bind ?_)
  show wpAny _ _ (forIn [Value.ref l] _ _) _ _ _
  rw[List.forIn_cons]
  refine wpAny_bind (wpAny_bind (wpAny_holding (wpAny_pyIter_list hL (wpAny_pure ?_))))
  show wpAny _ _ (forIn [] _ _) _ _ _
  rw[List.forIn_nil]
  refine wpAny_pure (wpAny_pure ?_)
  refine wpAny_bind (wpAny_newTuple ?_ (by show 1≤sizeLine;rw[sizeLine_eq];decide))
  refine wpAny_bind (wpAny_newObj_type ?_ (by size_fits))
  exact wpAny_pure ⟨_,rfl,h⟩
section
variable{prog:Program}{w:World}{A:Around}{E:VP}{s:Shared}{hb:Heap}{tabs:List Addr}{L d mp t it:Addr}{l:List (Str×Value)}{T:List (Addr×Obj)}{vs:List Value}{f x:Value}{n i:Nat}
theorem r_map{Q:VP}(S:St hb tabs L l T s.heap)(hm:(d,ae vs n)∈T)(h:∀ mp t it h',St hb tabs L l ((mp,f6 t f)::(t,au [.ref it])::(it,gp d 0)::T) h'→Q (.ref mp) (wh s h')) :
  wpAny (model prog w) A (call (.type "map") [f,.ref d]) Q E s:=by
 have S':=((S.push (gp d 0)).push (au [.ref s.heap.objs.size])).push (f6 (s.heap.push (gp d 0)).objs.size f)
 refine callType_new MP.called (by decide) (MP.typeCall _ _) (MP.newCall _ _) (fun obj=>F.args_object_init_3 obj _ _) MP.entry_new (ff f d vs n) ⟨S.obj _ hm,⟨_,S'.obj _ m0,rfl⟩,h _ _ _ _ S'⟩
theorem k6{Q:VP}(S:St hb tabs L l T s.heap)(hm:(mp,f6 t f)∈T)(h:Q (.ref mp) s):wpAny (model prog w) A (pyIter (.ref mp)) Q E s:=by
 have hT:s.TypeIs (.ref mp) "map" := ⟨_,S.obj _ hm,rfl⟩
 refine wpAny_pyIter_slot hT MP.slot_iter (wpAny_call_entry MP.slot_iter hT MP.entry_iter ?_ (MP.args_iter _))
 show wpAny _ _ (ret (.ref mp)) _ _ s
 exact wpAny_pure ⟨_,rfl, "map", _,hT,MP.slot_next.lookup,h⟩
def bC (o:Obj) (d:Addr) (i:Nat):Prop:=o.cls=.type "list_iterator" ∧ o.data=.fields #[.ref d,.int i 0]
theorem k7{Q:Option Value→Shared→Prop}{o:Obj}(ii:Nat)(S:St hb tabs L l T s.heap)(hmp:(mp,f6 t f)∈T)(ht:(t,au [.ref it])∈T)(hit:T[ii]? = some (it,o))(ho:bC o d i)(hd:(d,ae vs n)∈T)(hx:vs[i]? = some x)(hne:mp≠it)
  (h:∀ h' o' E',bC o' d (i+1)→St hb tabs L l (T.set ii (it,o')) h'→wpAny (model prog w) A.in1 (call f [x]) (fun v s'=>Q (some v) s') E' (wh s h')):wpAny (model prog w) A (pyNext (.ref mp)) Q E s:=by
 have hT:s.TypeIs (.ref mp) "map" := ⟨_,S.obj _ hmp,rfl⟩
 have hi:=S.obj _ (List.mem_of_getElem? hit)
 unfold pyNext
 refine wpAny_bind (wpAny_attempt (wpAny_callSpecial?_slot (name:=Str.ofString "__next__") hT MP.slot_next (wpAny_call_entry MP.slot_next hT MP.entry_next ?_ (MP.args_next _))))
 show wpAny _ _ (field (.ref mp) 0 >>= _) _ _ s
 refine wpAny_bind (wpAny_field (S.obj _ hmp) rfl (x:=.ref t) rfl ?_)
 show wpAny _ _ (seqItems? (.ref t) >>= _) _ _ s
 refine wpAny_bind (wpAny_seqItems (S.obj _ ht) rfl ?_)
 show wpAny _ _ (forIn (#[Value.ref it]:Array Value) _ _ >>= _) _ _ s
 rw[← Array.forIn_toList]
 refine wpAny_bind ?_
 show wpAny _ _ (forIn [Value.ref it] _ _) _ _ s
 rw[List.forIn_cons]
 refine wpAny_bind (wpAny_bind (wpAny_holding (wpAny_nextOf_list_item (items:=vs.toArray) ⟨_,hi,ho.1,ho.2⟩ ⟨_,S.obj _ hd,rfl,n,rfl⟩ (by simpa using hx) fun h' hit' hs'=>wpAny_pure ?_)))
 show wpAny _ _ (forIn [] _ _) _ _ _
 rw[List.forIn_nil]
 obtain⟨o',ho',hc',hd'⟩:=hit'
 have S':=S.change ii hit hs' ho'
 refine wpAny_pure ?_
 show wpAny _ _ (field (.ref mp) 1 >>= _) _ _ _
 refine wpAny_bind (wpAny_field (s:=(wh s h')) ((hs'.2 mp hne).trans (S.obj _ hmp)) rfl (x:=f) rfl ?_)
 refine wpAny_bind (wpAny_holding ?_)
 refine wpAny_mono (h h' o' _ ⟨hc',hd'⟩ S') (fun v s' hq=>?_) fun _ _ z=>z
 exact wpAny_bind (wpAny_letGo (wpAny_pure ⟨_,rfl,wpAny_pure hq⟩))
theorem nB{Q:Option Value→Shared→Prop}{o:Obj}(ii:Nat)(hh:A.handled=none)(S:St hb tabs L l (T++[(it,o)]) s.heap)(hmp:(mp,f6 t f)∈T)(ht:(t,au [.ref it])∈T)(ho:bC o d vs.length)(hd:(d,ae vs n)∈T)
  (h:∀ h',St hb tabs L l T h'→Q none (wh s h')):wpAny (model prog w) A (pyNext (.ref mp)) Q E s:=by
 have hmp':(mp,f6 t f)∈T++[(it,o)]:=List.mem_append_left _ hmp
 have hT:s.TypeIs (.ref mp) "map" := ⟨_,S.obj _ hmp',rfl⟩
 have hi:=S.obj (it,o) (List.mem_append_right _ (.head _))
 unfold pyNext
 refine wpAny_bind (wpAny_attempt (wpAny_callSpecial?_slot (name:=Str.ofString "__next__") hT MP.slot_next (wpAny_call_entry MP.slot_next hT MP.entry_next ?_ (MP.args_next _))))
 show wpAny _ _ (field (.ref mp) 0 >>= _) _ _ s
 refine wpAny_bind (wpAny_field (S.obj _ hmp') rfl (x:=.ref t) rfl ?_)
 show wpAny _ _ (seqItems? (.ref t) >>= _) _ _ s
 refine wpAny_bind (wpAny_seqItems (S.obj _ (List.mem_append_left _ ht)) rfl ?_)
 show wpAny _ _ (forIn (#[Value.ref it]:Array Value) _ _ >>= _) _ _ s
 rw[← Array.forIn_toList]
 refine wpAny_bind ?_
 show wpAny _ _ (forIn [Value.ref it] _ _) _ _ s
 rw[List.forIn_cons]
 refine wpAny_bind (wpAny_bind (wpAny_holding (wpAny_nextOf_list_end (items:=vs.toArray) hh ⟨_,hi,ho.1,ho.2⟩ ⟨_,S.obj _ (List.mem_append_left _ hd),rfl,n,rfl⟩ (by simp) fun h' e he hx=>?_)))
 obtain⟨ox,hox,hcx⟩:=hx
 refine wpAny_bind (wpAny_isInstance (T := "StopIteration") (b:=true) ⟨ox,hox,hcx⟩ isSubtype_stop ?_)
 refine wpAny_pure (h h' (S.drop (own:=[(it,o)]) fun b x hb' e=>he b x (fun q=>hb' (by rw[q];exact .head _)) e))
end
end
section
section
variable{prog:Program}{w:World}{A:Around}{E:VP}{s:Shared}{hb:Heap}{tabs:List Addr}{L d mp t it D I:Addr}{l:List (Str×Value)}{T:List (Addr×Obj)}{vs:List Value}{f x res:Value}{n i:Nat}{R:Result→Shared→Prop}{J:Nat→List Value→List (Addr×Obj)→Prop}{Je:List Value→List (Addr×Obj)→Prop}
theorem dp(vs:List Value)(v:Value)(c:Nat):Obj.mapSeq (·.push v) (ae vs c)=ae (vs++[v]) (c+1):=by simp[Obj.mapSeq,ae]
theorem gO(hn:n≤1000)
  (step:∀ i acc T1 c s₁ E',i<n→acc.length=i→J i acc T1→St hb tabs L l ((D,ae acc c)::T1) s₁.heap→Kp s s₁ →
   wpAny (model prog w) A.in1 (pyNext (.ref I)) (fun o s_2=>Ex2 fun v T₂=>An4 (o=some v) (Kp s s_2) (St hb tabs L l ((D,ae acc c)::T₂) s_2.heap) (J (i+1) (acc++[v]) T₂)) E' s₁)
  (done:∀ acc T1 c s₁ E',acc.length=n→J n acc T1→St hb tabs L l ((D,ae acc c)::T1) s₁.heap→Kp s s₁ →
   wpAny (model prog w) A.in1 (pyNext (.ref I)) (fun o s_2=>o=none∧Kp s s_2∧∃ T₂,St hb tabs L l ((D,ae acc c)::T₂) s_2.heap∧Je acc T₂) E' s₁)
  (hR:∀ s' acc T' c,Kp s s'→St hb tabs L l ((D,ae acc c)::T') s'.heap→Je acc T'→R (.ok (.ret res)) s') :
  ∀ (k i:Nat) (acc:List Value) (T1:List (Addr×Obj)) (c:Nat) (s₁:Shared),n - i=k→i≤n→acc.length=i→J i acc T1→St hb tabs L l ((D,ae acc c)::T1) s₁.heap→Kp s s₁ →
   codeAny (model prog w) A (.builtin "list.extend.loop" ⟨[.ref D,.ref I,res],[]⟩) R s₁:=by
 intro k
 induction k with
 | zero =>
  intro i acc T1 c s₁ hk hi hacc hJ S hKp
  have:i=n:=by exact z94 hk hi
  subst this
  refine codeAny_builtin F.entry_extend_loop ?_
  rw[Around.under_plainId F.plain_extend_loop _]
  show wpAny _ A.in1 (pyNext (.ref I) >>= _) _ _ s₁
  refine wpAny_bind (wpAny_mono (done acc T1 c s₁ _ hacc hJ S hKp) (fun o s_2 z=>?_) fun _ _ z=>z)
  obtain⟨rfl,K2,T₂,S_2,hJe⟩:=z
  exact wpAny_pure (hR s_2 acc T₂ c K2 S_2 hJe)
 | succ k ih =>
  intro i acc T1 c s₁ hk hi hacc hJ S hKp
  refine codeAny_builtin F.entry_extend_loop ?_
  rw[Around.under_plainId F.plain_extend_loop _]
  show wpAny _ A.in1 (pyNext (.ref I) >>= _) _ _ s₁
  refine wpAny_bind (wpAny_mono (step i acc T1 c s₁ _ (by exact z96 hk) hacc hJ S hKp) (fun o s_2 z=>?_) fun _ _ z=>z)
  obtain⟨v,T₂,rfl,K2,S_2,hJ2⟩:=z
  have ho:=S_2.obj _ m0
  show wpAny _ A.in1 (updateSeq D (·.push v) >>= _) _ _ _
  refine wpAny_bind ?_
  refine wpAny_updateSeq ho rfl (wpAny_pure ⟨plainId_quiet F.plain_extend_loop _,?_⟩) (by rw[sizeLine_eq,List.size_toArray];exact z98 hn hi hacc) (by rw[sizeLine_eq,Array.size_push,List.size_toArray];exact z99 hn hi hacc)
  have S_3:=S_2.change (o':=ae (acc++[v]) (c+1)) 0 rfl (Heap.SameBut.update s_2.heap D (Obj.mapSeq (·.push v))) (by rw[Heap.get?_update_self _ ho (by rw[dp];rfl),dp])
  exact ih (i+1) (acc++[v]) T₂ _ _ (by exact z9a hk) (by exact z9b hk) (by simp[hacc]) hJ2 S_3 ⟨K2.os,K2.gens⟩
theorem jv{Q:VP}(S:St hb tabs L l T s.heap)(hm:(mp,f6 t f)∈T)(hn:n≤1000)(h0:J 0 [] T)
  (step:∀ D i acc T1 c s₁ E',i<n→acc.length=i→J i acc T1→St hb tabs L l ((D,ae acc c)::T1) s₁.heap→Kp s s₁ →
   wpAny (model prog w) A.in1.in1 (pyNext (.ref mp)) (fun o s_2=>Ex2 fun v T₂=>An4 (o=some v) (Kp s s_2) (St hb tabs L l ((D,ae acc c)::T₂) s_2.heap) (J (i+1) (acc++[v]) T₂)) E' s₁)
  (done:∀ D acc T1 c s₁ E',acc.length=n→J n acc T1→St hb tabs L l ((D,ae acc c)::T1) s₁.heap→Kp s s₁ →
   wpAny (model prog w) A.in1.in1 (pyNext (.ref mp)) (fun o s_2=>o=none∧Kp s s_2∧∃ T₂,St hb tabs L l ((D,ae acc c)::T₂) s_2.heap∧Je acc T₂) E' s₁)
  (k:∀ s' D acc T' c,Kp s s'→St hb tabs L l ((D,ae acc c)::T') s'.heap→Je acc T'→Q (.ref D) s') :
  wpAny (model prog w) A (call (.type "list") [.ref mp]) Q E s:=by
 refine callType_codes (Q₁:=fun obj s₁=>obj=.ref s.heap.objs.size∧s₁ = { s with heap:=s.heap.push { cls:=.type "list", data:=.seq #[] } }) F.called_list (F.typeCall_list_1 _) F.entry_list_init
  (code_list_new _ ⟨rfl,rfl⟩) fun obj s₁ h_1=>?_
 obtain⟨rfl,rfl⟩:=h_1
 have S_1:=S.push (ae [] 0)
 refine⟨⟨_,S_1.obj _ m0,rfl⟩,F.args_list_init_2 _ _,?_⟩
 show wpAny _ A.in1.in1 (do let old ← Builtin.List.listItems (.ref s.heap.objs.size);Builtin.List.listUpdate (.ref s.heap.objs.size) (fun _=>#[]);letGo old.toList.reverse;Builtin.List.listExtendWith (.ref s.heap.objs.size) (.ref mp) .none) _ _ _
 refine wpAny_bind ?_
 unfold Builtin.List.listItems
 refine wpAny_bind (wpAny_seqItems (S_1.obj _ m0) rfl (wpAny_pure ?_))
 show wpAny _ A.in1.in1 (updateSeq s.heap.objs.size (fun _=>#[]) >>= fun _=>letGo (#[]:Array Value).toList.reverse >>= fun _=>Builtin.List.listExtendWith (.ref s.heap.objs.size) (.ref mp) .none) _ _ _
 refine wpAny_bind (wpAny_updateSeq (S_1.obj _ m0) rfl ?_)
 obtain⟨c1,hc1⟩:∃ c,Obj.mapSeq (fun _=>(#[]:Array Value)) (ae [] 0)=ae [] c:=⟨_,rfl⟩
 have S_2:=S_1.change (o':=ae [] c1) 0 rfl (Heap.SameBut.update _ s.heap.objs.size (Obj.mapSeq fun _=>(#[]:Array Value))) (by rw[Heap.get?_update_self _ (S_1.obj _ m0) rfl,← hc1])
 refine wpAny_bind (wpAny_letGo ?_)
 have hmp:(mp,f6 t f)∈(s.heap.objs.size,ae [] c1)::T:=.tail _ hm
 have hne:s.heap.objs.size≠mp:=fun e=>Nat.lt_irrefl _ (e▸S.lt hm)
 unfold Builtin.List.listExtendWith
 refine wpAny_bind (wpAny_typeOf (T := "map") ⟨_,S_2.obj _ hmp,rfl⟩ ?_)
 have h1:Builtin.List.listSameRef (.ref s.heap.objs.size) (.ref mp)=false:=by simp[Builtin.List.listSameRef,hne]
 have h2:(Value.type "map" == Value.type "list")=false:=by decide
 have h3:(Value.type "map" == Value.type "tuple")=false:=by decide
 simp only[h1,h2,h3,Bool.or_false,Bool.false_eq_true,if_false]
 refine wpAny_bind (k6 S_2 hmp ?_)
 refine wpAny_bind (wpAny_holding ?_)
 unfold Builtin.List.listLengthHint
 refine wpAny_bind (wpAny_specialOf (T := "map") ⟨_,S_2.obj _ hmp,rfl⟩ MP.no_len ?_)
 show wpAny _ _ (specialOf (Value.ref mp) (Str.ofString "__length_hint__") >>= _) _ _ _
 refine wpAny_bind (wpAny_specialOf (T := "map") ⟨_,S_2.obj _ hmp,rfl⟩ MP.no_hint ?_)
 refine wpAny_pure ?_
 refine KFB.if_so rfl ?_
 refine wpAny_bind (wpAny_rule ?_)
 refine wpAny_bind ?_
 show wpAny _ _ (updateSeq s.heap.objs.size (·.push .none) >>= fun _=>updateSeq s.heap.objs.size (·.pop)) _ _ _
 obtain⟨c2,hc2⟩:∃ c,Obj.mapSeq (·.push Value.none) (ae [] c1)=ae [.none] c:=⟨_,rfl⟩
 obtain⟨c3,hc3⟩:∃ c,Obj.mapSeq (·.pop) (ae [.none] c2)=ae [] c:=⟨_,rfl⟩
 refine wpAny_bind (wpAny_updateSeq (S_2.obj _ m0) rfl ?_)
 have S_3:=S_2.change (o':=ae [.none] c2) 0 rfl (Heap.SameBut.update _ s.heap.objs.size (Obj.mapSeq (·.push Value.none))) (by rw[Heap.get?_update_self _ (S_2.obj _ m0) rfl,← hc2])
 refine wpAny_updateSeq (S_3.obj _ m0) rfl ?_
 have S4:=S_3.change (o':=ae [] c3) 0 rfl (Heap.SameBut.update _ s.heap.objs.size (Obj.mapSeq (·.pop))) (by rw[Heap.get?_update_self _ (S_3.obj _ m0) rfl,← hc3])
 refine wpAny_pure ⟨plainId_quiet F.plain_extend_loop _,?_⟩
 exact gO hn (step _) (done _) (fun s' acc T' c K' S' hJ=>⟨rfl,k s' _ acc T' c K' S' hJ⟩) n 0 [] T c3 _ rfl (Nat.zero_le _) rfl h0 S4 ⟨rfl,id⟩
end
end
section
section
variable{prog:Program}{w:World}{A:Around}{E:VP}{s:Shared}{hb:Heap}{tabs:List Addr}{L d I:Addr}{l:List (Str×Value)}{T own Ro:List (Addr×Obj)}{vs:List Value}{v:Value}{n:Nat}{env:Env}{fp wr:List Addr}{P:Nat→Value→Prop}{Wt:Nat→Heap→Prop}{target:Expr}{body:List Stmt}
theorem gD{Q:VP}(i:Nat)(S:St hb tabs L l T s.heap)(hi:T[i]? = some (d,ae vs n))(hz:vs.length<2)(h:∀ h' n',St hb tabs L l (T.set i (d,ae vs n')) h'→Q .none (wh s h')) :
  wpAny (model prog w) A (call (.builtin "list.sort") [.ref d]) Q E s:=by
 have ho:=S.obj _ (List.mem_of_getElem? hi)
 refine wpAny_call_entry PyProof.Rows.slot_list_sort ⟨_,ho,rfl⟩ PyProof.Rows.entry_list_sort ?_ (args_list_sort _)
 rw[list_sort_plain]
 have hlen:=(List.getElem?_eq_some_iff.mp hi).1
 obtain⟨c1,hc1⟩:∃ c,Obj.mapSeq (fun _=>(#[]:Array Value)) (ae vs n)=ae [] c:=⟨_,rfl⟩
 refine wpAny_bind (listItems_at ho rfl ?_)
 refine wpAny_bind (listUpdate_at ho rfl ?_ (by rw[sizeLine_eq,List.size_toArray];exact ul 16777214 hz) (Nat.zero_le _))
 have S_1:=S.change (o':=ae [] c1) i hi (Heap.SameBut.update _ d (Obj.mapSeq fun _=>(#[]:Array Value))) (by rw[Heap.get?_update_self _ ho rfl,← hc1])
 have hi1:(T.set i (d,ae [] c1))[i]? = some (d,ae [] c1):=by rw[List.getElem?_set_self hlen]
 refine wpAny_bind (seqEpoch_at (S_1.obj _ (List.mem_of_getElem? hi1)) rfl ?_)
 have S_2:=S_1.push (au vs.toArray.toList)
 have S_3:=S_2.push (ae [] 0)
 refine wpAny_bind (wpAny_newTuple ?_ (by show vs.length≤_;rw[sizeLine_eq];exact ul 16777214 hz))
 refine wpAny_bind (wpAny_newList ?_ (Nat.zero_le _))
 refine wpAny_holding ?_
 dsimp only
 have hn2:vs.toArray.size<2:=by rw[List.size_toArray];exact hz
 rw[if_pos hn2,if_pos hn2]
 refine wpAny_bind (wpAny_pure ?_)
 refine wpAny_bind ?_
 show wpAny _ _ (pure ((),SortSt.mk' general' (vs.toArray.zip vs.toArray) #[] 7 none)) _ _ _
 refine wpAny_pure ?_
 have e1:(arrOf (SortSt.mk' general' (vs.toArray.zip vs.toArray) #[] 7 none)).map (·.2)=vs.toArray:=by
  show (vs.toArray.zip vs.toArray).map (·.2)=vs.toArray
  apply Array.toList_inj.mp
  simp
  exact List.map_snd_zip (Nat.le_refl _)
 dsimp only
 rw[e1]
 have hm3:(d,ae [] c1)∈((s.heap.update d (Obj.mapSeq fun _=>(#[]:Array Value))).push (au vs.toArray.toList) |>.objs.size,ae [] 0)::((s.heap.update d (Obj.mapSeq fun _=>(#[]:Array Value))).objs.size,au vs.toArray.toList)::T.set i (d,ae [] c1):=.tail _ (.tail _ (List.mem_of_getElem? hi1))
 refine wpAny_bind (seqEpoch_at (S_3.obj _ hm3) rfl ?_)
 obtain⟨c2,hc2⟩:∃ c,Obj.mapSeq (fun _=>vs.toArray) (ae [] c1)=ae vs c:=⟨_,rfl⟩
 refine wpAny_bind (listUpdate_at (S_3.obj _ hm3) rfl ?_ (Nat.zero_le _) (by rw[sizeLine_eq,List.size_toArray];exact z9e hz))
 have hi3:(((s.heap.update d (Obj.mapSeq fun _=>(#[]:Array Value))).push (au vs.toArray.toList) |>.objs.size,ae [] 0)::((s.heap.update d (Obj.mapSeq fun _=>(#[]:Array Value))).objs.size,au vs.toArray.toList)::T.set i (d,ae [] c1))[i+2]? = some (d,ae [] c1):=hi1
 have S4:=S_3.change (o':=ae vs c2) (i+2) hi3 (Heap.SameBut.update _ d (Obj.mapSeq fun _=>vs.toArray)) (by rw[Heap.get?_update_self _ (S_3.obj _ hm3) rfl,← hc2])
 have S5:=S4.sub (T':=(T.set i (d,ae [] c1)).set i (d,ae vs c2)) (.cons _ (List.sublist_cons_self _ _))
 rw[List.set_set] at S5
 refine KFB.if_not (by simp) ?_
 exact wpAny_pure ⟨_,rfl,h _ c2 S5⟩
theorem jY{R:Result→Shared→Prop}(W:Walks prog w A I fp wr n P Wt)(hown:∀ i (s:Shared) v (Q:UP) E,Wt i s.heap→Q () s→wpAny (model prog w) A (letOwnedTupleGo target (.ref I) v) Q E s)
  (hex:∀ i h,Wt i h→∀ b∈wr,∃ o,h.get? b=some o) (how:own.map (·.1)=wr)
  (hro:∀ b∈fp,b∉wr→(∃ o,(b,o)∈Ro)∨∃ o,hb.get? b=some o∧b∉tabs) (S:St hb tabs L l (T++own) s.heap) (hst:Wt 0 s.heap)
  (J:Nat→List (Str×Value)→List (Addr×Obj)→Prop) (h0:J 0 l T) (hR0:∀ p∈Ro,p∈T)
  (step:∀ E i v l₁ T1 own1 s₁,i<n→P i v→J i l₁ T1→St hb tabs L l₁ (T1++own1) s₁.heap→(∀ p∈Ro,p∈T1)→Kp s s₁ →
   wpAny (model prog w) A (assign target env v) (lh (model prog w) A env E body (nF hb tabs L own1 Ro (J (i+1)) s R)) E s₁)
  (hR:∀ s' l' T',Kp s s'→St hb tabs L l' T' s'.heap→J n l' T'→(∀ p∈Ro,p∈T')→R (.ok .next) s') :
  codeAny (model prog w) A (.forLoop target (.ref I) body [] env) R s:=by
 refine codeAny_forLoop_any (fun k s'=>Ex4 fun i l₁ T1 own1=>An8 (own1.map (·.1)=wr) (St hb tabs L l₁ (T1++own1) s'.heap) (Wt i s'.heap) (J i l₁ T1) ((∀ p∈Ro,p∈T1)) (Kp s s') (i≤n) (k=n - i)) ?_ n ⟨0,l,T,own,how,S,hst,h0,hR0,Kp.refl,Nat.zero_le _,rfl⟩
 rintro k s' ⟨i,l₁,T1,own1,how1,S_1,hst1,hJ,hRo,hKp,hi,rfl⟩
 by_cases hlt:i<n
 ·refine W.item i _ _ _ hlt hst1 fun v h_1 tk_1 hP hst2 hk_1=>?_
  obtain⟨own2,e_2,S_2⟩:=S_1.moved (h':=h_1) (fun b o hb' e=>hk_1 b o (how1▸hb') e) (fun b hb'=>hex _ _ hst2 b (how1▸hb'))
  refine hown (i+1) _ _ _ _ hst2 ?_
  refine wpAny_mono (step _ i v l₁ T1 own2 (wht s' h_1 tk_1) hlt hP hJ S_2 hRo hKp.with) (fun _ s_2 h_2=>wpAny_mono h_2 (fun f s3 h_3=>?_) fun _ _ e=>e) fun _ _ e=>e
  have fin:(Ex2 fun l₂ T₂=>An4 (St hb tabs L l₂ (T₂++own2) s3.heap) (J (i+1) l₂ T₂) ((∀ p∈Ro,p∈T₂)) (Kp s s3))→∃ m,m<n - i∧Ex4 fun i l₁ T1 own1=>An8 (own1.map (·.1)=wr) (St hb tabs L l₁ (T1++own1) s3.heap) (Wt i s3.heap) (J i l₁ T1) ((∀ p∈Ro,p∈T1)) (Kp s s3) (i≤n) (m=n - i):=by
   rintro⟨l₂,T₂,S_3,hJ3,hRo3,hKp3⟩
   refine⟨n - (i+1),by exact z8t hlt,i+1,l₂,T₂,own2,e_2.trans how1,S_3,W.frame _ _ _ hst2 fun b hb' o e=>?_,hJ3,hRo3,hKp3,hlt,rfl⟩
   by_cases q:b∈wr
   ·have:b∈own2.map (·.1):=by rw[e_2,how1];exact q
    obtain⟨p,hp,rfl⟩:=List.mem_map.mp this
    have e1:h_1.get? p.1=some p.2:=S_2.obj p (List.mem_append_right _ hp)
    have e2:=S_3.obj p (List.mem_append_right _ hp)
    rw[e1] at e
    rw[← e];exact e2
   ·rcases hro b hb' q with⟨o',ho'⟩ | ⟨o',ho',hnt⟩
    ·have e1:h_1.get? b=some o':=S_2.obj _ (List.mem_append_left _ (hRo _ ho'))
     rw[e1] at e
     rw[← e];exact S_3.obj _ (List.mem_append_left _ (hRo3 _ ho'))
    ·have e1:h_1.get? b=some o':=S_2.keep _ _ ho' hnt
     rw[e1] at e
     rw[← e];exact S_3.keep _ _ ho' hnt
  cases f with
  | next=>exact fin h_3
  | cont=>exact fin h_3
  | brk=>exact h_3
  | ret v=>exact h_3
 ·have hin:i=n:=by exact z8u hi hlt
  subst hin
  refine W.done _ _ _ hst1 fun h_1 tk_1 hk_1=>wpAny_execs_nil ?_
  exact hR _ l₁ T1 hKp.with (S_1.drop fun b o hb' e=>hk_1 b o (how1▸hb') e) hJ hRo
theorem dI{Q:VP}(S:St hb tabs L l T s.heap)(hm:(d,ae vs n)∈T)
  (h:∀ I o Wt fp h',ItV prog w hb tabs [(d,ae vs n)] I vs.length (fun i v=>vs[i]? = some v) Wt fp→(∀ (A:Around) elts x1 tpos i (s:Shared) v (Q:UP) E,Wt i s.heap→Q () s→wpAny (model prog w) A (letOwnedTupleGo (.Tuple elts x1 tpos) (.ref I) v) Q E s) →
   Wt 0 h'→St hb tabs L l (T++[(I,o)]) h'→Q (.ref I) (wh s h')):wpAny (model prog w) A (pyIter (.ref d)) Q E s:=by
 have hl:s.heap.IsList d vs.toArray:=⟨_,S.obj _ hm,rfl,n,rfl⟩
 have hne:d≠s.heap.objs.size:=Nat.ne_of_lt (S.lt hm)
 refine wpAny_pyIter_list hl (h _ _ (fun i h=>h.IsListIter s.heap.objs.size d i∧h.IsList d vs.toArray) [s.heap.objs.size,d] _ ⟨fun A hA=>?_,?_,?_⟩ ?_ ⟨⟨_,Heap.get?_push_size _ rfl,rfl,rfl⟩,⟨_,Heap.get?_push_of_some _ (S.obj _ hm),rfl,n,rfl⟩⟩ (S.push _).last)
 case refine_1 =>
  have W:=Walks.list (prog:=prog) (w:=w) hA s.heap.objs.size d hne vs.toArray
  rw[List.size_toArray] at W
  exact bJ W fun i v e=>by simpa using e
 case refine_2 =>
  rintro i h ⟨⟨o,e,_⟩,_⟩
  exact⟨o,e⟩
 case refine_3 =>
  intro b hb' hn
  rcases List.mem_cons.mp hb' with rfl | hb'
  ·exact absurd (.head _) hn
  ·rw[List.mem_singleton] at hb'
   subst hb'
   exact .inl ⟨_,.head _⟩
 case refine_4 =>
  intro A elts x1 tpos i s v Q E hw hq
  cases v with
  | ref a=>exact wpAny_letOwnedTupleGo_listiter hw.1 hq
  | _=>exact wpAny_pure hq
end
end
section
def bu(a:Addr):Sem PySem.Fin:=(do
  let items ← Builtin.List.listItems (.ref a)
  Builtin.List.listUpdate (.ref a) fun _=>#[]
  let before ← seqEpoch a
  let held ← newTuple items.toList
  let keyStore ← newList []
  holding [held,keyStore] do
   rule "list.sort.reverse"
   let kind ← if items.size<2 then pure general' else keyKind' items
   let ((),s) ← (if items.size<2 then pure () else sortRuns').run (SortSt.mk' kind (items.zip items).reverse #[] 7 none)
   let sorted:=(arrOf s).map (·.2)
   let touched:=(← seqEpoch a) != before
   Builtin.List.listUpdate (.ref a) fun _=>sorted.reverse
   if let some e:=failedOf s then rule "list.sort.comparison-raised"; throw e
   if touched then rule "list.sort.modified"; raiseError "ValueError" "list modified during sort"
   ret .none)
theorem cW (a:Addr):Builtin.«list.sort» ⟨[.ref a],[(Str.ofString "reverse", .bool true)]⟩=bu a:=rfl
theorem dA (a:Addr):Builtin.«list.sort» ⟨[.ref a],[(Str.ofString "key", .none),(Str.ofString "reverse", .bool true)]⟩=bu a:=rfl
end
section
open PySem.Spec
section
variable{prog:Program}{w:World}{A:Around}{E:VP}{s:Shared}{hb:Heap}{tabs:List Addr}{L d:Addr}{l:List (Str×Value)}{T:List (Addr×Obj)}{vs:List Value}{n:Nat}{κ:SortKind}
theorem iA{H:Prop}{rk:Nat→Nat}{Q:PySem.Fin→Shared→Prop}(S:St hb tabs L l ((d,ae vs n)::T) s.heap)(h2:2≤vs.length)(h64:vs.length<64)
  (hkind:∀ (s':Shared) T' {Q:SortKind→Shared→Prop}{E:VP},St hb tabs L l T' s'.heap→(∀ p∈T,p∈T')→Q κ s'→wpAny (model prog w) A (keyKind' vs.toArray) Q E s')
  (hlt:∀ (s':Shared) T',Kp s s'→St hb tabs L l T' s'.heap→(∀ p∈T,p∈T')→∀ i j,i<vs.length→j<vs.length→∀ C:BP,(∀ b tk,(H→b=decide (rk i<rk j))→C b (wt s' tk)) →
   wpAny (model prog w) A (keyLt' κ (vs.reverse.getD i .none) (vs.reverse.getD j .none)) C (fun _ _=>False) s')
  (k:∀ s' n' (p:Array Nat),Kp s s'→Pm vs.length p→(H→aL rk p vs.length)→St hb tabs L l ((d,ae (p.toList.map fun i=>vs.reverse.getD i .none).reverse n')::T) s'.heap→Q (.done (.ret .none)) s') :
  wpAny (model prog w) A (bu d) Q E s:=by
 have ho:=S.obj _ m0
 unfold bu
 obtain⟨c1,hc1⟩:∃ c,Obj.mapSeq (fun _=>(#[]:Array Value)) (ae vs n)=ae [] c:=⟨_,rfl⟩
 refine wpAny_bind (listItems_at ho rfl ?_)
 refine wpAny_bind (listUpdate_at ho rfl ?_ (by rw[sizeLine_eq,List.size_toArray];exact ul 16777152 h64) (Nat.zero_le _))
 have S_1:=S.change (o':=ae [] c1) 0 rfl (Heap.SameBut.update _ d (Obj.mapSeq fun _=>(#[]:Array Value))) (by rw[Heap.get?_update_self _ ho rfl,← hc1])
 refine wpAny_bind (seqEpoch_at (S_1.obj _ m0) rfl ?_)
 have S_2:=S_1.push (au vs.toArray.toList)
 have S_3:=S_2.push (ae [] 0)
 refine wpAny_bind (wpAny_newTuple ?_ (by show vs.length≤_;rw[sizeLine_eq];exact ul 16777152 h64))
 refine wpAny_bind (wpAny_newList ?_ (Nat.zero_le _))
 refine wpAny_holding ?_
 dsimp only
 refine wpAny_bind (wpAny_rule ?_)
 have hn2:¬ vs.toArray.size<2:=by rw[List.size_toArray];exact zas h2
 rw[if_neg hn2,if_neg hn2]
 refine wpAny_bind (hkind _ _ S_3 (fun p hp=>.tail _ (.tail _ (.tail _ hp))) ?_)
 have ep:(vs.toArray.zip vs.toArray).reverse=vs.reverse.toArray.zip vs.reverse.toArray:=kat_pairs true (ks:=vs) (vs:=vs) rfl
 rw[ep]
 have hr:vs.reverse.length=vs.length:=List.length_reverse
 refine wpAny_bind (wpAny_mono (kat_run (ks:=vs.reverse) (vs:=vs.reverse) (κ:=κ) (Q:=fun st' s'=>∃ p:Array Nat,arrOf st'=p.map (kas_item (vs.reverse.toArray.zip vs.reverse.toArray))∧failedOf st'=none∧Kp s s'∧Pm vs.length p∧(H→aL rk p vs.length)∧(Ex4 fun a b ta tb=>St hb tabs L l ((a,ta)::(b,tb)::(d,ae [] c1)::T) s'.heap))
  (G:=fun p s'=>Kp s s'∧Pm vs.length p∧(H→aL rk p vs.length)∧Ex4 fun a b ta tb=>St hb tabs L l ((a,ta)::(b,tb)::(d,ae [] c1)::T) s'.heap) rfl (by exact zat h2 hr) (by exact zau h64 hr) (fun p st' s' a1 a2 a3 a4=>⟨p,a2,a3,a4⟩) ?_) ?_ fun _ _ x=>x)
 ·rw[hr]
  refine KOk.wp (Inv:=fun s'=>Kp s s'∧Ex4 fun a b ta tb=>St hb tabs L l ((a,ta)::(b,tb)::(d,ae [] c1)::T) s'.heap) (fun i j C s' hI hD hC=>?_) (fun p s' hI hp=>?_) (jb (H:=H) (rk:=rk) (by exact z22 h2:0<vs.length)) ⟨⟨rfl,id⟩,_,_,_,_,S_3⟩
  ·obtain⟨K',a,b,ta,tb,S'⟩:=hI
   exact hlt s' _ K' S' (fun p hp=>.tail _ (.tail _ (.tail _ hp))) i j hD.1 hD.2 C fun b' tk hb'=>hC b' _ ⟨⟨K'.os,K'.gens⟩,a,b,ta,tb,S'⟩ hb'
  ·exact⟨hI.1,hp.1,hp.2,hI.2⟩
 rintro⟨⟨⟩,st'⟩ s' ⟨p,har,hf,K',hpm,hso,a,b,ta,tb,S'⟩
 dsimp only
 have e1:(arrOf st').map (·.2)=List.toArray (p.toList.map fun i=>vs.reverse.getD i .none):=kat_snds rfl har
 rw[e1,hf]
 refine wpAny_bind (seqEpoch_at (S'.obj _ m2) rfl ?_)
 have e3:(List.toArray (p.toList.map fun i=>vs.reverse.getD i .none)).reverse=(p.toList.map fun i=>vs.reverse.getD i .none).reverse.toArray:=by simp
 rw[e3]
 have hpl:p.toList.length=vs.length:=by
  have:=(Array.perm_iff_toList_perm.mp hpm).length_eq
  simpa using this
 obtain⟨c2,hc2⟩:∃ c,Obj.mapSeq (fun _=>(p.toList.map fun i=>vs.reverse.getD i .none).reverse.toArray) (ae [] c1)=ae (p.toList.map fun i=>vs.reverse.getD i .none).reverse c:=⟨_,rfl⟩
 refine wpAny_bind (listUpdate_at (S'.obj _ m2) rfl ?_ (Nat.zero_le _) (by rw[sizeLine_eq,List.size_toArray,List.length_reverse,List.length_map,hpl];exact zav h64))
 have S4:=S'.change (o':=ae (p.toList.map fun i=>vs.reverse.getD i .none).reverse c2) 2 rfl (Heap.SameBut.update _ d (Obj.mapSeq fun _=>(p.toList.map fun i=>vs.reverse.getD i .none).reverse.toArray)) (by rw[Heap.get?_update_self _ (S'.obj _ m2) rfl,← hc2])
 have S5:=S4.sub (T':=(d,ae (p.toList.map fun i=>vs.reverse.getD i .none).reverse c2)::T) (.cons _ (.cons _ (List.Sublist.refl _)))
 refine KFB.if_not (by simp) ?_
 exact wpAny_pure (k _ c2 p ⟨K'.os,K'.gens⟩ hpm hso S5)
end
end
section
open PySem.Spec
section
variable{prog:Program}{w:World}{A:Around}{E:VP}{s:Shared}{hb:Heap}{tabs:List Addr}{L d:Addr}{l:List (Str×Value)}{T:List (Addr×Obj)}{vs:List Value}{n:Nat}
theorem eP{Q:PySem.Fin→Shared→Prop}(S:St hb tabs L l ((d,ae vs n)::T) s.heap)(hz:vs.length<2)
  (k:∀ h' n',St hb tabs L l ((d,ae vs n')::T) h'→Q (.done (.ret .none)) (wh s h')) :
  wpAny (model prog w) A (bu d) Q E s:=by
 have ho:=S.obj _ m0
 unfold bu
 obtain⟨c1,hc1⟩:∃ c,Obj.mapSeq (fun _=>(#[]:Array Value)) (ae vs n)=ae [] c:=⟨_,rfl⟩
 refine wpAny_bind (listItems_at ho rfl ?_)
 refine wpAny_bind (listUpdate_at ho rfl ?_ (by rw[sizeLine_eq,List.size_toArray];exact ul 16777214 hz) (Nat.zero_le _))
 have S_1:=S.change (o':=ae [] c1) 0 rfl (Heap.SameBut.update _ d (Obj.mapSeq fun _=>(#[]:Array Value))) (by rw[Heap.get?_update_self _ ho rfl,← hc1])
 refine wpAny_bind (seqEpoch_at (S_1.obj _ m0) rfl ?_)
 have S_2:=S_1.push (au vs.toArray.toList)
 have S_3:=S_2.push (ae [] 0)
 refine wpAny_bind (wpAny_newTuple ?_ (by show vs.length≤_;rw[sizeLine_eq];exact ul 16777214 hz))
 refine wpAny_bind (wpAny_newList ?_ (Nat.zero_le _))
 refine wpAny_holding ?_
 dsimp only
 refine wpAny_bind (wpAny_rule ?_)
 have hn2:vs.toArray.size<2:=by rw[List.size_toArray];exact hz
 rw[if_pos hn2,if_pos hn2]
 refine wpAny_bind (wpAny_pure ?_)
 refine wpAny_bind ?_
 show wpAny _ _ (pure ((),SortSt.mk' general' (vs.toArray.zip vs.toArray).reverse #[] 7 none)) _ _ _
 refine wpAny_pure ?_
 have e1:((arrOf (SortSt.mk' general' (vs.toArray.zip vs.toArray).reverse #[] 7 none)).map (·.2)).reverse=vs.toArray:=by
  show (((vs.toArray.zip vs.toArray).reverse).map (·.2)).reverse=vs.toArray
  apply Array.toList_inj.mp
  simp
  exact List.map_snd_zip (Nat.le_refl _)
 dsimp only
 rw[e1]
 refine wpAny_bind (seqEpoch_at (S_3.obj _ m2) rfl ?_)
 obtain⟨c2,hc2⟩:∃ c,Obj.mapSeq (fun _=>vs.toArray) (ae [] c1)=ae vs c:=⟨_,rfl⟩
 refine wpAny_bind (listUpdate_at (S_3.obj _ m2) rfl ?_ (Nat.zero_le _) (by rw[sizeLine_eq,List.size_toArray];exact z9e hz))
 have S4:=S_3.change (o':=ae vs c2) 2 rfl (Heap.SameBut.update _ d (Obj.mapSeq fun _=>vs.toArray)) (by rw[Heap.get?_update_self _ (S_3.obj _ m2) rfl,← hc2])
 have S5:=S4.sub (T':=(d,ae vs c2)::T) (.cons _ (.cons _ (List.Sublist.refl _)))
 refine KFB.if_not (by simp) ?_
 exact wpAny_pure (k _ c2 S5)
end
end
section
open PySem.Spec
section
variable{prog:Program}{w:World}{A:Around}{E:VP}{s:Shared}{hb:Heap}{tabs:List Addr}{L d:Addr}{l:List (Str×Value)}{T:List (Addr×Obj)}{vs:List Value}{n:Nat}
theorem gC{kw:List (Str×Value)}{Q:VP}(S:St hb tabs L l T s.heap)(hd:(d,ae vs n)∈T)(hz:vs.length≤1000)
  (ha1:argsOk "sorted" ⟨[.ref d],kw⟩) (ha2:∀ x,argsOk "list.sort" ⟨[.ref x],kw⟩) (ht:∀ x,Builtin.«list.sort» ⟨[.ref x],kw⟩=bu x)
  (h:∀ D tmp c h',St hb tabs L l ((D,ae vs 0)::(tmp,ae vs c)::T) h'→wpAny (model prog w) A.in1.in1 (bu D) (fun fin s'=>∃ v,fin=.done (.ret v)∧Q (.ref D) s') E (wh s h')) :
  wpAny (model prog w) A (call (.builtin "sorted") [.ref d] kw) Q E s:=by
 refine call_function_entry_kw kind_sorted plain_sorted entry_sorted ha1 ?_
 unfold Builtin.«sorted»
 refine wpAny_bind (m:=checkCount "sorted" 1 1 _) (wpAny_pure ?_)
 refine wpAny_bind (collect_list (vs:=vs) ⟨_,S.obj _ hd,rfl,n,rfl⟩ ?_ (by rw[sizeLine_eq];exact up 16776216 hz))
 have S_1:=S.push (ae [] 0)
 obtain⟨c1,hc1⟩:∃ c,Obj.mapSeq (·++vs.toArray) (ae [] 0)=ae vs c:=by
  have hx:∃ c1,Obj.mapSeq (·++vs.toArray) (ae [] 0) = { ae [] 0 with data:=.seq ((#[]:Array Value)++vs.toArray) c1 }:=⟨_,rfl⟩
  rw[Array.empty_append] at hx
  exact hx
 have S_2:=S_1.change (o':=ae vs c1) 0 rfl (Heap.SameBut.update _ s.heap.objs.size (Obj.mapSeq (·++vs.toArray))) (by rw[Heap.get?_update_self _ (S_1.obj _ m0) (by rw[hc1];rfl),hc1])
 refine wpAny_bind (wpAny_newList ?_ (by rw[sizeLine_eq];exact up 16776216 hz))
 have S_3:=S_2.push (ae vs 0)
 refine wpAny_bind (wpAny_holding (wpAny_call_entry_kw slot_list_sort ⟨_,S_3.obj _ m0,rfl⟩ entry_list_sort ?body (ha2 _)))
 case body =>
  rw[ht]
  refine wpAny_mono (h _ _ c1 _ S_3) (fun fin s' z=>?_) fun _ _ x=>x
  obtain⟨v,rfl,q⟩:=z
  exact⟨_,rfl,wpAny_pure ⟨_,rfl,q⟩⟩
end
end
section
abbrev tabs:List Addr:=[248]
def KN(P:Params):Frag:=[(2,o2 P),(3,o3 P),(44,o44 P),(48,o48 P),(49,o49 P),(54,o54 P),(55,o55 P),(58,o58 P),(62,o62 P),(63,o63 P),(64,o64 P),(66,o66 P),(70,o70 P),(71,o71 P),(73,o73 P),(77,o77 P),(78,o78 P),(80,o80 P),(84,o84 P),(85,o85 P),(87,o87 P),(88,o88 P),(96,o96 P),(98,o98 P),(99,o99 P),(105,qJ P),(109,qI P),(110,oK P),(112,qH P),(116,qG P),(117,oJ P),(119,qF P),(121,qE P),(123,qD P),(127,qC P),(128,qB P),(130,qA P),(134,qz P),(135,qy P),(137,qx P),(141,qw P),(142,qv P),(144,qu P),(148,qt P),(149,qr P),(162,qo P),(163,oI P),(164,qm P),(168,ql P),(172,qk P),(173,oH P),(178,qj P),(179,qi P),(181,mW P),(183,qh P),(187,qg P),(188,oG P),(190,qf P),(194,qe P),(195,oF P),(197,qd P),(201,qc P),(202,oE P),(204,qb P),(208,qa P),(209,oD P),(211,pZ P),(215,pY P),(216,oB P),(217,pX P),(219,pW P),(223,pV P),(224,oA P),(226,pU P),(230,pT P),(231,oz P),(233,pS P),(237,pR P),(238,pQ P),(239,pP P),(241,pO P),(245,pN P),(246,pM P),(252,mV P),(253,ow P),(255,pK P),(259,pJ P),(260,ou P),(262,pI P),(266,pH P),(267,oo P),(269,o269 P),(270,pF P),(275,mU P),(277,pE P),(279,pD P),(280,om P),(281,lP P),(283,pC P),(285,pB P),(286,ol P),(287,mT P),(289,pA P),(293,pz P),(294,oh P),(296,pu P),(300,pt P),(301,og P),(303,pq P),(305,po P),(306,oa P)]
theorem KN_nt(P:Params):((KN P).all fun p=>!tabs.contains p.1)=true:=by kernel_rfl
theorem rK(P:Params):KK P=[(2,o2 P),(3,o3 P),(44,o44 P),(48,o48 P),(49,o49 P),(54,o54 P),(55,o55 P),(58,o58 P),(62,o62 P),(63,o63 P),(64,o64 P),(66,o66 P),(70,o70 P),(71,o71 P),(73,o73 P),(77,o77 P),(78,o78 P),(80,o80 P),(84,o84 P),(85,o85 P),(87,o87 P),(88,o88 P),(96,o96 P),(98,o98 P),(99,o99 P),(105,qJ P),(109,qI P),(110,oK P),(112,qH P),(116,qG P),(117,oJ P),(119,qF P),(121,qE P),(123,qD P),(127,qC P),(128,qB P),(130,qA P),(134,qz P),(135,qy P),(137,qx P),(141,qw P),(142,qv P),(144,qu P),(148,qt P),(149,qr P),(162,qo P),(163,oI P),(164,qm P),(168,ql P),(172,qk P),(173,oH P),(178,qj P),(179,qi P),(181,mW P),(183,qh P),(187,qg P),(188,oG P),(190,qf P),(194,qe P),(195,oF P),(197,qd P),(201,qc P),(202,oE P),(204,qb P),(208,qa P),(209,oD P),(211,pZ P),(215,pY P),(216,oB P),(217,pX P),(219,pW P),(223,pV P),(224,oA P),(226,pU P),(230,pT P),(231,oz P),(233,pS P),(237,pR P),(238,pQ P),(239,pP P),(241,pO P),(245,pN P),(246,pM P)]++(248,pL P)::[(252,mV P),(253,ow P),(255,pK P),(259,pJ P),(260,ou P),(262,pI P),(266,pH P),(267,oo P),(269,o269 P),(270,pF P),(275,mU P),(277,pE P),(279,pD P),(280,om P),(281,lP P),(283,pC P),(285,pB P),(286,ol P),(287,mT P),(289,pA P),(293,pz P),(294,oh P),(296,pu P),(300,pt P),(301,og P),(303,pq P),(305,po P),(306,oa P)]:=rfl
theorem rJ(P:Params):KN P=[(2,o2 P),(3,o3 P),(44,o44 P),(48,o48 P),(49,o49 P),(54,o54 P),(55,o55 P),(58,o58 P),(62,o62 P),(63,o63 P),(64,o64 P),(66,o66 P),(70,o70 P),(71,o71 P),(73,o73 P),(77,o77 P),(78,o78 P),(80,o80 P),(84,o84 P),(85,o85 P),(87,o87 P),(88,o88 P),(96,o96 P),(98,o98 P),(99,o99 P),(105,qJ P),(109,qI P),(110,oK P),(112,qH P),(116,qG P),(117,oJ P),(119,qF P),(121,qE P),(123,qD P),(127,qC P),(128,qB P),(130,qA P),(134,qz P),(135,qy P),(137,qx P),(141,qw P),(142,qv P),(144,qu P),(148,qt P),(149,qr P),(162,qo P),(163,oI P),(164,qm P),(168,ql P),(172,qk P),(173,oH P),(178,qj P),(179,qi P),(181,mW P),(183,qh P),(187,qg P),(188,oG P),(190,qf P),(194,qe P),(195,oF P),(197,qd P),(201,qc P),(202,oE P),(204,qb P),(208,qa P),(209,oD P),(211,pZ P),(215,pY P),(216,oB P),(217,pX P),(219,pW P),(223,pV P),(224,oA P),(226,pU P),(230,pT P),(231,oz P),(233,pS P),(237,pR P),(238,pQ P),(239,pP P),(241,pO P),(245,pN P),(246,pM P)]++[(252,mV P),(253,ow P),(255,pK P),(259,pJ P),(260,ou P),(262,pI P),(266,pH P),(267,oo P),(269,o269 P),(270,pF P),(275,mU P),(277,pE P),(279,pD P),(280,om P),(281,lP P),(283,pC P),(285,pB P),(286,ol P),(287,mT P),(289,pA P),(293,pz P),(294,oh P),(296,pu P),(300,pt P),(301,og P),(303,pq P),(305,po P),(306,oa P)]:=rfl
theorem eE{a b:Addr}{o:Obj}{u:Obj}:∀ {l r:Frag},((l++r).all fun p=>!(p.1 == b))=true→(l++r).lookup a=some o→(l++(b,u)::r).lookup a=some o
 | [],r,hb,e=>by
  show ((b,u)::r).lookup a=_
  rw[List.lookup_cons]
  split
  ·rename_i hq
   exfalso
   have hm:∀ (m:Frag),m.lookup a=some o→(a,o)∈m:=fun m=>by
    induction m with
    | nil=>intro e;cases e
    | cons p r ih =>
     intro e
     rw[List.lookup_cons] at e
     split at e
     ·rename_i hq
      cases e
      rw[beq_iff_eq.mp hq];exact .head _
     ·exact .tail _ (ih e)
   have:=List.all_eq_true.mp hb _ (hm _ e)
   rw[show ((a,o).1 == b)=true from hq] at this
   cases this
  ·exact e
 | (c,q)::l,r,hb,e=>by
  rw[List.cons_append,List.lookup_cons] at e ⊢
  rw[List.cons_append,List.all_cons] at hb
  split
  ·rename_i hq
   rw[hq] at e;exact e
  ·rename_i hq
   rw[hq] at e
   exact eE (Bool.and_eq_true_iff.mp hb).2 e
theorem KN_in{P:Params}{h:Heap}(k:(KK P).In h):(KN P).In h:=fun a o e=>k a o (by
 rw[rK]
 rw[rJ] at e
 exact eE (by kernel_rfl) e)
def fd49(P:Params):FuncData:=match (o49 P).data with
 | .func f=>f
 | _=>default
def fd110(P:Params):FuncData:=match (oK P).data with
 | .func f=>f
 | _=>default
theorem lk110 (P:Params):(KN P).lookup 110=some ⟨Value.type "function", none,.func (fd110 P),#[]⟩:=by kernel_rfl
def fd117(P:Params):FuncData:=match (oJ P).data with
 | .func f=>f
 | _=>default
theorem lk117 (P:Params):(KN P).lookup 117=some ⟨Value.type "function", none,.func (fd117 P),#[]⟩:=by kernel_rfl
def fd173(P:Params):FuncData:=match (oH P).data with
 | .func f=>f
 | _=>default
theorem lk173 (P:Params):(KN P).lookup 173=some ⟨Value.type "function", none,.func (fd173 P),#[]⟩:=by kernel_rfl
def rz(P:Params):FuncData:=match (oG P).data with
 | .func f=>f
 | _=>default
theorem lk188 (P:Params):(KN P).lookup 188=some ⟨Value.type "function", none,.func (rz P),#[]⟩:=by kernel_rfl
def fd195(P:Params):FuncData:=match (oF P).data with
 | .func f=>f
 | _=>default
theorem lk195 (P:Params):(KN P).lookup 195=some ⟨Value.type "function", none,.func (fd195 P),#[]⟩:=by kernel_rfl
def fd202(P:Params):FuncData:=match (oE P).data with
 | .func f=>f
 | _=>default
theorem lk202 (P:Params):(KN P).lookup 202=some ⟨Value.type "function", none,.func (fd202 P),#[]⟩:=by kernel_rfl
def fd209(P:Params):FuncData:=match (oD P).data with
 | .func f=>f
 | _=>default
theorem lk209 (P:Params):(KN P).lookup 209=some ⟨Value.type "function", none,.func (fd209 P),#[]⟩:=by kernel_rfl
def fd216(P:Params):FuncData:=match (oB P).data with
 | .func f=>f
 | _=>default
theorem lk216 (P:Params):(KN P).lookup 216=some ⟨Value.type "function", none,.func (fd216 P),#[]⟩:=by kernel_rfl
def ry(P:Params):FuncData:=match (oA P).data with
 | .func f=>f
 | _=>default
theorem lk224 (P:Params):(KN P).lookup 224=some ⟨Value.type "function", none,.func (ry P),#[]⟩:=by kernel_rfl
def rx(P:Params):FuncData:=match (oz P).data with
 | .func f=>f
 | _=>default
theorem qU (P:Params):(KN P).lookup 231=some ⟨Value.type "function", none,.func (rx P),#[]⟩:=by kernel_rfl
def rv(P:Params):FuncData:=match (ow P).data with
 | .func f=>f
 | _=>default
theorem lk253 (P:Params):(KN P).lookup 253=some ⟨Value.type "function", none,.func (rv P),#[]⟩:=by kernel_rfl
def ru(P:Params):FuncData:=match (ou P).data with
 | .func f=>f
 | _=>default
theorem lk260 (P:Params):(KN P).lookup 260=some ⟨Value.type "function", none,.func (ru P),#[]⟩:=by kernel_rfl
def fd267(P:Params):FuncData:=match (oo P).data with
 | .func f=>f
 | _=>default
theorem lk267 (P:Params):(KN P).lookup 267=some ⟨Value.type "function", none,.func (fd267 P),#[]⟩:=by kernel_rfl
def aE(P:Params):FuncData:=match (om P).data with
 | .func f=>f
 | _=>default
theorem qT (P:Params):(KN P).lookup 280=some ⟨Value.type "function", none,.func (aE P),#[]⟩:=by kernel_rfl
def gN(P:Params):FuncData:=match (ol P).data with
 | .func f=>f
 | _=>default
theorem jS (P:Params):(KN P).lookup 286=some ⟨Value.type "function", none,.func (gN P),#[]⟩:=by kernel_rfl
def fd294(P:Params):FuncData:=match (oh P).data with
 | .func f=>f
 | _=>default
theorem lk294 (P:Params):(KN P).lookup 294=some ⟨Value.type "function", none,.func (fd294 P),#[]⟩:=by kernel_rfl
def fd301(P:Params):FuncData:=match (og P).data with
 | .func f=>f
 | _=>default
theorem lk301 (P:Params):(KN P).lookup 301=some ⟨Value.type "function", none,.func (fd301 P),#[]⟩:=by kernel_rfl
def rt(P:Params):FuncData:=match (oa P).data with
 | .func f=>f
 | _=>default
theorem lk306 (P:Params):(KN P).lookup 306=some ⟨Value.type "function", none,.func (rt P),#[]⟩:=by kernel_rfl
end
section
def share(m n:Int):UInt64:=if n=0 then 4607182418800017408 else Float64.div (Float64.mul 4611686018427387904 (Float64.ofInt m)) (Float64.ofInt n)
section
variable{w:World}{A:Around}{E:VP}{s:Shared}{hb:Heap}{L:Addr}{l:List (Str×Value)}{T:List (Addr×Obj)}{R:Result→Shared→Prop}
theorem ey{n:Int}(h1:0≤n)(h2:n≤1000):n.natAbs<2 ^ 1023:=by
 have:n.natAbs≤1000:=by lia
 exact Nat.lt_of_lt_of_le (Nat.lt_of_le_of_lt this (by decide:1000<2 ^ 10)) (Nat.pow_le_pow_right (by decide) (by decide))
theorem ee(G:Gd (KN w.params) tabs hb)(S:St hb tabs L l T s.heap)(hd:A.depth<recursionLimit){m n:Int}{t u:Tok}(m0:0≤m)(m1:m≤1000)(n0:0≤n)(n1:n≤1000)
  (k:∀ h' tk t',s.toks≤t'→t'<tk→St hb tabs L l T h'→R (.ok (.ret (.float (share m n) t'))) (wht s h' tk)) :
  codeAny (model pw w) A (.call (.ref 173) ⟨[.int m t,.int n u],[]⟩) R s:=by
 refine cc G S (lk173 _) hd (binds:=[(Str.ofString "matches", .int m t),(Str.ofString "length", .int n u)]) (body:=ao (st1 pw 5)) (BindsTo.of_eq (by kernel_rfl)) ?_
 intro L' h_1 oL r S'
 refine cP ?_
 refine isTrue_plain ?_
 refine ac S' (.tail _ (.head _)) ?_
 refine truthy_int ⟨fun hb=>?_,fun hb=>?_⟩
 ·have hn:n≠0:=by simpa using hb
  have hO:¬ PySem.Flt.Over n:=fun q=>by
   have:=ey n0 n1
   unfold PySem.Flt.Over at q
   lia
  refine b7 ?_
  refine wpAny_BinOp ?_
  refine wpAny_BinOp ?_
  refine AutoFloatOps.wpAny_Constant_float ?_
  refine ac S' (.head _) ?_
  refine mul_fi_fits (ey m0 m1) ?_
  refine ac S' (.tail _ (.head _)) ?_
  refine AutoFloatOps.truediv_fi_2 (PySem.Flt.fin_of_fits hO) (fun x=>hn ((PySem.Flt.isZero_ofInt n).mp x)) ?_
  have e:share m n=Float64.div (Float64.mul 4611686018427387904 (Float64.ofInt m)) (Float64.ofInt n):=if_neg hn
  refine e▸k _ _ _ ?_ ?_ (S'.leave 0 rfl r)
  ·simp only[List.length_cons,List.length_nil];exact z02
  ·simp only[List.length_cons,List.length_nil];exact z03
 ·have hn:n=0:=by simpa using hb
  refine ax ?_
  refine b7 ?_
  refine AutoFloatOps.wpAny_Constant_float ?_
  have e:share m n=4607182418800017408:=if_pos hn
  refine e▸k _ _ _ ?_ ?_ (S'.leave 0 rfl r)
  ·simp only[List.length_cons,List.length_nil];exact z04
  ·simp only[List.length_cons,List.length_nil];exact z05
theorem eI(G:Gd (KN w.params) tabs hb)(S:St hb tabs L l T s.heap)(hd:A.depth<recursionLimit){m n:Int}{t u:Tok}(m0:0≤m)(m1:m≤1000)(n0:0≤n)(n1:n≤1000)
  (k:∀ h' tk t',St hb tabs L l T h'→R (.ok (.ret (.float (share m n) t'))) (wht s h' tk)) :
  codeAny (model pw w) A (.call (.ref 173) ⟨[.int m t,.int n u],[]⟩) R s :=
 ee G S hd m0 m1 n0 n1 fun h' tk t' _ _ S'=>k h' tk t' S'
end
end
section
abbrev smO(dx:Addr):Obj:=⟨.ref 270,some dx,.plain,#[]⟩
section
variable{w:World}{A:Around}{E:VP}{s:Shared}{hb:Heap}{L x dx:Addr}{l:List (Str×Value)}{T Ra Rb:List (Addr×Obj)}{R:Result→Shared→Prop}{od:Obj}{fl:List (Str×Value)}{va vb:Value}{la lb:List Str}
theorem ez (G:Gd (KN w.params) tabs hb) (S:St hb tabs L l T s.heap) (hd:A.depth+1<recursionLimit) (hh:A.handled=none) (hx:(x,smO dx)∈T) (hdx:(dx,od)∈T) (hf:aY od fl) (ha:(Str.ofString "a", va)∈fl) (hb':(Str.ofString "b", vb)∈fl)
  (Va:SqV (pw) w hb tabs Ra va la) (Vb:SqV pw w hb tabs Rb vb lb) (hRa:∀ p∈Ra,p∈T) (hRb:∀ p∈Rb,p∈T)
  (k:∀ h' tk t',St hb tabs L l T h'→R (.ok (.ret (.float (share (min la.length lb.length) (la.length+lb.length)) t'))) (wht s h' tk)) :
  codeAny (model pw w) A (.call (.ref 267) ⟨[.ref x],[]⟩) R s:=by
 have sa:=Va.small
 have sb:=Vb.small
 refine cc G S (lk267 _) (by exact dn 1 hd) (binds:=[(Str.ofString "self", .ref x)]) (body:=ao (st2 pw 6 12)) (BindsTo.of_eq (by kernel_rfl)) ?_
 intro L' h_1 oL r S'
 refine c8 ?_
 refine dY [Str.ofString "la", Str.ofString "lb"] ?_
 refine args_cons ?_
 refine ap ?_
 refine ai G S' boot_len ?_
 refine ag ?_
 refine args_cons ?_
 refine bg ?_
 refine ac S' (.head _) ?_
 refine aQ G S' (.tail _ hx) (.tail _ hdx) hf ha ?_ (hv:=Va.hand)
 refine args_nil ?_
 refine Va.len S' (fun p hp=>.tail _ (hRa p hp)) ?_
 intro t_1 tk_1
 refine args_cons ?_
 refine ap ?_
 refine ai G S' boot_len ?_
 refine ag ?_
 refine args_cons ?_
 refine bg ?_
 refine ac S' (.head _) ?_
 refine aQ G S' (.tail _ hx) (.tail _ hdx) hf hb' ?_ (hv:=Vb.hand)
 refine args_nil ?_
 refine Vb.len S' (fun p hp=>.tail _ (hRb p hp)) ?_
 intro t_2 tk_2
 refine args_nil ?_
 refine⟨rfl,rfl,hh,_,_,_,_,_,S',?_⟩
 intro h_2 S_2
 refine aU ?_
 refine af S_2 (.new (by kernel_rfl)) ?_
 intro h_3 S_3
 refine aU ?_
 refine af S_3 (.new (by kernel_rfl)) ?_
 intro h_4 S4
 refine eg ?_
 refine b7 ?_
 refine ap ?_
 refine aq G S4 (v:=.ref 173) (by kernel_rfl) ?_
 refine aN G ?_
 refine args_cons ?_
 refine ap ?_
 refine ai G S4 boot_min ?_
 refine ag ?_
 refine args_cons ?_
 refine ac S4 (.head _) ?_
 refine args_cons ?_
 refine ac S4 (.tail _ (.head _)) ?_
 refine args_nil ?_
 refine r_min hh S4 ?_
 intro h_5 tk5 t_5 S5
 refine args_cons ?_
 refine wpAny_BinOp ?_
 refine ac S5 (.head _) ?_
 refine ac S5 (.tail _ (.head _)) ?_
 refine add_int ?_
 refine args_nil ?_
 refine⟨⟨_,_,_,S5⟩,?_⟩
 refine eI G S5 hd (by exact z3c) (by exact z3d sa) (by exact z15) (by exact z16 sa sb) ?_
 intro h_6 tk6 t_6 S6
 exact k _ _ _ (S6.leave 0 rfl r)
end
end
section
section
variable{w:World}{A:Around}{E:VP}{s:Shared}{hb:Heap}{L x dx:Addr}{l:List (Str×Value)}{T:List (Addr×Obj)}{R:Result→Shared→Prop}{od:Obj}{fl fl1 fl2 fl3:List (Str×Value)}{av v:Value}
abbrev dw(w:World)(hb:Heap)(v u:Value)(C:Prop):Prop:=∀ {A:Around}{E:VP}{s:Shared}{Q:VP},NoneBooked s.heap→(∀ c:Bool,(c=true→C)→Q (.bool c) s)→wpAny (model pw w) A (compareOp .Is v u) Q E s
theorem bT{y:Str}{t:Tok}:dw w hb (.str y t) .none False:=fun _ h=>is_none (h false fun q=>by cases q)
theorem eF{y z:Str}{t u:Tok}(ht:t≠0)(hu:u≠0)(he:t=u→y=z):dw w hb (.str y t) (.str z u) (y=z):=fun nb h=>nI nb ht hu he h
theorem set_seq1 {C:Prop} (G:Gd (KN w.params) tabs hb) (S:St hb tabs L l ((x,smO dx)::(dx,od)::T) s.heap) (hd:A.depth<recursionLimit) (hf:aY od fl) (ha:(Str.ofString "a", av)∈fl) (hav:handedIn av=true)
  (his:dw w hb v av C) (p1:Put fl (Str.ofString "a") v fl1) (p2:Put fl1 (Str.ofString "matching_blocks") .none fl2) (p3:Put fl2 (Str.ofString "opcodes") .none fl3) (hz:Nat.ble fl1.length 1000=true) (hz2:Nat.ble fl2.length 1000=true) (hz3:Nat.ble fl3.length 1000=true)
  (k0:C→∀ h' tk,St hb tabs L l ((x,smO dx)::(dx,od)::T) h'→R (.ok (.ret .none)) (wht s h' tk))
  (k1:∀ h' tk od',St hb tabs L l ((x,smO dx)::(dx,od')::T) h'→aY od' fl3→R (.ok (.ret .none)) (wht s h' tk)) :
  codeAny (model pw w) A (.call (.ref 202) ⟨[.ref x,v],[]⟩) R s:=by
 refine cc G S (lk202 _) (by exact hd) (binds:=[(Str.ofString "self", .ref x),(Str.ofString "a", v)]) (body:=ao (st2 pw 6 3)) (BindsTo.of_eq (by kernel_rfl)) ?_
 intro L' h_1 oL r S'
 refine c8 ?_
 refine cP ?_
 refine wpAny_isTrue_Compare1 ?_
 refine ac S' (.tail _ (.head _)) ?_
 refine bg ?_
 refine ac S' (.head _) ?_
 refine aQ G S' (.tail _ (.head _)) (.tail _ (.tail _ (.head _))) hf ha ?_ (hv:=hav)
 refine his (S'.nb G) fun c hc=>?_
 refine wpAny_truthy_bool ⟨fun hb=>?_,fun hb=>?_⟩
 ·refine lN ?_
  exact k0 (hc hb) _ _ (S'.leave 0 rfl r)
 ·refine ax ?_
  refine bN ?_
  refine ac S' (.tail _ (.head _)) ?_
  refine ac S' (.head _) ?_
  refine aD 2 G S' (.tail _ (.head _)) rfl hf p1 ?_ hz
  intro h_2 od2 S_2 hf2
  refine eW ?_
  refine wpAny_Constant_none ?_
  refine bH ?_
  refine ac S_2 (.head _) ?_
  refine aD 2 G S_2 (.tail _ (.head _)) rfl hf2 p2 ?_ hz2
  intro h_3 od3 S_3 hf3
  refine bH ?_
  refine ac S_3 (.head _) ?_
  refine aD 2 G S_3 (.tail _ (.head _)) rfl hf3 p3 ?_ hz3
  intro h_4 od4 S4 hf4
  refine ax ?_
  exact k1 _ _ _ (S4.leave 0 rfl r) hf4
end
end
section
section
variable{w:World}{A:Around}{E:VP}{s:Shared}{hb:Heap}{L x dx:Addr}{l:List (Str×Value)}{T:List (Addr×Obj)}{R:Result→Shared→Prop}{od:Obj}{fl:List (Str×Value)}{vb:Value}{lb:List Str}{Rb:List (Addr×Obj)}
 {fl1:Value→List (Str×Value)}{fl2:Value→Value→List (Str×Value)}{fl3:Value→Value→Value→List (Str×Value)}
theorem bZ{c:Str}{u:Tok}:(PySem.strKind pw w).is c (.str c u)=true:=by simp[PySem.strKind,Value.isStrOf]
theorem nY (G:Gd (KN w.params) tabs hb) (S:St hb tabs L l ((x,smO dx)::(dx,od)::T) s.heap) (hd:A.depth<recursionLimit) (hh:A.handled=none) (hf:aY od fl) (hb':(Str.ofString "b", vb)∈fl)
  (Vb:SqV pw w hb tabs Rb vb lb) (hRb:∀ p∈Rb,p∈T)
  (p1:∀ v,Put fl (Str.ofString "b2j") v (fl1 v)) (p2:∀ v u,Put (fl1 v) (Str.ofString "bjunk") u (fl2 v u)) (p3:∀ v u z,Put (fl2 v u) (Str.ofString "bpopular") z (fl3 v u z))
  (hij:∀ v u,(Str.ofString "isjunk", .none)∈fl2 v u) (haj:∀ v u z,(Str.ofString "autojunk", .bool true)∈fl3 v u z)
  (hz:∀ v u z,Nat.ble (fl1 v).length 1000=true∧Nat.ble (fl2 v u).length 1000=true∧Nat.ble (fl3 v u z).length 1000=true)
  (k:∀ s' od' d2 sj sp o2 rows led led',Kp s s'→St hb tabs L l ((x,smO dx)::(dx,od')::(sp,bz led')::(sj,bz led)::(d2,o2)::(rows.map aM.ob++T)) s'.heap→aY od' (fl3 (.ref d2) (.ref sj) (.ref sp)) →
   o2.IsDictOf (PySem.strKind pw w) (rows.map aM.kv)→bB lb rows→R (.ok (.ret .none)) s') :
  codeAny (model pw w) A (.call (.ref 216) ⟨[.ref x],[]⟩) R s:=by
 refine cc G S (lk216 _) (by exact hd) (binds:=[(Str.ofString "self", .ref x)]) (body:=ao (st2 pw 6 5)) (BindsTo.of_eq (by kernel_rfl)) ?_
 intro L' h_1 oL r S'
 refine ak ?_
 refine bg ?_
 refine ac S' m0 ?_
 refine aQ G S' m1 m2 hf hb' ?_ (hv:=Vb.hand)
 refine af S' (.new (by kernel_rfl)) ?_
 intro h_2 S_2
 refine eW ?_
 refine dW S_2 ?_
 intro d2 h_3 S_3
 refine bH ?_
 refine ac S_3 m1 ?_
 refine aD 3 G S_3 m2 rfl hf (p1 _) ?_ (hz (.ref d2) .none .none).1
 intro h_4 od4 S4 hf4
 refine aT ?_
 refine af S4 (.new (by kernel_rfl)) ?_
 intro h_5 S5
 refine el ?_
 refine ap ?_
 refine ai G S5 cC ?_
 refine bb ?_
 refine args_cons ?_
 refine ac S5 m1 ?_
 refine args_nil ?_
 refine Vb.enum hh S5 (fun p hp=>.tail _ (.tail _ (.tail _ (.tail _ (hRb p hp))))) ?_
 intro I J o o' Wt Mid fp h_6 IU hw S6
 refine (IU.walks (A.deeper _) hh).self 0 _ _ _ ?_ ?_
 ·exact hw
 refine ga (own:=[(I,o),(J,o')]) (Ro:=Rb) hh (IU.walks (A.deeper _) hh) IU.ex rfl IU.ro S6 hw
  (fun i l₁ T1=>l₁=[(Str.ofString "b2j", .ref d2),(Str.ofString "b", vb),(Str.ofString "self", .ref x)] ∧
   Ex2 fun o2 rows=>An3 (T1=(d2,o2)::(L,oL)::(x,smO dx)::(dx,od4)::(rows.map aM.ob++T)) (o2.IsDictOf (PySem.strKind pw w) (rows.map aM.kv)) (bB (lb.take i) rows))
  ⟨rfl,dict0,[],rfl,cy,bB.nil⟩ (fun p hp=>.tail _ (.tail _ (.tail _ (.tail _ (hRb p hp))))) ?_ (by kernel_rfl) ?_ ?_
 ·rintro i vals ⟨t,y,-,rfl⟩
  rfl
 ·rintro E1 i vals l₁ T1 own1 s₁ hi ⟨t,y,⟨c,u,hc,rfl⟩,rfl⟩ ⟨rfl,o2,rows,rfl,hd2,hrows⟩ S7 hRo hKp
  refine aA ?_
  refine af S7 (.new (by kernel_rfl)) ?_
  intro h_8 S8
  refine aA ?_
  refine af S8 (.new (by kernel_rfl)) ?_
  intro h_9 S9
  refine bx ?_
  refine ak ?_
  refine aC ?_
  refine ac S9 m2 ?_
  refine eV S9 m0 hd2 PySem.F.slot_dict_setdefault PySem.F.type_dict_setdefault ?_
  refine ag ?_
  refine args_cons ?_
  refine ac S9 m0 ?_
  refine args_cons ?_
  refine bc ?_
  refine args_nil ?_
  refine⟨rfl,_,_,_,_,_,S9,?_⟩
  intro a h_10 S10
  refine args_nil ?_
  have hle:(lb.take i).length=i:=by rw[List.length_take];exact z4h hi
  have hsm:=Vb.small
  have hrl:=hrows.small
  have hlen:(rows.map aM.kv).length≤1000:=by rw[List.length_map];exact z6t hi hle hsm hrl
  have htk:lb.take (i+1)=lb.take i++[c]:=by rw[List.take_succ,hc];rfl
  refine wpAny_mono (fS (E:=E1) (Q:=fun v s_2=>Ex4 fun (o2':Obj) (rows':List aM) (j:Nat) (r:aM)=>An7 (v=.ref r.a) (Kp s s_2) (St hb tabs L' [(Str.ofString "elt", .str c u),(Str.ofString "i", .int i t),(Str.ofString "b2j", .ref d2),(Str.ofString "b", vb),(Str.ofString "self", .ref x)] ((d2,o2')::(L,oL)::(x,smO dx)::(dx,od4)::(rows'.map aM.ob++(T++own1))) s_2.heap) (o2'.IsDictOf (PySem.strKind pw w) (rows'.map aM.kv)) (rows'[j]? = some r) (r.vs.length≤1000) (bB (lb.take (i+1)) (rows'.set j ⟨r.c,r.a,r.vs++[.int i t],r.n+1⟩))) 1 G S10 rfl hd2 (k:=c) bZ (fun v hv=>?_) (fun hn h_11 o2' S11 hd2'=>?_) hlen) ?_ (fun _ _ z=>z)
  ·obtain⟨j,r,hj,rfl,rfl⟩:=bK hv
   refine⟨o2,rows,j,r,rfl,⟨hKp.os,hKp.gens⟩,?_,hd2,hj,?_,?_⟩
   ·rw[← List.append_assoc]
    exact S10.sub (List.sublist_cons_self _ _)
   ·rw[(hrows.at_ r (List.mem_of_getElem? hj)).len]
    have:=c9 (lb.take i) r.c
    exact z6t hi hle hsm this
   ·have:=hrows.old hj (t:=t) (n:=r.n+1)
    rw[hle] at this
    rw[htk];exact this
  ·refine⟨o2',rows++[(⟨c,a,[],0⟩:aM)],rows.length,⟨c,a,[],0⟩,rfl,⟨hKp.os,hKp.gens⟩,?_,?_,by simp,by simp,?_⟩
   ·refine S11.perm ?_
    show ((a,ae [] 0)::(d2,o2')::(L,oL)::(x,smO dx)::(dx,od4)::(rows.map aM.ob++T++own1)).Perm _
    rw[List.map_append,List.append_assoc,List.append_assoc]
    have:((a,ae [] 0)::((d2,o2')::(L,oL)::(x,smO dx)::(dx,od4)::rows.map aM.ob++(T++own1))).Perm ((d2,o2')::(L,oL)::(x,smO dx)::(dx,od4)::rows.map aM.ob++(a,ae [] 0)::(T++own1)):=List.perm_middle.symm
    exact this
   ·rw[← dN hn];exact hd2'
   ·have:=hrows.new (bL hn) (a:=a) (t:=t) (n:=1)
    rw[hle] at this
    rw[htk,List.set_append_right _ _ (Nat.le_refl _)]
    simpa using this
  ·rintro v s_2 ⟨o2',rows',j,r,rfl,hKp2,S12,hd2',hj,hvs,hrows'⟩
   refine af S12 (.new (by kernel_rfl)) ?_
   intro h13 S13
   refine aZ ?_
   refine aC ?_
   refine ac S13 m0 ?_
   have hat:((d2,o2')::(L,oL)::(x,smO dx)::(dx,od4)::(rows'.map aM.ob++(T++own1)))[4+j]? = some (r.a,ae r.vs r.n):=by
    rw[Nat.add_comm]
    exact rn (X:=T++own1) hj
   refine ba S13 (List.mem_of_getElem? hat) PySem.F.slot_list_append type_list_append ?_
   refine ag ?_
   refine args_cons ?_
   refine ac S13 m2 ?_
   refine args_nil ?_
   refine aW (4+j) S13 hat ?_ (by exact up 9000 hvs)
   intro h14 S14
   refine ax ?_
   refine⟨[(Str.ofString "b2j", .ref d2),(Str.ofString "b", vb),(Str.ofString "self", .ref x)],(d2,o2')::(L,oL)::(x,smO dx)::(dx,od4)::((rows'.set j ⟨r.c,r.a,r.vs++[.int i t],r.n+1⟩).map aM.ob++T),?_,⟨rfl,o2',_,rfl,?_,hrows'⟩,?_,⟨hKp2.os,hKp2.gens⟩⟩
   ·refine (S14.forget (l':=[(Str.ofString "b2j", .ref d2),(Str.ofString "b", vb),(Str.ofString "self", .ref x)]) ?_).perm ?_
    ·exact .cons _ (.cons _ (.cons _ (List.Sublist.refl _)))
    ·have e:=oV (X:=T++own1) (r':=⟨r.c,r.a,r.vs++[.int i t],r.n+1⟩) hj
     rw[Nat.add_comm 4 j]
     show ((d2,o2')::(L,oL)::(x,smO dx)::(dx,od4)::(rows'.map aM.ob++(T++own1)).set j (aM.ob ⟨r.c,r.a,r.vs++[.int i t],r.n+1⟩)).Perm ((d2,o2')::(L,oL)::(x,smO dx)::(dx,od4)::(((rows'.set j ⟨r.c,r.a,r.vs++[.int i t],r.n+1⟩).map aM.ob++T)++own1))
     rw[e,List.append_assoc]
   ·have e:List.map aM.kv (rows'.set j ⟨r.c,r.a,r.vs++[Value.int i t],r.n+1⟩)=_:=oW hj rfl rfl
    rw[e];exact hd2'
   ·intro p hp
    exact .tail _ (.tail _ (.tail _ (.tail _ (List.mem_append_right _ (hRb p hp)))))
 ·rintro s' l' T' hKp S7 ⟨rfl,o2,rows,rfl,hd2,hrows⟩ hRo
  have htk:lb.take lb.length=lb:=List.take_length
  rw[htk] at hrows
  refine eW ?_
  refine ap ?_
  refine ai G S7 ir ?_
  refine bb ?_
  refine args_nil ?_
  refine lL S7 ?_
  intro sj led h_8 S8
  refine bH ?_
  refine ac S8 m2 ?_
  refine aD 4 G S8 m3 rfl hf4 (p2 _ _) ?_ (hz (.ref d2) (.ref sj) .none).2.1
  intro h_9 od9 S9 hf9
  refine aT ?_
  refine af S9 (.new (by kernel_rfl)) ?_
  intro h_10 S10
  refine ak ?_
  refine bg ?_
  refine ac S10 m3 ?_
  refine aQ G S10 m3 m4 hf9 (hij _ _) ?_
  refine af S10 (.new (by kernel_rfl)) ?_
  intro h_11 S11
  refine cP ?_
  refine isTrue_plain ?_
  refine ac S11 m0 ?_
  refine truthy_none ⟨nofun,fun _=>?_⟩
  refine ax ?_
  refine eW ?_
  refine ap ?_
  refine ai G S11 ir ?_
  refine bb ?_
  refine args_nil ?_
  refine lL S11 ?_
  intro sp led' h12 S12
  refine bH ?_
  refine ac S12 m4 ?_
  refine aD 5 G S12 m4 rfl hf9 (p3 _ _ _) ?_ (hz (.ref d2) (.ref sj) (.ref sp)).2.2
  intro h13 od13 S13 hf13
  refine aT ?_
  refine af S13 (.new (by kernel_rfl)) ?_
  intro h14 S14
  refine ak ?_
  refine ap ?_
  refine ai G S14 boot_len ?_
  refine ag ?_
  refine args_cons ?_
  refine ac S14 m4 ?_
  refine args_nil ?_
  refine Vb.len S14 (fun p hp=>.tail _ (.tail _ (.tail _ (.tail _ (.tail _ (.tail _ (List.mem_append_right _ (hRb p hp)))))))) ?_
  intro t_1 tk_1
  refine af S14 (.new (by kernel_rfl)) ?_
  intro h15 S15
  refine cP ?_
  refine bw ?_
  refine isTrue_plain ?_
  refine bg ?_
  refine ac S15 m6 ?_
  refine aQ G S15 m4 m5 hf13 (haj _ _ _) ?_
  refine wpAny_truthy_bool ⟨fun _=>?_,nofun⟩
  refine bw ?_
  refine wpAny_isTrue_Compare1 ?_
  refine ac S15 m0 ?_
  refine wpAny_Constant_int ?_
  refine ge_int ?_
  have hsm:=Vb.small
  refine wpAny_truthy_bool ⟨fun hb=>absurd (of_decide_eq_true hb) (by exact z6u hsm),fun _=>?_⟩
  refine⟨nofun,fun _=>?_⟩
  refine ax ?_
  refine ax ?_
  refine k _ _ _ _ _ _ _ led led' ?kp ?st hf13 hd2 hrows
  case kp=>exact⟨hKp.os,hKp.gens⟩
  case st=>exact (S15.leave 3 rfl r).perm ((List.perm_append_comm (l₁:=[(sp,bz led'),(sj,bz led),(d2,o2)]) (l₂:=[(x,smO dx),(dx,od13)])).append_right _)
end
end
section
section
variable{w:World}{A:Around}{E:VP}{s:Shared}{hb:Heap}{L x dx:Addr}{l:List (Str×Value)}{T:List (Addr×Obj)}{R:Result→Shared→Prop}{od:Obj}{fl f1 f2 f3 f4:List (Str×Value)}{v bv:Value}{lb:List Str}{Rb:List (Addr×Obj)}
 {fl1:Value→List (Str×Value)}{fl2:Value→Value→List (Str×Value)}{fl3:Value→Value→Value→List (Str×Value)}{C:Prop}
abbrev km(w:World)(hb:Heap)(L x dx:Addr)(l:List (Str×Value))(T:List (Addr×Obj))(R:Result→Shared→Prop)(lb:List Str)(fl3:Value→Value→Value→List (Str×Value))(s:Shared):Prop :=
 ∀ s' od' d2 sj sp o2 rows led led',Kp s s'→St hb tabs L l ((x,smO dx)::(dx,od')::(sp,bz led')::(sj,bz led)::(d2,o2)::(rows.map aM.ob++T)) s'.heap→aY od' (fl3 (.ref d2) (.ref sj) (.ref sp)) →
   o2.IsDictOf (PySem.strKind pw w) (rows.map aM.kv)→bB lb rows→R (.ok (.ret .none)) s'
theorem set_seq2 (G:Gd (KN w.params) tabs hb) (S:St hb tabs L l ((x,smO dx)::(dx,od)::T) s.heap) (hd:A.depth+1<recursionLimit) (hh:A.handled=none) (hf:aY od fl) (ha:(Str.ofString "b", bv)∈fl) (hav:handedIn bv=true)
  (Vb:SqV pw w hb tabs Rb v lb) (hRb:∀ p∈Rb,p∈T) (his:dw w hb v bv C)
  (q1:Put fl (Str.ofString "b") v f1) (q2:Put f1 (Str.ofString "matching_blocks") .none f2) (q3:Put f2 (Str.ofString "opcodes") .none f3) (q4:Put f3 (Str.ofString "fullbcount") .none f4)
  (hz1:Nat.ble f1.length 1000=true) (hz2:Nat.ble f2.length 1000=true) (hz3:Nat.ble f3.length 1000=true) (hz4:Nat.ble f4.length 1000=true)
  (hb4:(Str.ofString "b", v)∈f4) (hnm:(f4.map (·.1)).contains (Str.ofString "_SequenceMatcher__chain_b")=false)
  (p1:∀ v,Put f4 (Str.ofString "b2j") v (fl1 v)) (p2:∀ v u,Put (fl1 v) (Str.ofString "bjunk") u (fl2 v u)) (p3:∀ v u z,Put (fl2 v u) (Str.ofString "bpopular") z (fl3 v u z))
  (hij:∀ v u,(Str.ofString "isjunk", .none)∈fl2 v u) (haj:∀ v u z,(Str.ofString "autojunk", .bool true)∈fl3 v u z)
  (hz:∀ v u z,Nat.ble (fl1 v).length 1000=true∧Nat.ble (fl2 v u).length 1000=true∧Nat.ble (fl3 v u z).length 1000=true)
  (k0:C→∀ s',Kp s s'→St hb tabs L l ((x,smO dx)::(dx,od)::T) s'.heap→R (.ok (.ret .none)) s')
  (k:km w hb L x dx l T R lb fl3 s) :
  codeAny (model pw w) A (.call (.ref 209) ⟨[.ref x,v],[]⟩) R s:=by
 refine cc G S (lk209 _) (by exact dn 1 hd) (binds:=[(Str.ofString "self", .ref x),(Str.ofString "b", v)]) (body:=ao (st2 pw 6 4)) (BindsTo.of_eq (by kernel_rfl)) ?_
 intro L' h_1 oL r S'
 refine c8 ?_
 refine cP ?_
 refine wpAny_isTrue_Compare1 ?_
 refine ac S' m1 ?_
 refine bg ?_
 refine ac S' m0 ?_
 refine aQ G S' m1 m2 hf ha ?_ (hv:=hav)
 refine his (S'.nb G) fun c hc=>?_
 refine wpAny_truthy_bool ⟨fun hb=>?_,fun hb=>?_⟩
 ·refine lN ?_
  exact k0 (hc hb) _ ⟨rfl,id⟩ (S'.leave 0 rfl r)
 ·refine ax ?_
  refine bN ?_
  refine ac S' m1 ?_
  refine ac S' m0 ?_
  refine aD 2 G S' m1 rfl hf q1 ?_ hz1
  intro h_2 od2 S_2 hf2
  refine eW ?_
  refine wpAny_Constant_none ?_
  refine bH ?_
  refine ac S_2 m0 ?_
  refine aD 2 G S_2 m1 rfl hf2 q2 ?_ hz2
  intro h_3 od3 S_3 hf3
  refine bH ?_
  refine ac S_3 m0 ?_
  refine aD 2 G S_3 m1 rfl hf3 q3 ?_ hz3
  intro h_4 od4 S4 hf4
  refine bN ?_
  refine wpAny_Constant_none ?_
  refine ac S4 m0 ?_
  refine aD 2 G S4 m1 rfl hf4 q4 ?_ hz4
  intro h_5 od5 S5 hf5
  refine aZ ?_
  refine aC ?_
  refine ac S5 m0 ?_
  refine bA (f:=216) G S5 m1 m2 hf5 ?_ (hn:=hnm)
  refine aN G ?_
  refine args_nil ?_
  refine⟨⟨_,_,_,S5⟩,?_⟩
  have S6:=S5.perm (T':=(x,smO dx)::(dx,od5)::(L,oL)::T) ((List.perm_append_comm (l₁:=[(L,oL)]) (l₂:=[(x,smO dx),(dx,od5)])).append_right T)
  refine nY G S6 hd hh hf5 hb4 Vb (fun p hp=>.tail _ (hRb p hp)) p1 p2 p3 hij haj hz ?_
  intro s' od' d2 sj sp o2 rows led led' hKp S7 hf7 hd2 hrows
  refine ax ?_
  have S8:=S7.perm (T':=(L,oL)::(x,smO dx)::(dx,od')::(sp,bz led')::(sj,bz led)::(d2,o2)::(rows.map aM.ob++T)) (List.perm_middle (l₁:=(x,smO dx)::(dx,od')::(sp,bz led')::(sj,bz led)::(d2,o2)::rows.map aM.ob))
  refine k _ _ _ _ _ _ _ led led' ?kp ?st hf7 hd2 hrows
  case kp=>exact⟨hKp.os,hKp.gens⟩
  case st=>exact S8.leave 0 rfl r
end
end
section
abbrev mf(va vb mb fc j sj sp:Value):List (Str×Value) :=
 [(Str.ofString "isjunk", .none),(Str.ofString "a", va),(Str.ofString "b", vb),(Str.ofString "autojunk", .bool true),(Str.ofString "matching_blocks", mb),(Str.ofString "opcodes", .none),(Str.ofString "fullbcount", fc),
  (Str.ofString "b2j", j),(Str.ofString "bjunk", sj),(Str.ofString "bpopular", sp)]
section
variable{w:World}{A:Around}{E:VP}{s:Shared}{hb:Heap}{L x dx C:Addr}{l:List (Str×Value)}{T:List (Addr×Obj)}{R:Result→Shared→Prop}{od:Obj}{fl:List (Str×Value)}{va vb:Value}{la lb:List Str}{Ra Rb:List (Addr×Obj)}{prog:Program}{K:Frag}{tabs:List Addr}
theorem lZ{rest:List Value}{kw:List (Str×Value)}{fI:Addr}(G:Gd K tabs hb)(S:St hb tabs L l T s.heap)
  (h:∀ x dx h',St hb tabs L l ((x,(⟨.ref C,some dx,.plain,#[]⟩:Obj))::(dx,dict0)::T) h' →
   codeAny (model prog w) (A.under (.builtin "type.__call__" ⟨.ref C::rest,kw⟩)) (.call (.ref fI) ⟨.ref x::rest,kw⟩) (InitBack x R) (wh s h'))
  (hm:makesIn K C=true:=by kernel_rfl) (hi:findIn K (.ref C) "__init__" = some (some (.ref fI)):=by kernel_rfl) (hf:typeIn K (.ref fI)=some (.type "function"):=by kernel_rfl) :
  codeAny (model prog w) A (.call (.ref C) ⟨rest,kw⟩) R s:=by
 have X:=S.kin G
 obtain⟨hh,g,d,t,os⟩:=s
 refine make_core (makes_of X hm) (looks_findIn X hi) (fun self=>bind_fn X self hf) (.inl rfl) (h _ hh.objs.size _ ?_)
 have:=(S.push emptyDict).push (instObj C hh.objs.size)
 rwa [Heap.size_push] at this
end
section
variable{w:World}{A:Around}{E:VP}{s:Shared}{hb:Heap}{L x dx C:Addr}{l:List (Str×Value)}{T:List (Addr×Obj)}{R:Result→Shared→Prop}{od:Obj}{fl:List (Str×Value)}{va vb:Value}{la lb:List Str}{Ra Rb:List (Addr×Obj)}
theorem set_seqs(G:Gd (KN w.params) tabs hb)(S:St hb tabs L l ((x,smO dx)::(dx,od)::T) s.heap)(hd:A.depth+2<recursionLimit)(hh:A.handled=none)
  (hf:aY od [(Str.ofString "isjunk", .none),(Str.ofString "a", .none),(Str.ofString "b", .none),(Str.ofString "autojunk", .bool true)])
  (Vb:SqV pw w hb tabs Rb vb lb) (hRb:∀ p∈Rb,p∈T) (ha:dw w hb va .none False) (hb':dw w hb vb .none False)
  (k:km w hb L x dx l T R lb (mf va vb .none .none) s) :
  codeAny (model pw w) A (.call (.ref 195) ⟨[.ref x,va,vb],[]⟩) R s:=by
 refine cc G S (lk195 _) (by exact dn 2 hd) (binds:=[(Str.ofString "self", .ref x),(Str.ofString "a", va),(Str.ofString "b", vb)]) (body:=ao (st2 pw 6 2)) (BindsTo.of_eq (by kernel_rfl)) ?_
 intro L' h_1 oL r S'
 refine c8 ?_
 refine aZ ?_
 refine aC ?_
 refine ac S' m0 ?_
 refine bA (f:=202) G S' m1 m2 hf ?_
 refine aN G ?_
 refine args_cons ?_
 refine ac S' m1 ?_
 refine args_nil ?_
 refine⟨⟨_,_,_,S'⟩,?_⟩
 have S_2:=S'.perm (T':=(x,smO dx)::(dx,od)::(L,oL)::T) ((List.perm_append_comm (l₁:=[(L,oL)]) (l₂:=[(x,smO dx),(dx,od)])).append_right T)
 refine set_seq1 (C:=False) (av:=.none) (fl1:=[(Str.ofString "isjunk", .none),(Str.ofString "a", va),(Str.ofString "b", .none),(Str.ofString "autojunk", .bool true)])
  (fl2:=[(Str.ofString "isjunk", .none),(Str.ofString "a", va),(Str.ofString "b", .none),(Str.ofString "autojunk", .bool true),(Str.ofString "matching_blocks", .none)])
  (fl3:=[(Str.ofString "isjunk", .none),(Str.ofString "a", va),(Str.ofString "b", .none),(Str.ofString "autojunk", .bool true),(Str.ofString "matching_blocks", .none),(Str.ofString "opcodes", .none)])
  G S_2 (by show A.depth+1<_;exact dn 1 hd) hf m1 rfl ha (.there (by kernel_rfl) .here) (.there (by kernel_rfl) (.there (by kernel_rfl) (.there (by kernel_rfl) (.there (by kernel_rfl) .nil))))
  (.there (by kernel_rfl) (.there (by kernel_rfl) (.there (by kernel_rfl) (.there (by kernel_rfl) (.there (by kernel_rfl) .nil))))) rfl rfl rfl nofun ?_
 intro h_3 tk od3 S_3 hf3
 refine aZ ?_
 refine aC ?_
 refine ac S_3 m0 ?_
 refine bA (f:=209) G S_3 m0 m1 hf3 ?_
 refine aN G ?_
 refine args_cons ?_
 refine ac S_3 m2 ?_
 refine args_nil ?_
 refine⟨⟨_,_,_,S_3⟩,?_⟩
 refine set_seq2 (C:=False) (bv:=.none) (f1:=[(Str.ofString "isjunk", .none),(Str.ofString "a", va),(Str.ofString "b", vb),(Str.ofString "autojunk", .bool true),(Str.ofString "matching_blocks", .none),(Str.ofString "opcodes", .none)])
  (f2:=[(Str.ofString "isjunk", .none),(Str.ofString "a", va),(Str.ofString "b", vb),(Str.ofString "autojunk", .bool true),(Str.ofString "matching_blocks", .none),(Str.ofString "opcodes", .none)])
  (f3:=[(Str.ofString "isjunk", .none),(Str.ofString "a", va),(Str.ofString "b", vb),(Str.ofString "autojunk", .bool true),(Str.ofString "matching_blocks", .none),(Str.ofString "opcodes", .none)])
  (f4:=[(Str.ofString "isjunk", .none),(Str.ofString "a", va),(Str.ofString "b", vb),(Str.ofString "autojunk", .bool true),(Str.ofString "matching_blocks", .none),(Str.ofString "opcodes", .none),(Str.ofString "fullbcount", .none)])
  (fl1:=fun j=>[(Str.ofString "isjunk", .none),(Str.ofString "a", va),(Str.ofString "b", vb),(Str.ofString "autojunk", .bool true),(Str.ofString "matching_blocks", .none),(Str.ofString "opcodes", .none),(Str.ofString "fullbcount", .none),(Str.ofString "b2j", j)])
  (fl2:=fun j sj=>[(Str.ofString "isjunk", .none),(Str.ofString "a", va),(Str.ofString "b", vb),(Str.ofString "autojunk", .bool true),(Str.ofString "matching_blocks", .none),(Str.ofString "opcodes", .none),(Str.ofString "fullbcount", .none),(Str.ofString "b2j", j),(Str.ofString "bjunk", sj)])
  (fl3:=mf va vb .none .none)
  G S_3 (by show A.depth+1+1<_;exact hd) hh hf3 m2 rfl Vb (fun p hp=>.tail _ (hRb p hp)) hb'
  (.there (by kernel_rfl) (.there (by kernel_rfl) .here))
  (.there (by kernel_rfl) (.there (by kernel_rfl) (.there (by kernel_rfl) (.there (by kernel_rfl) .here))))
  (.there (by kernel_rfl) (.there (by kernel_rfl) (.there (by kernel_rfl) (.there (by kernel_rfl) (.there (by kernel_rfl) .here)))))
  (.there (by kernel_rfl) (.there (by kernel_rfl) (.there (by kernel_rfl) (.there (by kernel_rfl) (.there (by kernel_rfl) (.there (by kernel_rfl) .nil))))))
  rfl rfl rfl rfl m2 (by kernel_rfl)
  (fun _=>.there (by kernel_rfl) (.there (by kernel_rfl) (.there (by kernel_rfl) (.there (by kernel_rfl) (.there (by kernel_rfl) (.there (by kernel_rfl) (.there (by kernel_rfl) .nil)))))))
  (fun _ _=>.there (by kernel_rfl) (.there (by kernel_rfl) (.there (by kernel_rfl) (.there (by kernel_rfl) (.there (by kernel_rfl) (.there (by kernel_rfl) (.there (by kernel_rfl) (.there (by kernel_rfl) .nil))))))))
  (fun _ _ _=>.there (by kernel_rfl) (.there (by kernel_rfl) (.there (by kernel_rfl) (.there (by kernel_rfl) (.there (by kernel_rfl) (.there (by kernel_rfl) (.there (by kernel_rfl) (.there (by kernel_rfl) (.there (by kernel_rfl) .nil)))))))))
  (fun _ _=>m0) (fun _ _ _=>m3) (fun _ _ _=>⟨rfl,rfl,rfl⟩) nofun ?_
 intro s' od' d2 sj sp o2 rows led led' hKp S7 hf7 hd2 hrows
 refine ax ?_
 have S8:=S7.perm (T':=(L,oL)::(x,smO dx)::(dx,od')::(sp,bz led')::(sj,bz led)::(d2,o2)::(rows.map aM.ob++T)) (List.perm_middle (l₁:=(x,smO dx)::(dx,od')::(sp,bz led')::(sj,bz led)::(d2,o2)::rows.map aM.ob))
 refine k _ _ _ _ _ _ _ led led' ?kp ?st hf7 hd2 hrows
 case kp=>exact⟨hKp.os,hKp.gens⟩
 case st=>exact S8.leave 0 rfl r
theorem jc{args:Args}(G:Gd (KN w.params) tabs hb)(S:St hb tabs L l ((x,smO dx)::(dx,dict0)::T) s.heap)(hd:A.depth+3<recursionLimit)(hh:A.handled=none)
  (Vb:SqV pw w hb tabs Rb vb lb) (hRb:∀ p∈Rb,p∈T) (ha:dw w hb va .none False) (hb':dw w hb vb .none False)
  (hbind:BindsTo s (rz w.params) args [(Str.ofString "self", .ref x),(Str.ofString "isjunk", .none),(Str.ofString "a", va),(Str.ofString "b", vb),(Str.ofString "autojunk", .bool true)])
  (k:km w hb L x dx l T R lb (mf va vb .none .none) s) :
  codeAny (model pw w) A (.call (.ref 188) args) R s:=by
 refine cc G S (lk188 _) (by exact dn 3 hd) (body:=ao (st2 pw 6 1)) hbind ?_
 intro L' h_1 oL r S'
 have hf0:aY dict0 []:=⟨[],0,rfl,.nil,rfl⟩
 refine c8 ?_
 refine bN ?_
 refine ac S' m1 ?_
 refine ac S' m0 ?_
 refine aD (fl':=[(Str.ofString "isjunk", .none)]) 2 G S' m1 rfl hf0 .nil ?_
 intro h_2 od2 S_2 hf2
 refine eW ?_
 refine wpAny_Constant_none ?_
 refine bH ?_
 refine ac S_2 m0 ?_
 refine aD (fl':=[(Str.ofString "isjunk", .none),(Str.ofString "a", .none)]) 2 G S_2 m1 rfl hf2 (.there (by kernel_rfl) .nil) ?_
 intro h_3 od3 S_3 hf3
 refine bH ?_
 refine ac S_3 m0 ?_
 refine aD (fl':=[(Str.ofString "isjunk", .none),(Str.ofString "a", .none),(Str.ofString "b", .none)]) 2 G S_3 m1 rfl hf3 (.there (by kernel_rfl) (.there (by kernel_rfl) .nil)) ?_
 intro h_4 od4 S4 hf4
 refine bN ?_
 refine ac S4 m4 ?_
 refine ac S4 m0 ?_
 refine aD (fl':=[(Str.ofString "isjunk", .none),(Str.ofString "a", .none),(Str.ofString "b", .none),(Str.ofString "autojunk", .bool true)]) 2 G S4 m1 rfl hf4 (.there (by kernel_rfl) (.there (by kernel_rfl) (.there (by kernel_rfl) .nil))) ?_
 intro h_5 od5 S5 hf5
 refine aZ ?_
 refine aC ?_
 refine ac S5 m0 ?_
 refine bA (f:=195) G S5 m1 m2 hf5 ?_
 refine aN G ?_
 refine args_cons ?_
 refine ac S5 m2 ?_
 refine args_cons ?_
 refine ac S5 m3 ?_
 refine args_nil ?_
 refine⟨⟨_,_,_,S5⟩,?_⟩
 have S6:=S5.perm (T':=(x,smO dx)::(dx,od5)::(L,oL)::T) ((List.perm_append_comm (l₁:=[(L,oL)]) (l₂:=[(x,smO dx),(dx,od5)])).append_right T)
 refine set_seqs G S6 (by show A.depth+1+2<_;exact hd) hh hf5 Vb (fun p hp=>.tail _ (hRb p hp)) ha hb' ?_
 intro s' od' d2 sj sp o2 rows led led' hKp S7 hf7 hd2 hrows
 refine ax ?_
 have S8:=S7.perm (T':=(L,oL)::(x,smO dx)::(dx,od')::(sp,bz led')::(sj,bz led)::(d2,o2)::(rows.map aM.ob++T)) (List.perm_middle (l₁:=(x,smO dx)::(dx,od')::(sp,bz led')::(sj,bz led)::(d2,o2)::rows.map aM.ob))
 refine k _ _ _ _ _ _ _ led led' ?kp ?st hf7 hd2 hrows
 case kp=>exact⟨hKp.os,hKp.gens⟩
 case st=>exact S8.leave 0 rfl r
end
end
section
def cnt(c:Str):List Str→Nat
 | []=>0
 | d::l=>(if d=c then 1 else 0)+cnt c l
theorem iU(c:Str)(l r:List Str):cnt c (l++r)=cnt c l+cnt c r:=by
 induction l with
 | nil=>simp[cnt]
 | cons d l ih=>rw[List.cons_append,cnt,ih,cnt];exact z0a
theorem il(c d:Str)(l:List Str):cnt c (l++[d])=cnt c l+if d=c then 1 else 0:=by
 rw[iU];simp[cnt]
theorem fy{c:Str}:∀ {l:List Str},cnt c l=0↔c∉l
 | []=>by simp[cnt]
 | d::l=>by
  rw[cnt,List.mem_cons]
  by_cases h:d=c
  ·rw[if_pos h];constructor
   ·intro q;lia
   ·intro q;exact absurd (.inl h.symm) q
  ·rw[if_neg h,Nat.zero_add,fy]
   constructor
   ·rintro q (e | e)
    ·exact h e.symm
    ·exact q e
   ·intro q e;exact q (.inr e)
def qpr(lb:List Str):List Str→Nat
 | []=>0
 | c::r=>qpr lb r+if cnt c r.reverse<cnt c lb then 1 else 0
def qp(lb la:List Str):Nat:=qpr lb la.reverse
theorem jC(lb l:List Str)(c:Str):qp lb (l++[c])=qp lb l+if cnt c l<cnt c lb then 1 else 0:=by
 unfold qp
 rw[List.reverse_append]
 show qpr lb (c::l.reverse)=_
 rw[qpr,List.reverse_reverse]
theorem lM(lb:List Str):∀ l,qpr lb l≤l.length
 | []=>Nat.le_refl _
 | c::r=>by
  have:=lM lb r
  rw[qpr,List.length_cons]
  split<;> lia
theorem qp_le(lb l:List Str):qp lb l≤l.length:=by
 have:=lM lb l.reverse
 rwa [List.length_reverse] at this
def Fb(kvs:List (Str×Value))(lb:List Str):Prop:=∀ c,(c∉lb→valueAt kvs c=none)∧(c∈lb→∃ t,valueAt kvs c=some (.int (cnt c lb) t))
theorem Fb.nil:Fb [] []:=fun c=>⟨fun _=>rfl,fun h=>by cases h⟩
theorem Fb.get{kvs:List (Str×Value)}{lb:List Str}(h:Fb kvs lb)(c:Str)(u:Tok):∃ t,(valueAt kvs c).getD (.int 0 u)=.int (cnt c lb) t:=by
 by_cases q:c∈lb
 ·obtain⟨t,e⟩:=(h c).2 q
  exact⟨t,by rw[e];rfl⟩
 ·refine⟨u,?_⟩
  rw[(h c).1 q,fy.mpr q];rfl
theorem Fb.snoc{kvs:List (Str×Value)}{lb:List Str}(h:Fb kvs lb)(c:Str)(t:Tok):Fb (stored kvs c (.int (cnt c lb+1:Int) t)) (lb++[c]):=fun d=>by
 rw[bn,il]
 by_cases e:c=d
 ·subst e
  simp
 ·simp only[if_neg e,Nat.add_zero]
  refine⟨fun q=>(h d).1 fun z=>q (List.mem_append_left _ z),fun q=>(h d).2 ?_⟩
  rcases List.mem_append.mp q with z | z
  ·exact z
  ·exact absurd (List.mem_singleton.mp z).symm e
def Av(kvs:List (Str×Value))(seen lb:List Str):Prop:=∀ c,(c∉seen→valueAt kvs c=none)∧(c∈seen→∃ t,valueAt kvs c=some (.int ((cnt c lb:Int) - cnt c seen) t))
theorem Av.nil{lb:List Str}:Av [] [] lb:=fun c=>⟨fun _=>rfl,fun h=>by cases h⟩
theorem Av.some_iff{kvs:List (Str×Value)}{seen lb:List Str}(h:Av kvs seen lb)(c:Str):(valueAt kvs c).isSome=true↔c∈seen:=by
 by_cases q:c∈seen
 ·obtain⟨t,e⟩:=(h c).2 q
  simp[e,q]
 ·simp[(h c).1 q,q]
theorem Av.snoc{kvs:List (Str×Value)}{seen lb:List Str}(h:Av kvs seen lb)(c:Str)(t:Tok):Av (stored kvs c (.int ((cnt c lb:Int) - cnt c seen - 1) t)) (seen++[c]) lb:=fun d=>by
 rw[bn,il]
 by_cases e:c=d
 ·subst e
  simp only[if_true]
  refine⟨fun q=>absurd (List.mem_append_right _ (.head _)) q,fun _=>⟨t,?_⟩⟩
  congr 2
  exact zbm
 ·simp only[if_neg e,Nat.add_zero]
  refine⟨fun q=>(h d).1 fun z=>q (List.mem_append_left _ z),fun q=>(h d).2 ?_⟩
  rcases List.mem_append.mp q with z | z
  ·exact z
  ·exact absurd (List.mem_singleton.mp z).symm e
theorem Fb.case{kvs:List (Str×Value)}{lb seen:List Str}{c:Str}{u:Tok}(P:Value→Prop)(h:Fb kvs lb)(hc:c∉seen)(k:∀ t,P (.int ((cnt c lb:Int) - cnt c seen) t)):P ((valueAt kvs c).getD (.int 0 u)):=by
 obtain⟨t,e⟩:=h.get c u
 rw[e]
 have:=k t
 rw[fy.mpr hc] at this
 simpa using this
end
section
def Fc(w:World)(T:List (Addr×Obj))(fc:Value)(lb:List Str):Prop:=fc=.none∨Ex3 fun df o kvs=>An4 (fc=.ref df) ((df,o)∈T) (o.IsDictOf (PySem.strKind pw w) kvs) (Fb kvs lb)
theorem Fc.mono{w:World}{T T':List (Addr×Obj)}{fc:Value}{lb:List Str}(h:Fc w T fc lb)(hs:∀ p∈T,p∈T'):Fc w T' fc lb:=by
 rcases h with h | ⟨df,o,kvs,a,b,c,d⟩
 ·exact .inl h
 ·exact .inr ⟨df,o,kvs,a,hs _ b,c,d⟩
section
variable{w:World}{A:Around}{E:VP}{s:Shared}{hb:Heap}{L x dx:Addr}{l:List (Str×Value)}{T:List (Addr×Obj)}{R:Result→Shared→Prop}{od:Obj}{va vb mb fc j sj sp:Value}{la lb:List Str}{Ra Rb:List (Addr×Obj)}
abbrev rA(w:World)(L':Addr):Env:=callEnv (ru w.params) L' 260
theorem iF (G:Gd (KN w.params) tabs hb) {L' df:Addr}{oL of:Obj}{kvs:List (Str×Value)} (S:St hb tabs L' [(Str.ofString "self", .ref x)] ((L,oL)::(x,smO dx)::(dx,od)::T) s.heap) (r:cJ oL l) (hd:A.depth+1<recursionLimit) (hh:A.handled=none)
  (hf:aY od (mf va vb mb (.ref df) j sj sp)) (hdf:(df,of)∈T) (hof:of.IsDictOf (PySem.strKind pw w) kvs) (hfb:Fb kvs lb)
  (Va:SqV pw w hb tabs Ra va la) (Vb:SqV pw w hb tabs Rb vb lb) (hRa:∀ p∈Ra,p∈T) (hRb:∀ p∈Rb,p∈T)
  (k:∀ s' t',Kp s s'→St hb tabs L l ((x,smO dx)::(dx,od)::T) s'.heap→R (.ok (.ret (.float (share (qp lb la) (la.length+lb.length)) t'))) s') :
  wpAny (model pw w) (A.deeper (rA w L')) (execs ((ao (st2 pw 6 11)).drop 2) (rA w L')) (fun f s'=>R (.ok (.ret (match f with | .ret v=>v | _=>.none))) s') E s:=by
 refine ak ?_
 refine bg ?_
 refine ac S m0 ?_
 refine aQ G S m1 m2 hf m6 ?_
 refine af S (.new (by kernel_rfl)) ?_
 intro h_2 S_2
 refine ak ?_
 refine dW S_2 ?_
 intro d h_3 S_3
 refine af S_3 (.new (by kernel_rfl)) ?_
 intro h_4 S4
 refine dY [Str.ofString "availhas", Str.ofString "matches"] ?_
 refine args_cons ?_
 refine bg ?_
 refine ac S4 m0 ?_
 refine jB "dict.__contains__" S4 m0 (cy (knd:=PySem.strKind pw w)) ?_ ?_ ?_
 rotate_left
 ·exact slot_dict_contains.lookup
 ·exact B.type_dict_contains
 intro u h_5 S5
 refine args_cons ?_
 refine wpAny_Constant_int ?_
 refine args_nil ?_
 refine⟨rfl,rfl,hh,_,_,_,_,_,S5,?_⟩
 intro h_6 S6
 refine aU ?_
 refine af S6 (.new (by kernel_rfl)) ?_
 intro h_7 S7
 refine aU ?_
 refine af S7 (.new (by kernel_rfl)) ?_
 intro h_8 S8
 refine eg ?_
 refine el ?_
 refine bg ?_
 refine ac S8 m4 ?_
 refine aQ G S8 m3 m4 hf m1 ?_ (hv:=Va.hand)
 refine Va.iter S8 (fun p hp=>.tail _ (.tail _ (.tail _ (.tail _ (.tail _ (hRa p hp)))))) ?_
 intro I o Wt fp h_9 IV hw S9
 refine dK (own:=[(I,o)]) (Ro:=Ra) (IV.walks (A.deeper _) hh) (fun i h hi b hb'=>by rw[List.mem_singleton] at hb';subst hb';exact IV.ex i h hi) rfl IV.ro S9 hw
  (fun i l₁ T1=>Ex3 fun tm o2 kv2=>An5 (l₁=[(Str.ofString "availhas", .ref u),(Str.ofString "matches", .int (qp lb (la.take i)) tm),(Str.ofString "avail", .ref d),(Str.ofString "fullbcount", .ref df),(Str.ofString "self", .ref x)]) (T1=(u,bmO "dict.__contains__" d)::(d,o2)::(L,oL)::(x,smO dx)::(dx,od)::T) (o2.IsDictOf (PySem.strKind pw w) kv2) (Av kv2 (la.take i) lb) (kv2.length≤i))
  ?_ (fun p hp=>.tail _ (.tail _ (.tail _ (.tail _ (.tail _ (hRa p hp)))))) ?_ ?_
 ·exact⟨_,dict0,[],rfl,rfl,cy,Av.nil,Nat.le_refl _⟩
 ·rintro E1 i v l₁ T1 own1 s₁ hi ⟨c,u',hc,rfl⟩ ⟨tm,o2,kv2,rfl,rfl,hd2,hav,hlen⟩ S10 hRo hKp
  have hsm:=Va.small
  have hsb:=Vb.small
  refine aT ?_
  refine af S10 (.new (by kernel_rfl)) ?_
  intro h_11 S11
  refine fU (fun s_2=>∃ tn,Kp s₁ s_2∧St hb tabs L' [(Str.ofString "numb", .int ((cnt c lb:Int) - cnt c (la.take i)) tn),(Str.ofString "elt", .str c u'),(Str.ofString "availhas", .ref u),(Str.ofString "matches", .int (qp lb (la.take i)) tm),(Str.ofString "avail", .ref d),(Str.ofString "fullbcount", .ref df),(Str.ofString "self", .ref x)]
   ((u,bmO "dict.__contains__" d)::(d,o2)::(L,oL)::(x,smO dx)::(dx,od)::(T++own1)) s_2.heap) ?_ ?_
  ·refine isTrue_plain ?_
   refine ap ?_
   refine ac S11 m1 ?_
   refine cz (id := "dict.__contains__") (d:=d) ?_
   refine args_cons ?_
   refine ac S11 m0 ?_
   refine args_nil ?_
   refine⟨S11.obj _ m0,?_⟩
   refine gS G S11 m0 m1 hd2 (k:=c) bZ ?_
   refine wpAny_truthy_bool ⟨fun hb'=>?_,fun hb'=>?_⟩
   ·have hm:=(hav.some_iff c).mp hb'
    obtain⟨t,e⟩:=(hav c).2 hm
    refine ak ?_
    refine Subscript_ ?_
    refine ac S11 m3 ?_
    refine ac S11 m0 ?_
    refine pi S11 m1 hd2 (k:=c) bZ e ?_
    refine af S11 (.new (by kernel_rfl)) ?_
    intro h12 S12
    refine ax ?_
    exact⟨rfl,_,⟨rfl,id⟩,S12⟩
   ·have hm:c∉la.take i:=fun q=>by rw[(hav.some_iff c).mpr q] at hb';cases hb'
    refine ak ?_
    refine aC ?_
    refine ac S11 m4 ?_
    refine eV S11 (.tail _ (.tail _ (.tail _ (.tail _ (.tail _ (List.mem_append_left _ hdf)))))) hof PySem.F.slot_dict_get PySem.F.type_dict_get ?_
    refine ag ?_
    refine args_cons ?_
    refine ac S11 m0 ?_
    refine args_cons ?_
    refine wpAny_Constant_int ?_
    refine args_nil ?_
    refine jA G S11 (.tail _ (.tail _ (.tail _ (.tail _ (.tail _ (List.mem_append_left _ hdf)))))) hof (k:=c) bZ ?_
    refine hfb.case (fun v=>wpAny _ _ (storeName _ _ v) _ _ _) hm fun t=>?_
    refine af S11 (.new (by kernel_rfl)) ?_
    intro h12 S12
    refine ax ?_
    exact⟨rfl,_,⟨rfl,id⟩,S12⟩
  ·rintro s_2 ⟨tn,hKp2,S12⟩
   refine fT ?_
   refine wpAny_BinOp ?_
   refine ac S12 m0 ?_
   refine wpAny_Constant_int ?_
   refine sub_int ?_
   refine ac S12 m4 ?_
   refine ac S12 m1 ?_
   refine dT 1 S12 rfl hd2 (k:=c) bZ ?_ (by exact z6x hi hlen hsm)
   intro h13 o3 S13 hd3
   refine fU (fun s3=>∃ tm',Kp s₁ s3∧St hb tabs L' [(Str.ofString "numb", .int ((cnt c lb:Int) - cnt c (la.take i)) tn),(Str.ofString "elt", .str c u'),(Str.ofString "availhas", .ref u),(Str.ofString "matches", .int (qp lb (la.take (i+1))) tm'),(Str.ofString "avail", .ref d),(Str.ofString "fullbcount", .ref df),(Str.ofString "self", .ref x)]
    ((u,bmO "dict.__contains__" d)::(d,o3)::(L,oL)::(x,smO dx)::(dx,od)::(T++own1)) s3.heap) ?_ ?_
   ·have htk:la.take (i+1)=la.take i++[c]:=by rw[List.take_add_one,hc];rfl
    refine wpAny_isTrue_Compare1 ?_
    refine ac S13 m0 ?_
    refine wpAny_Constant_int ?_
    refine gt_int ?_
    refine wpAny_truthy_bool ⟨fun hb'=>?_,fun hb'=>?_⟩
    ·have hlt:=of_decide_eq_true hb'
     refine ak ?_
     refine wpAny_BinOp ?_
     refine ac S13 m3 ?_
     refine wpAny_Constant_int ?_
     refine add_int ?_
     refine af S13 (.old (.there (.there (.there .here)))) ?_
     intro h14 S14
     refine ax ?_
     have e:(qp lb (la.take (i+1)):Int)=qp lb (la.take i)+1:=by
      rw[htk,jC,if_pos (by exact z6z hb')];rfl
     rw[← e] at S14
     exact⟨rfl,_,⟨hKp2.os,hKp2.gens⟩,S14⟩
    ·have hlt:=of_decide_eq_false hb'
     refine ax ?_
     have e:qp lb (la.take (i+1))=qp lb (la.take i):=by
      rw[htk,jC,if_neg (by exact z70 hb')];rfl
     rw[← e] at S13
     exact⟨rfl,_,⟨hKp2.os,hKp2.gens⟩,S13⟩
   ·rintro s3 ⟨tm',hKp3,S14⟩
    have htk:la.take (i+1)=la.take i++[c]:=by rw[List.take_add_one,hc];rfl
    refine ax ?_
    refine⟨_,_,S14.forget (.cons _ (.cons _ (List.Sublist.refl _))),⟨tm',o3,_,rfl,rfl,hd3,?_,?_⟩,?_,⟨hKp3.os.trans hKp.os,fun z=>hKp3.gens (hKp.gens z)⟩⟩
    ·rw[htk];exact hav.snoc c _
    ·exact Nat.le_trans (cZ _ _ _) (by exact z6y hlen)
    ·exact fun p hp=>.tail _ (.tail _ (.tail _ (.tail _ (.tail _ (hRa p hp)))))
 ·rintro s' l' T' hKp S10 ⟨tm,o2,kv2,rfl,rfl,hd2,hav,hlen⟩ hRo
  have hsm:=Va.small
  have hsb:=Vb.small
  have hql:=qp_le lb la
  rw[List.take_length] at S10
  refine b7 ?_
  refine ap ?_
  refine aq G S10 (v:=.ref 173) (by kernel_rfl) ?_
  refine aN G ?_
  refine args_cons ?_
  refine ac S10 m1 ?_
  refine args_cons ?_
  refine wpAny_BinOp ?_
  refine ap ?_
  refine ai G S10 boot_len ?_
  refine ag ?_
  refine args_cons ?_
  refine bg ?_
  refine ac S10 m4 ?_
  refine aQ G S10 m3 m4 hf m1 ?_ (hv:=Va.hand)
  refine args_nil ?_
  refine Va.len S10 (fun p hp=>.tail _ (.tail _ (.tail _ (.tail _ (.tail _ (hRa p hp)))))) ?_
  intro t_1 tk_1
  refine ap ?_
  refine ai G S10 boot_len ?_
  refine ag ?_
  refine args_cons ?_
  refine bg ?_
  refine ac S10 m4 ?_
  refine aQ G S10 m3 m4 hf m2 ?_ (hv:=Vb.hand)
  refine args_nil ?_
  refine Vb.len S10 (fun p hp=>.tail _ (.tail _ (.tail _ (.tail _ (.tail _ (hRb p hp)))))) ?_
  intro t_2 tk_2
  refine add_int ?_
  refine args_nil ?_
  refine⟨⟨_,_,_,S10⟩,?_⟩
  refine eI G (by exact S10) (by show A.depth+1<_;exact hd) (by exact z13) (by exact z14 hsm hql) (by exact z15) (by exact z16 hsm hsb) ?_
  intro h_6 tk6 t_6 S6
  have S7:=S6.sub (T':=(L,oL)::(x,smO dx)::(dx,od)::T) (.cons _ (.cons _ (List.Sublist.refl _)))
  refine k _ _ ?kp ?st
  case kp=>exact⟨hKp.os,hKp.gens⟩
  case st=>exact S7.leave 0 rfl r
theorem quick_ratio{T₀:List (Addr×Obj)}(hT0:∀ p∈T₀,p∈T)(G:Gd (KN w.params) tabs hb)(S:St hb tabs L l ((x,smO dx)::(dx,od)::T) s.heap)(hd:A.depth+1<recursionLimit)(hh:A.handled=none)
  {fc:Value} (hf:aY od (mf va vb mb fc j sj sp)) (hfc:Fc w T₀ fc lb)
  (Va:SqV pw w hb tabs Ra va la) (Vb:SqV pw w hb tabs Rb vb lb) (hRa:∀ p∈Ra,p∈T) (hRb:∀ p∈Rb,p∈T)
  (k:∀ s' t' od' X fc',Kp s s'→St hb tabs L l ((x,smO dx)::(dx,od')::(X++T)) s'.heap→aY od' (mf va vb mb fc' j sj sp)→Fc w (X++T₀) fc' lb→R (.ok (.ret (.float (share (qp lb la) (la.length+lb.length)) t'))) s') :
  codeAny (model pw w) A (.call (.ref 260) ⟨[.ref x],[]⟩) R s:=by
 refine cc G S (lk260 _) (by exact dn 1 hd) (binds:=[(Str.ofString "self", .ref x)]) (body:=ao (st2 pw 6 11)) (BindsTo.of_eq (by kernel_rfl)) ?_
 intro L' h_1 oL r S'
 refine c8 ?_
 refine fU (fun s_2=>Ex5 fun od' X df o kvs=>An6 (Kp s s_2) (St hb tabs L' [(Str.ofString "self", .ref x)] ((L,oL)::(x,smO dx)::(dx,od')::(X++T)) s_2.heap) (aY od' (mf va vb mb (.ref df) j sj sp)) ((df,o)∈X++T₀) (o.IsDictOf (PySem.strKind pw w) kvs) (Fb kvs lb)) ?_ ?_
 ·refine wpAny_isTrue_Compare1 ?_
  refine bg ?_
  refine ac S' m0 ?_
  refine aQ G S' m1 m2 hf m6 ?_ (hv:=by rcases hfc with rfl | ⟨_,_,_,rfl,_⟩<;> rfl)
  refine wpAny_Constant_none ?_
  rcases hfc with rfl | ⟨df,o,kvs,rfl,hm,hd2,hfb⟩
  ·refine is_none ?_
   refine wpAny_truthy_bool ⟨fun _=>?_,nofun⟩
   refine eW ?_
   refine dW S' ?_
   intro df h_2 S_2
   refine bH ?_
   refine ac S_2 m0 ?_
   refine aD (fl':=mf va vb mb (.ref df) j sj sp) 3 G S_2 m2 rfl hf (.there (by kernel_rfl) (.there (by kernel_rfl) (.there (by kernel_rfl) (.there (by kernel_rfl) (.there (by kernel_rfl) (.there (by kernel_rfl) .here)))))) ?_
   intro h_3 od3 S_3 hf3
   refine aT ?_
   refine af S_3 (.new (by kernel_rfl)) ?_
   intro h_4 S4
   refine el ?_
   refine bg ?_
   refine ac S4 m1 ?_
   refine aQ G S4 m2 m3 hf3 m2 ?_ (hv:=Vb.hand)
   refine Vb.iter S4 (fun p hp=>.tail _ (.tail _ (.tail _ (.tail _ (hRb p hp))))) ?_
   intro I o Wt fp h_5 IV hw S5
   refine dK (own:=[(I,o)]) (Ro:=Rb) (IV.walks (A.deeper _) hh) (fun i h hi b hb'=>by rw[List.mem_singleton] at hb';subst hb';exact IV.ex i h hi) rfl IV.ro S5 hw
    (fun i l₁ T1=>Ex2 fun o2 kv2=>An5 (l₁=[(Str.ofString "fullbcount", .ref df),(Str.ofString "self", .ref x)]) (T1=(df,o2)::(L,oL)::(x,smO dx)::(dx,od3)::T) (o2.IsDictOf (PySem.strKind pw w) kv2) (Fb kv2 (lb.take i)) (kv2.length≤i))
    ?_ (fun p hp=>.tail _ (.tail _ (.tail _ (.tail _ (hRb p hp))))) ?_ ?_
   ·exact⟨dict0,[],rfl,rfl,cy,Fb.nil,Nat.le_refl _⟩
   ·rintro E1 i v l₁ T1 own1 s₁ hi ⟨c,u',hc,rfl⟩ ⟨o2,kv2,rfl,rfl,hd2,hfb,hlen⟩ S10 hRo hKp
    have hsb:=Vb.small
    have htk:lb.take (i+1)=lb.take i++[c]:=by rw[List.take_add_one,hc];rfl
    refine aT ?_
    refine af S10 (.new (by kernel_rfl)) ?_
    intro h_11 S11
    refine fT ?_
    refine wpAny_BinOp ?_
    refine aC ?_
    refine ac S11 m1 ?_
    refine eV S11 m0 hd2 PySem.F.slot_dict_get PySem.F.type_dict_get ?_
    refine ag ?_
    refine args_cons ?_
    refine ac S11 m0 ?_
    refine args_cons ?_
    refine wpAny_Constant_int ?_
    refine args_nil ?_
    refine jA G S11 m0 hd2 (k:=c) bZ ?_
    refine hfb.case (seen:=[]) (fun v=>wpAny _ _ (eval _ _) (fun w s'=>wpAny _ _ (binaryOp _ v w) _ _ s') _ _) nofun fun t=>?_
    refine wpAny_Constant_int ?_
    refine add_int ?_
    refine ac S11 m1 ?_
    refine ac S11 m0 ?_
    refine dT 0 S11 rfl hd2 (k:=c) bZ ?_ (by exact z6x hi hlen hsb)
    intro h13 o3 S13 hd3
    refine ax ?_
    refine⟨_,_,S13.forget (.cons _ (List.Sublist.refl _)),⟨o3,_,rfl,rfl,hd3,?_,?_⟩,?_,⟨hKp.os,hKp.gens⟩⟩
    ·rw[htk]
     rw[show ((cnt c (lb.take i):Int) - ((cnt c ([]:List Str):Nat):Int)+1)=(cnt c (lb.take i):Int)+1 from by simp[cnt]]
     exact hfb.snoc c _
    ·exact Nat.le_trans (cZ _ _ _) (by exact z6y hlen)
    ·exact fun p hp=>.tail _ (.tail _ (.tail _ (.tail _ (hRb p hp))))
   ·rintro s' l' T' hKp S10 ⟨o2,kv2,rfl,rfl,hd2,hfb,hlen⟩ hRo
    rw[List.take_length] at hfb
    refine ax ?_
    refine⟨rfl,od3,[(df,o2)],df,o2,kv2,⟨hKp.os,hKp.gens⟩,?_,hf3,m0,hd2,hfb⟩
    refine (S10.forget (.cons _ (List.Sublist.refl _))).perm ?_
    exact (List.perm_append_comm (l₁:=[(df,o2)]) (l₂:=[(L,oL),(x,smO dx),(dx,od3)])).append_right T
  ·refine is_ref_none ?_
   refine wpAny_truthy_bool ⟨nofun,fun _=>?_⟩
   refine ax ?_
   exact⟨rfl,od,[],df,o,kvs,⟨rfl,id⟩,S',hf,hm,hd2,hfb⟩
 ·rintro s_2 ⟨od',X,df,o,kvs,hKp,S_2,hf2,hm,hd2,hfb⟩
  have hm':(df,o)∈X++T:=by
   rcases List.mem_append.mp hm with q | q
   ·exact List.mem_append_left _ q
   ·exact List.mem_append_right _ (hT0 _ q)
  refine iF G S_2 r hd hh hf2 hm' hd2 hfb Va Vb (fun p hp=>List.mem_append_right _ (hRa p hp)) (fun p hp=>List.mem_append_right _ (hRb p hp)) ?_
  intro s' t' hKp' S_3
  exact k s' t' od' X (.ref df) ⟨hKp'.os.trans hKp.os,fun z=>hKp'.gens (hKp.gens z)⟩ S_3 hf2 (.inr ⟨df,o,kvs,rfl,hm,hd2,hfb⟩)
end
end
section
section
variable{w:World}{M:Model}{h:Heap}
theorem eD (X:(KN w.params).In h):Looks M h (isSubtype (.ref 163) (.type "tuple")) true:=looks_mroIn X (by kernel_rfl)
theorem nj(X:(KN w.params).In h):Looks M h (isSubtype (.ref 163) (.ref 163)) true:=looks_mroIn X (by kernel_rfl)
theorem ni (X:(KN w.params).In h):Looks M h (isSubtype (.ref 163) (.type "object")) true:=looks_mroIn X (by kernel_rfl)
theorem jN (X:(KN w.params).In h):Looks M h (typeLookup (.ref 163) "__init__") (some (.builtin "object.__init__")):=looks_findIn X (by kernel_rfl)
theorem jK(X:(KN w.params).In h):Looks M h (Bind.madeBy (.ref 163)) none:=Looks.of_peek X (by kernel_rfl)
theorem jM(X:(KN w.params).In h):Looks M h (isType (.ref 163)) true:=Looks.of_peek X (by kernel_rfl)
theorem nA (X:(KN w.params).In h):Looks M h (specialOf (.ref 163) "__call__") (some (.builtin "type.__call__")):=looks_specialIn X (by kernel_rfl)
theorem qO (X:(KN w.params).In h):Looks M h (isInstance (.ref 163) (.type "type")) true:=looks_instIn X (by kernel_rfl)
theorem qQ (X:(KN w.params).In h):Looks M h (mroOf (.ref 163)) [.ref 163,.type "tuple", .type "object"]:=Looks.of_peek X (by kernel_rfl)
theorem lR:readsIn (KN w.params) 163 (.type "type")=true:=by kernel_rfl
theorem qP:findCls (KN w.params) (.ref 163) (.type "type") "__new__" = some (.get (.builtin "staticmethod.__get__") (.ref 164) .none (.ref 163)):=by kernel_rfl
theorem np:findCls (KN w.params) (.type "tuple") (.type "type") "__new__" = some (.val (.builtin "tuple.__new__")):=by kernel_rfl
theorem kZ (X:(KN w.params).In h) (t:Addr):Looks M h (checkBuiltinCall "tuple.__new__" ⟨[.ref 163,.ref t],[]⟩) ():=Looks.of_peek X (by kernel_rfl)
theorem ny (X:(KN w.params).In h):Looks M h (Bind.madeHere "tuple.__new__" (.ref 163)) ():=Looks.of_peek X (by kernel_rfl)
theorem nm (X:(KN w.params).In h) (t:Addr):Looks M h (noKeywords "tuple" ⟨[.ref 163,.ref t],[]⟩) ():=Looks.of_peek X (by kernel_rfl)
theorem kY:checkCount "tuple" 0 1 1=pure ():=by kernel_rfl
theorem i3:Looks M h (typeOf (.type "tuple")) (.type "type"):=Looks.of_pure (by kernel_rfl)
theorem tp_ga (X:(KN w.params).In h):Looks M h (specialOf (.type "tuple") "__getattribute__") (some (.builtin "type.__getattribute__")):=i3.andThen (looks_findIn (K:=KN w.params) X (by kernel_rfl))
theorem i4 (X:(KN w.params).In h):Looks M h (opaqueClassAbove (.type "tuple")) none:=Looks.of_peek (K:=KN w.params) X (by kernel_rfl)
theorem oR:subIn (KN w.params) (.type "type") (.type "type")=some true:=by kernel_rfl
theorem tp_fi:findIn (KN w.params) (.type "type") "__getattribute__" = some (some (.builtin "type.__getattribute__")):=by kernel_rfl
theorem me (X:(KN w.params).In h):Looks M h (hookBefore (.type "type")) none:=looks_hook X (by kernel_rfl)
theorem jO(X:(KN w.params).In h):Looks M h (classHasDel 163) false:=Looks.of_peek X (by kernel_rfl)
end
end
section
abbrev moO(dd:Addr)(vs:List Value):Obj:={ cls:=.ref 163,dict:=some dd,data:=.seq vs.toArray }
section
variable{w:World}{A:Around}{E:VP}{s:Shared}{hb:Heap}{L t:Addr}{l:List (Str×Value)}{T:List (Addr×Obj)}{R:Result→Shared→Prop}{vs:List Value}
theorem io(G:Gd (KN w.params) tabs hb)(S:St hb tabs L l T s.heap)(hm:(t,au vs)∈T)(hz:vs.length≤1000)
  (k:∀ m dd h',St hb tabs L l ((m,moO dd vs)::T) h'→R (.ok (.ret (.ref m))) (wh s h')) :
  codeAny (model pw w) A (.call (.builtin "tuple.__new__") ⟨[.ref 163,.ref t],[]⟩) R s:=by
 have X:=S.kin G
 refine codeAny_call_builtin F.plain_tuple_new F.entry_tuple_new ((kZ X t).here ?_)
 unfold Builtin.«tuple.__new__»
 refine wpAny_bind ((jM X).here ?_)
 refine KFB.if_not rfl ?_
 refine wpAny_bind ((eD X).here ?_)
 refine KFB.if_not rfl ?_
 show wpAny _ _ (Bind.madeHere "tuple.__new__" (.ref 163) >>= _) _ _ _
 refine wpAny_bind ((ny X).here ?_)
 refine wpAny_bind ((jN X).here ?_)
 refine KFB.if_so rfl ?_
 refine wpAny_bind ((nm X t).here ?_)
 show wpAny _ _ (checkCount "tuple" 0 1 1 >>= _) _ _ _
 rw[kY]
 refine wpAny_bind (wpAny_pure ?_)
 show wpAny _ _ (if (Value.ref 163 == Value.type "tuple")=true then _ else _) _ _ _
 refine KFB.if_not rfl ?_
 refine wpAny_bind (wpAny_collect_seq (items:=vs.toArray) t (.inr rfl) (S.obj _ hm) rfl rfl (fun h' hk=>?_) (by rw[sizeLine_eq,List.size_toArray];exact up 16776216 hz))
 refine wpAny_bind (wpAny_pure ?_)
 have S':=S.grown (h':=h') hk
 show wpAny _ _ (alloc _ >>= _) _ _ _
 refine wpAny_bind (wpAny_alloc ?_)
 have S2:=S'.push dict0
 show wpAny _ _ (newObj (.ref 163) (.seq vs.toArray.toList.toArray) (some h'.objs.size) >>= _) _ _ _
 refine wpAny_bind ?_
 unfold newObj
 rw[List.toList_toArray]
 show wpAny _ _ (if vs.toArray.size > sizeLine then _ else newObjAsIs (.ref 163) (.seq vs.toArray) (some h'.objs.size)) _ _ _
 rw[if_neg (by rw[sizeLine_eq,List.size_toArray];exact zbb hz)]
 unfold newObjAsIs
 refine wpAny_bind (wpAny_alloc ?_)
 have S3:=S2.push (moO h'.objs.size vs)
 refine wpAny_bind ((jO (S3.kin (s:=(wh s ((h'.push dict0).push (moO h'.objs.size vs)))) G)).here ?_)
 refine KFB.if_not rfl ?_
 refine wpAny_pure (wpAny_pure ?_)
 exact k _ _ _ (S3.sub (.cons_cons _ (List.sublist_cons_self _ _)))
theorem eJ:bootBuiltins (Str.ofString "tuple")=some (.type "tuple"):=by kernel_rfl
theorem ia {E:VP}{pl:Sem Bool}{Q:Value×List Value→Shared→Prop} (X:(KN w.params).In s.heap) (h:Q (.builtin "tuple.__new__", []) (wt s (s.toks+1))) :
  wpAny (model pw w) A (getMethod (.type "tuple") "__new__" pl) Q E s:=by
 unfold getMethod
 refine wpAny_bind ((tp_ga X).here ?_)
 dsimp only
 rw[if_pos canon_tga]
 refine wpAny_bind (cls_open X (i4 X) i3 tp_fi (me X) oR np (wpAny_pure ?_))
 exact handed_on rfl (wpAny_pure h)
theorem jQ{a b c:Value}(G:Gd (KN w.params) tabs hb)(S:St hb tabs L l T s.heap)(hd:A.depth<recursionLimit)
  (k:∀ m dd s',Kp s s'→St hb tabs L l ((m,moO dd [a,b,c])::T) s'.heap→R (.ok (.ret (.ref m))) s') :
  codeAny (model pw w) A (.call (.ref 110) ⟨[.ref 163,a,b,c],[]⟩) R s:=by
 refine cc G S (lk110 _) (by exact hd) (binds:=[(Str.ofString "_cls", .ref 163),(Str.ofString "a", a),(Str.ofString "b", b),(Str.ofString "size", c)]) (body:=ao (st2 pw 4 4)) (BindsTo.of_eq (by kernel_rfl)) ?_
 intro L' h_1 oL r S'
 refine c8 ?_
 refine b7 ?_
 refine aC ?_
 refine ai G S' eJ ?_
 refine ia (S'.kin G) ?_
 refine ag ?_
 refine args_cons ?_
 refine ac S' m0 ?_
 refine args_cons ?_
 refine aX ?_
 refine args_cons ?_
 refine ac S' m1 ?_
 refine args_cons ?_
 refine ac S' m2 ?_
 refine args_cons ?_
 refine ac S' m3 ?_
 refine args_nil ?_
 refine⟨rfl,_,_,_,_,_,S',?_⟩
 intro t h_2 S_2
 refine args_nil ?_
 refine wpAny_call (io G S_2 m0 (by simp) ?_)
 intro m dd h_3 S_3
 have S4:=S_3.sub (T':=(m,moO dd [a,b,c])::(L,oL)::T) (.cons_cons _ (List.sublist_cons_self _ _))
 exact k _ _ _ ⟨rfl,id⟩ (S4.leave 1 rfl r)
theorem kQ (x a b c:Value):argsOk "object.__init__" ⟨[x,a,b,c],[]⟩:=by unfold argsOk;kernel_rfl
theorem o8:recIn (KN w.params) 164 "staticmethod" = some [.ref 110]:=by kernel_rfl
theorem n5{a b c:Value}(G:Gd (KN w.params) tabs hb)(S:St hb tabs L l T s.heap)(hd:A.depth+1<recursionLimit)
  (k:∀ m dd s',Kp s s'→St hb tabs L l ((m,moO dd [a,b,c])::T) s'.heap→R (.ok (.ret (.ref m))) s') :
  codeAny (model pw w) A (.call (.ref 163) ⟨[a,b,c],[]⟩) R s:=by
 have X:=S.kin G
 have hC:s.heap.get? 163=some (oI w.params):=X 163 _ (by kernel_rfl)
 obtain⟨hh,g,d,t,os⟩:=s
 refine codeAny_of_tree ?_
 show wpAny _ _ (callAny (.ref 163) _) _ _ _
 refine nd_load hC ?_
 show wpAny _ _ (callAny.viaDunder (.ref 163) _) _ _ _
 unfold callAny.viaDunder
 refine wpAny_bind ((nA X).at ?_)
 dsimp only
 rw[tc_bind]
 refine wpAny_bind (wpAny_pure (wpAny_bind (wpAny_pure ?_)))
 refine wpAny_pure (a:=Fin.again (.call (.builtin "type.__call__") ⟨.ref 163::[a,b,c],[]⟩)) (And.intro rfl ?_)
 refine codeAny_call_builtin_at (Code.quiet_builtin _ (by decide +kernel)) entry_typeCall (check_slot tc_kind tc_split (qO X) (tc_args _ _ _) ?_)
 unfold Builtin.«type.__call__»
 refine KFB.if_not rfl ?_
 show wpAny _ _ (mroOf (.ref 163) >>= _) _ _ _
 refine wpAny_bind ((qQ X).at ?_)
 refine KFB.if_not rfl ?_
 show wpAny _ _ (Bind.madeBy (.ref 163) >>= _) _ _ _
 refine wpAny_bind ((jK X).at ?_)
 show wpAny _ _ (getAttr (.ref 163) "__new__" >>= _) _ _ _
 refine wpAny_bind (cls_bind X lR qP (wpAny_call (sm_get X o8 ?_)))
 refine handed_on rfl ?_
 show wpAny _ _ (holding [Value.ref 110] (call (.ref 110) [.ref 163,a,b,c]) >>= _) _ _ _
 refine wpAny_bind (wpAny_holding (wpAny_call ?_))
 refine jQ G (by exact S) ?_ ?_
 ·show A.depth+_<_
  exact Nat.lt_of_le_of_lt (Nat.add_le_add_left (Nat.le_of_ble_eq_true (by kernel_rfl)) _) hd
 intro m dd s' hKp S'
 have X':=S'.kin G
 have t1:Looks (model pw w) s'.heap (typeOf (.ref m)) (.ref 163):=(Looks.ld (S'.obj _ m0)).andThen .now
 have t3:Looks (model pw w) s'.heap (isInstance (.ref m) (.ref 163)) true:=t1.andThen (nj X')
 have t2:Looks (model pw w) s'.heap (isInstance (.ref m) (.type "object")) true:=t1.andThen (ni X')
 have k':=k m dd s' ⟨hKp.os,hKp.gens⟩ S'
 obtain⟨hh',g',d',t',os'⟩:=s'
 have i1:=jN (M:=model pw w) X'
 have md:=jK (M:=model pw w) X'
 have b1:Looks (model pw w) hh' (bindSpecial (.builtin "object.__init__") (.ref m)) (.builtin "object.__init__", [.ref m]):=Looks.of_pure (oi_bind _)
 refine wpAny_bind (t3.at ?_)
 refine KFB.if_not rfl ?_
 refine wpAny_bind (wpAny_holding ?_)
 unfold callSpecial? specialOf
 repeat (first | with_reducible refine wpAny_call ?_ | lk)
 refine codeAny_call_builtin oi_plain entry_oi (@check_slot (model pw w) _ _ _ "object.__init__" "object" "__init__" (.ref m) [a,b,c] [] _ oi_kind oi_split t2 (kQ _ _ _ _) ?_)
 unfold Builtin.«object.__init__»
 show wpAny _ _ (if (![a,b,c].isEmpty || !([]:List (Str×Value)).isEmpty)=true then _ else _) _ _ _
 refine KFB.if_so rfl ?_
 show wpAny _ _ (typeOf (.ref m) >>= _) _ _ _
 refine wpAny_bind (t1.at ?_)
 refine wpAny_bind (i1.at ?_)
 show wpAny _ _ (Bind.madeBy (.ref 163) >>= _) _ _ _
 refine wpAny_bind (md.at ?_)
 refine KFB.if_not (by kernel_rfl) ?_
 refine KFB.if_not (by kernel_rfl) ?_
 refine wpAny_pure ?_
 refine wpAny_pure ?_
 refine KFB.if_not (by kernel_rfl) ?_
 exact wpAny_pure k'
end
end
section
def dE(la lb:List Str)(i j:Nat):Bool:=match la[i]?,lb[j]? with
 | some c,some d=>decide (c=d)
 | _,_=>false
theorem dL{la lb:List Str}{i j:Nat}:dE la lb i j=true↔∃ c,la[i]? = some c∧lb[j]? = some c:=by
 unfold dE
 split
 ·rename_i c d e1 e2
  rw[decide_eq_true_eq]
  constructor
  ·rintro rfl;exact⟨c,e1,e2⟩
  ·rintro⟨k,h1,h2⟩;rw[e1] at h1;rw[e2] at h2;exact (Option.some.inj h1).trans (Option.some.inj h2).symm
 ·rename_i h
  constructor
  ·intro q;cases q
  ·rintro⟨c,h1,h2⟩;exact absurd h2 (h c c h1)
def sfx(la lb:List Str)(alo blo:Nat):Nat→Nat→Nat
 | 0,j=>if dE la lb 0 j then 1 else 0
 | i+1,j=>if dE la lb (i+1) j then (if alo<i+1∧blo<j then sfx la lb alo blo i (j - 1) else 0)+1 else 0
def pv(la lb:List Str)(alo blo i j:Nat):Nat:=if alo<i∧blo<j then sfx la lb alo blo (i - 1) (j - 1) else 0
section
variable{la lb:List Str}{alo ahi blo bhi:Nat}
theorem jj(i j:Nat):sfx la lb alo blo i j=if dE la lb i j then pv la lb alo blo i j+1 else 0:=by
 cases i with
 | zero=>rw[sfx,pv];simp
 | succ i=>rw[sfx,pv];simp
theorem gz{i j:Nat}(h:dE la lb i j=true):sfx la lb alo blo i j=pv la lb alo blo i j+1:=by rw[jj,if_pos h]
theorem g4{i j:Nat}(h:dE la lb i j=false):sfx la lb alo blo i j=0:=by rw[jj,h];rfl
theorem lI(i j:Nat):sfx la lb alo blo i j≤i+1 - alo∨i<alo:=by
 induction i generalizing j with
 | zero =>
  rw[sfx]
  by_cases h:alo=0
  ·subst h;left;split<;> lia
  ·right;exact z6o h
 | succ i ih =>
  rw[sfx]
  split
  ·split
   ·rename_i h
    rcases ih (j - 1) with q | q
    ·left;exact zc1 h.1 q
    ·left;exact zc5 h.1 q
   ·by_cases q:i+1<alo
    ·right;exact q
    ·left;exact zc9 q
  ·left;exact zcb
theorem ji(i j:Nat):sfx la lb alo blo i j≤j+1 - blo∨j<blo:=by
 induction i generalizing j with
 | zero =>
  rw[sfx]
  by_cases h:j<blo
  ·right;exact h
  ·left;split<;> lia
 | succ i ih =>
  rw[sfx]
  by_cases q:j<blo
  ·right;exact q
  ·left
   split
   ·split
    ·rename_i h
     rcases ih (j - 1) with q | q<;> lia
    ·exact zcg q
   ·exact zbw
theorem jh:∀ (i j t:Nat),t<sfx la lb alo blo i j→t≤i∧t≤j∧dE la lb (i - t) (j - t)=true
 | 0,j,t,h=>by
  rw[sfx] at h
  split at h
  ·rename_i q
   have:t=0:=by exact zbp h
   subst this;exact⟨Nat.le_refl _,Nat.zero_le _,q⟩
  ·exact zbr h
 | i+1,j,t,h=>by
  rw[sfx] at h
  split at h
  ·rename_i q
   cases t with
   | zero=>exact⟨Nat.zero_le _,Nat.zero_le _,q⟩
   | succ t =>
    split at h
    ·rename_i q2
     have ih:=jh i (j - 1) t (by exact z8h h)
     refine⟨by exact z6y ih.1,by exact zc4 q2.2 ih.2.1,?_⟩
     have e1:i+1 - (t+1)=i - t:=by exact zc7
     have e2:j - (t+1)=j - 1 - t:=by exact zc8
     rw[e1,e2];exact ih.2.2
    ·exact zcc h
  ·exact zce h
theorem g5:∀ (i j:Nat),0<sfx la lb alo blo i j→alo+sfx la lb alo blo i j≤i→blo+sfx la lb alo blo i j≤j→dE la lb (i - sfx la lb alo blo i j) (j - sfx la lb alo blo i j)=false
 | 0,j,h,h1,h2=>by exact zbt h h1
 | i+1,j,h,h1,h2=>by
  rw[sfx] at h h1 h2 ⊢
  split
  ·rename_i q
   simp only[q,if_true] at h h1 h2
   split
   ·rename_i q2
    rw[if_pos q2] at h1 h2
    by_cases hz:sfx la lb alo blo i (j - 1)=0
    ·rw[hz,Nat.zero_add]
     rw[jj] at hz
     split at hz
     ·exact zc0 hz
     ·rename_i q3
      simpa using q3
    ·have ih:=g5 i (j - 1) (by exact z6o hz) (by exact zc2 h1) (by exact zc3 h2)
     have e1:i+1 - (sfx la lb alo blo i (j - 1)+1)=i - sfx la lb alo blo i (j - 1):=by exact zc7
     have e2:j - (sfx la lb alo blo i (j - 1)+1)=j - 1 - sfx la lb alo blo i (j - 1):=by exact zc8
     rw[e1,e2];exact ih
   ·rename_i q2
    rw[if_neg q2] at h1 h2
    exact absurd ⟨by exact h1,by exact h2⟩ q2
  ·rename_i q
   simp only[q] at h
   simp at h
end
def stp(la lb:List Str)(alo blo i:Nat)(st:Nat×Nat×Nat)(j:Nat):Nat×Nat×Nat :=
 if st.2.2<sfx la lb alo blo i j then (i+1 - sfx la lb alo blo i j,j+1 - sfx la lb alo blo i j,sfx la lb alo blo i j) else st
def oO(lb:List Str)(blo bhi:Nat)(c:Str):List Nat:=(bd lb c).filter fun j=>decide (blo≤j) && decide (j<bhi)
def dz(la lb:List Str)(blo bhi i:Nat):List Nat:=match la[i]? with
 | some c=>oO lb blo bhi c
 | none=>[]
def lK(la lb:List Str)(alo blo bhi:Nat)(st:Nat×Nat×Nat)(i:Nat):Nat×Nat×Nat:=(dz la lb blo bhi i).foldl (stp la lb alo blo i) st
def flm(la lb:List Str)(alo ahi blo bhi:Nat):Nat×Nat×Nat:=(List.range' alo (ahi - alo)).foldl (lK la lb alo blo bhi) (alo,blo,0)
theorem cU{la lb:List Str}{blo bhi i j:Nat}:j∈dz la lb blo bhi i↔dE la lb i j=true∧blo≤j∧j<bhi:=by
 unfold dz
 split
 ·rename_i c e
  unfold oO bd
  rw[List.mem_filter,List.mem_filter,List.mem_range,dL]
  simp only[decide_eq_true_eq,Bool.and_eq_true]
  constructor
  ·rintro⟨⟨a,b⟩,c',d⟩;exact⟨⟨c,e,b⟩,c',d⟩
  ·rintro⟨⟨k,a,b⟩,c',d⟩
   rw[e] at a;cases a
   exact⟨⟨(List.getElem?_eq_some_iff.mp b).1,b⟩,c',d⟩
 ·rename_i e
  rw[dL]
  constructor
  ·intro h;cases h
  ·rintro⟨⟨c,a,b⟩,-⟩;rw[e] at a;cases a
def fmx{α:Type}(f:α→Nat)(cs:List α)(st:Option α×Nat):Option α×Nat:=cs.foldl (fun st c=>if st.2<f c then (some c,f c) else st) st
def FmI{α:Type}(f:α→Nat)(done:List α)(st:Option α×Nat):Prop :=
 (∀ c∈done,f c≤st.2)∧(match st.1 with | none=>st.2=0 | some c=>f c=st.2∧0<st.2∧Ex2 fun pre post=>done=pre++c::post∧∀ d∈pre,f d<st.2)
theorem jZ{α:Type}(f:α→Nat):∀ (cs done:List α) (st:Option α×Nat),FmI f done st→FmI f (done++cs) (fmx f cs st)
 | [],done,st,h=>by rw[List.append_nil];exact h
 | c::cs,done,st,h=>by
  have e:done++c::cs=(done++[c])++cs:=by simp
  rw[e]
  refine jZ f cs (done++[c]) _ ?_
  by_cases q:st.2<f c
  ·simp only[if_pos q]
   refine⟨fun d hd=>?_,rfl,by show 0<f c;exact zbs q,done,[],rfl,fun d hd=>by have:=h.1 d hd;show f d<f c;exact zbx q this⟩
   rcases List.mem_append.mp hd with z | z
   ·have:=h.1 d z;show f d≤f c;exact zby q this
   ·rw[List.mem_singleton.mp z];exact Nat.le_refl _
  ·simp only[if_neg q]
   refine⟨fun d hd=>?_,?_⟩
   ·rcases List.mem_append.mp hd with z | z
    ·exact h.1 d z
    ·rw[List.mem_singleton.mp z];exact z0c q
   ·have h2:=h.2
    cases hs:st.1 with
    | none=>rw[hs] at h2;exact h2
    | some b =>
     rw[hs] at h2
     obtain⟨a,a',pre,post,hd,hp⟩:=h2
     exact⟨a,a',pre,post++[c],by rw[hd];simp,hp⟩
def cells(la lb:List Str)(alo ahi blo bhi:Nat):List (Nat×Nat):=(List.range' alo (ahi - alo)).flatMap fun i=>(dz la lb blo bhi i).map fun j=>(i,j)
theorem fY{la lb:List Str}{alo ahi blo bhi i j:Nat}:(i,j)∈cells la lb alo ahi blo bhi↔(alo≤i∧i<ahi)∧dE la lb i j=true∧blo≤j∧j<bhi:=by
 unfold cells
 rw[List.mem_flatMap]
 constructor
 ·rintro⟨i',h1,h2⟩
  obtain⟨j',h3,e⟩:=List.mem_map.mp h2
  cases e
  rw[List.mem_range'_1] at h1
  exact⟨⟨h1.1,by exact zbv h1.1 h1.2⟩,cU.mp h3⟩
 ·rintro⟨⟨a,b⟩,c⟩
  exact⟨i,List.mem_range'_1.mpr ⟨a,by exact zbz b⟩,List.mem_map.mpr ⟨j,cU.mpr c,rfl⟩⟩
def blk(la lb:List Str)(alo blo:Nat)(o:Option (Nat×Nat)×Nat):Nat×Nat×Nat:=match o.1 with
 | none=>(alo,blo,o.2)
 | some (i,j)=>(i+1 - o.2,j+1 - o.2,o.2)
theorem ib(la lb:List Str)(alo blo bhi:Nat):∀ (is:List Nat) (o:Option (Nat×Nat)×Nat),
  is.foldl (lK la lb alo blo bhi) (blk la lb alo blo o)=blk la lb alo blo (fmx (fun c=>sfx la lb alo blo c.1 c.2) (is.flatMap fun i=>(dz la lb blo bhi i).map fun j=>(i,j)) o)
 | [],o=>rfl
 | i::is,o=>by
  rw[List.foldl_cons,List.flatMap_cons]
  unfold fmx
  rw[List.foldl_append]
  have row:∀ (js:List Nat) (o:Option (Nat×Nat)×Nat),js.foldl (stp la lb alo blo i) (blk la lb alo blo o)=blk la lb alo blo ((js.map fun j=>(i,j)).foldl (fun st c=>if st.2<sfx la lb alo blo c.1 c.2 then (some c,sfx la lb alo blo c.1 c.2) else st) o):=by
   intro js
   induction js with
   | nil=>intro o;rfl
   | cons j js ih =>
    intro o
    rw[List.foldl_cons,List.map_cons,List.foldl_cons,← ih]
    congr 1
    have e2:(blk la lb alo blo o).2.2=o.2:=by unfold blk;split<;> rfl
    unfold stp
    rw[e2]
    by_cases q:o.2<sfx la lb alo blo i j
    ·rw[if_pos q,if_pos q];rfl
    ·rw[if_neg q,if_neg q]
  rw[show lK la lb alo blo bhi (blk la lb alo blo o) i=(dz la lb blo bhi i).foldl (stp la lb alo blo i) (blk la lb alo blo o) from rfl,row]
  exact ib la lb alo blo bhi is _
structure Best(la lb:List Str)(alo ahi blo bhi:Nat)(b:Nat×Nat×Nat):Prop where
 lo:alo≤b.1∧blo≤b.2.1
 hi:b.1+b.2.2≤max alo ahi∧b.2.1+b.2.2≤max blo bhi
 run:∀ t,t<b.2.2→dE la lb (b.1+t) (b.2.1+t)=true
 left:alo<b.1→blo<b.2.1→dE la lb (b.1 - 1) (b.2.1 - 1)=false
 right:b.1+b.2.2<ahi→b.2.1+b.2.2<bhi→dE la lb (b.1+b.2.2) (b.2.1+b.2.2)=false
 most:∀ i j,alo≤i→i<ahi→blo≤j→j<bhi→sfx la lb alo blo i j≤b.2.2
 none:b.2.2=0→b=(alo,blo,0)
theorem nS(la lb:List Str)(alo ahi blo bhi:Nat):flm la lb alo ahi blo bhi=blk la lb alo blo (fmx (fun c=>sfx la lb alo blo c.1 c.2) (cells la lb alo ahi blo bhi) (none,0)) :=
 ib la lb alo blo bhi _ (none,0)
theorem bW(la lb:List Str)(alo ahi blo bhi:Nat):Best la lb alo ahi blo bhi (flm la lb alo ahi blo bhi):=by
 rw[nS]
 have inv:=jZ (fun c:Nat×Nat=>sfx la lb alo blo c.1 c.2) (cells la lb alo ahi blo bhi) [] (none,0) ⟨nofun,rfl⟩
 rw[List.nil_append] at inv
 generalize fmx (fun c:Nat×Nat=>sfx la lb alo blo c.1 c.2) (cells la lb alo ahi blo bhi) (none,0)=o at inv
 obtain⟨o,k⟩:=o
 have most:∀ i j,alo≤i→i<ahi→blo≤j→j<bhi→sfx la lb alo blo i j≤k:=by
  intro i j h1 h2 h3 h4
  cases q:dE la lb i j with
  | true=>exact inv.1 (i,j) (fY.mpr ⟨⟨h1,h2⟩,q,h3,h4⟩)
  | false=>rw[g4 q];exact Nat.zero_le _
 have h2:=inv.2
 cases o with
 | none =>
  replace h2:k=0:=h2
  subst h2
  refine⟨⟨Nat.le_refl _,Nat.le_refl _⟩,⟨Nat.le_max_left ..,Nat.le_max_left ..⟩,fun t ht=>absurd ht (Nat.not_lt_zero _),fun h=>absurd h (Nat.lt_irrefl _),fun h1 h2=>?_,most,fun _=>rfl⟩
  show dE la lb (alo+0) (blo+0)=false
  replace h1:alo+0<ahi:=h1
  replace h2:blo+0<bhi:=h2
  cases q:dE la lb (alo+0) (blo+0) with
  | false=>rfl
  | true =>
   have:=most (alo+0) (blo+0) (by exact zcj) h1 (by exact zcj) h2
   rw[gz q] at this
   exact zck this
 | some c =>
  obtain⟨i,j⟩:=c
  obtain⟨hf,hk,pre,post,hc,hp⟩:=h2
  replace hf:sfx la lb alo blo i j=k:=hf
  replace hk:0<k:=hk
  have hm:(i,j)∈cells la lb alo ahi blo bhi:=by rw[hc];exact List.mem_append_right _ (.head _)
  obtain⟨⟨h1,h2⟩,hq,h3,h4⟩:=fY.mp hm
  have l1:k≤i+1 - alo:=by rcases lI (la:=la) (lb:=lb) (alo:=alo) (blo:=blo) i j with q | q<;> lia
  have l2:k≤j+1 - blo:=by rcases ji (la:=la) (lb:=lb) (alo:=alo) (blo:=blo) i j with q | q<;> lia
  refine⟨⟨?_,?_⟩,⟨?_,?_⟩,fun t ht=>?_,fun h5 h6=>?_,fun h5 h6=>?_,most,fun h=>?_⟩
  ·show alo≤i+1 - k;exact zct hk l1
  ·show blo≤j+1 - k;exact zct hk l2
  ·show i+1 - k+k≤_;exact zcu h2 l1
  ·show j+1 - k+k≤_;exact zcu h4 l2
  ·replace ht:t<k:=ht
   have:=jh (la:=la) (lb:=lb) (alo:=alo) (blo:=blo) i j (k - 1 - t) (by exact zcv hf hk)
   show dE la lb (i+1 - k+t) (j+1 - k+t)=true
   rw[show i+1 - k+t=i - (k - 1 - t) by exact zcw l1 ht,show j+1 - k+t=j - (k - 1 - t) by exact zcw l2 ht]
   exact this.2.2
  ·replace h5:alo<i+1 - k:=h5
   replace h6:blo<j+1 - k:=h6
   have:=g5 (la:=la) (lb:=lb) (alo:=alo) (blo:=blo) i j (by exact zcx hf hk) (by exact zcy hf h5) (by exact zcy hf h6)
   show dE la lb (i+1 - k - 1) (j+1 - k - 1)=false
   rw[hf] at this
   rw[show i+1 - k - 1=i - k by exact zcz,show j+1 - k - 1=j - k by exact zcz]
   exact this
  ·replace h5:i+1 - k+k<ahi:=h5
   replace h6:j+1 - k+k<bhi:=h6
   show dE la lb (i+1 - k+k) (j+1 - k+k)=false
   rw[show i+1 - k+k=i+1 by exact zd0 l1,show j+1 - k+k=j+1 by exact zd0 l2]
   cases q:dE la lb (i+1) (j+1) with
   | false=>rfl
   | true =>
    have:=most (i+1) (j+1) (by exact z78 h1) (by exact zd1 h5) (by exact z78 h3) (by exact zd1 h6)
    rw[gz q,pv,if_pos ⟨by exact zd2 h1,by exact zd2 h3⟩,Nat.add_sub_cancel,Nat.add_sub_cancel,hf] at this
    exact zd3 this
  ·replace h:k=0:=h
   lia
def Dj(la lb:List Str)(alo blo i:Nat)(done:List Nat)(kvs:List (Int×Value)):Prop :=
 (∀ j∈done,∃ t,valueAt kvs (j:Int)=some (.int (sfx la lb alo blo i j:Nat) t))∧∀ z:Int,(∀ j∈done,z≠(j:Int))→valueAt kvs z=none
theorem Dj.nil{la lb:List Str}{alo blo i:Nat}:Dj la lb alo blo i [] []:=⟨nofun,fun z _=>rfl⟩
theorem Dj.snoc{la lb:List Str}{alo blo i j:Nat}{done:List Nat}{kvs:List (Int×Value)}{t:Tok}(h:Dj la lb alo blo i done kvs):Dj la lb alo blo i (done++[j]) (stored kvs (j:Int) (.int (sfx la lb alo blo i j:Nat) t)):=by
 refine⟨fun j' hj=>?_,fun z hz=>?_⟩
 ·rw[bn]
  by_cases e:(j:Int)=(j':Int)
  ·rw[if_pos e]
   have:j=j':=by exact zch e
   subst this
   exact⟨t,rfl⟩
  ·rw[if_neg e]
   rcases List.mem_append.mp hj with q | q
   ·exact h.1 j' q
   ·exact absurd (by rw[List.mem_singleton.mp q]) e
 ·rw[bn]
  rw[if_neg (fun e=>hz j (List.mem_append_right _ (.head _)) e.symm)]
  exact h.2 z fun j' hj'=>hz j' (List.mem_append_left _ hj')
def Pj(la lb:List Str)(alo blo bhi i:Nat)(kvs:List (Int×Value)):Prop:=(i=alo∧kvs=[])∨(alo<i∧Dj la lb alo blo (i - 1) (dz la lb blo bhi (i - 1)) kvs)
theorem Pj.get{la lb:List Str}{alo blo bhi i j:Nat}{kvs:List (Int×Value)}(h:Pj la lb alo blo bhi i kvs)(hj:blo≤j)(hj2:j<bhi){u:Tok}(P:Value→Prop)(k:∀ t,P (.int (pv la lb alo blo i j:Nat) t)):P ((valueAt kvs ((j:Int) - 1)).getD (.int 0 u)):=by
 have hz:pv la lb alo blo i j=0→valueAt kvs ((j:Int) - 1)=none→P ((valueAt kvs ((j:Int) - 1)).getD (.int 0 u)):=fun h1 h2=>by
  rw[h2]
  have:=k u
  rw[h1] at this;exact this
 rcases h with⟨rfl,rfl⟩ | ⟨hi,hd⟩
 ·exact hz (if_neg (by exact zci)) rfl
 ·by_cases q:blo<j
  ·have epv:pv la lb alo blo i j=sfx la lb alo blo (i - 1) (j - 1):=if_pos ⟨hi,q⟩
   have ej:((j:Int) - 1)=((j - 1:Nat):Int):=by exact zcm q
   by_cases hm:j - 1∈dz la lb blo bhi (i - 1)
   ·obtain⟨t,e⟩:=hd.1 _ hm
    rw[ej,e]
    have:=k t
    rw[epv] at this;exact this
   ·refine hz ?_ (hd.2 _ fun j' hj' e=>hm (by rw[ej] at e;rw[show j - 1=j' by exact zcn e];exact hj'))
    rw[epv]
    refine g4 ?_
    cases q2:dE la lb (i - 1) (j - 1) with
    | false=>rfl
    | true=>exact absurd (cU.mpr ⟨q2,by exact zcp q,by exact zcq hj2⟩) hm
  ·refine hz (if_neg (by exact zcr q)) (hd.2 _ fun j' hj' e=>?_)
   have:=(cU.mp hj').2.1
   exact zcs q e this
theorem eY(lb:List Str)(c:Str):(bd lb c).Pairwise (· < ·):=List.Pairwise.filter _ List.pairwise_lt_range
theorem gM{l:List Nat}{t j blo bhi:Nat}(h:l.Pairwise (· < ·))(hj:l[t]? = some j)(hb:bhi≤j):(l.take t).filter (fun j=>decide (blo≤j) && decide (j<bhi))=l.filter fun j=>decide (blo≤j) && decide (j<bhi):=by
 conv=>rhs;rw[← List.take_append_drop t l]
 rw[List.filter_append]
 have hd:(l.drop t).filter (fun j=>decide (blo≤j) && decide (j<bhi))=[]:=by
  rw[List.filter_eq_nil_iff]
  intro a ha
  have hp:(l.drop t).Pairwise (· < ·):=h.sublist (List.drop_sublist t l)
  have hd0:l.drop t=j::l.drop (t+1):=by
   have hl:=(List.getElem?_eq_some_iff.mp hj)
   rw[List.drop_eq_getElem_cons hl.1,hl.2]
  rw[hd0] at ha hp
  have:j≤a:=by
   rcases List.mem_cons.mp ha with rfl | q
   ·exact Nat.le_refl _
   ·exact Nat.le_of_lt ((List.pairwise_cons.mp hp).1 a q)
  simp
  exact zcl hb this
 rw[hd,List.append_nil]
end
section
theorem lW{prog:Program}{w:World}{k:Int}{u:Tok}:(PySem.intKind prog w).is k (.int k u)=true:=by simp[PySem.intKind,Value.isInt]
theorem jm{lb:List Str}{rows:List aM}{T:List (Addr×Obj)}{c:Str}{nn:Addr}(P:Value→Prop)(hrows:bB lb rows)(hob:∀ r∈rows,r.ob∈T)(hn:(nn,ae [] 0)∈T)
  (k:∀ ℓ vs n,(ℓ,ae vs n)∈T→bh vs (bd lb c)→P (.ref ℓ)):P ((valueAt (rows.map aM.kv) c).getD (.ref nn)):=by
 cases h:valueAt (rows.map aM.kv) c with
 | none =>
  have:bd lb c=[]:=cB.mpr fun q=>bL h (hrows.all c q)
  exact k nn [] 0 hn (by rw[this];exact .nil)
 | some v =>
  obtain⟨j,r,hj,rfl,rfl⟩:=bK h
  have hm:=List.mem_of_getElem? hj
  exact k r.a r.vs r.n (hob r hm) (hrows.at_ r hm)
def d5:Stmt→List Stmt
 | .For _ _ b _ _=>b
 | _=>[]
abbrev cI(w:World)(L':Addr):Env:=callEnv (ry w.params) L' 224
abbrev nmF(nn dj u d2:Addr)(va vb:Value)(x:Addr)(alo ahi blo bhi:Nat)(ta tb tc td:Tok)(st:Nat×Nat×Nat)(t1 t2 t3:Tok):List (Str×Value) :=
 [(Str.ofString "nothing", .ref nn),(Str.ofString "j2len", .ref dj),(Str.ofString "besti", .int st.1 t1),(Str.ofString "bestj", .int st.2.1 t2),(Str.ofString "bestsize", .int st.2.2 t3),(Str.ofString "isbjunk", .ref u),(Str.ofString "b2j", .ref d2),
  (Str.ofString "b", vb),(Str.ofString "a", va),(Str.ofString "self", .ref x),(Str.ofString "alo", .int alo ta),(Str.ofString "ahi", .int ahi tb),(Str.ofString "blo", .int blo tc),(Str.ofString "bhi", .int bhi td)]
abbrev nmI (dn ug:Addr) (i:Nat) (ti:Tok) (l:List (Str×Value)):List (Str×Value):=(Str.ofString "newj2len", .ref dn)::(Str.ofString "j2lenget", .ref ug)::(Str.ofString "i", .int i ti)::l
abbrev fW:List Stmt:=d5 (((ao (st2 pw 6 6))[7]?).getD default)
abbrev lX:List Stmt:=d5 ((fW[2]?).getD default)
section
variable{w:World}{A:Around}{E:VP}{s:Shared}{hb:Heap}{L' x nn dj u d2 dn ug:Addr}{T:List (Addr×Obj)}{on oj:Obj}{va vb:Value}{la lb:List Str}{alo ahi blo bhi i j:Nat}{ta tb tc td ti tj t1 t2 t3:Tok}{st:Nat×Nat×Nat}{kvn kvj:List (Int×Value)}{Q:FP}
theorem lv(G:Gd (KN w.params) tabs hb)(hh:A.handled=none)
  (S:St hb tabs L' ((Str.ofString "j", .int j tj)::nmI dn ug i ti (nmF nn dj u d2 va vb x alo ahi blo bhi ta tb tc td st t1 t2 t3)) ((dn,on)::T) s.heap) (hug:(ug,bmO "dict.get" dj)∈T) (hdj:(dj,oj)∈T)
  (hon:on.IsDictOf (PySem.intKind pw w) kvn) (hoj:oj.IsDictOf (PySem.intKind pw w) kvj) (hpj:Pj la lb alo blo bhi i kvj) (hq:dE la lb i j=true) (hlen:kvn.length≤1000) (hi:alo≤i)
  (hc:j<blo→∀ s',Kp s s'→St hb tabs L' (nmI dn ug i ti (nmF nn dj u d2 va vb x alo ahi blo bhi ta tb tc td st t1 t2 t3)) ((dn,on)::T) s'.heap→Q .cont s')
  (hk:bhi≤j→∀ s',Kp s s'→St hb tabs L' (nmI dn ug i ti (nmF nn dj u d2 va vb x alo ahi blo bhi ta tb tc td st t1 t2 t3)) ((dn,on)::T) s'.heap→Q .brk s')
  (hn:blo≤j→j<bhi→∀ s' on' t1 t2 t3 tk,Kp s s'→St hb tabs L' (nmI dn ug i ti (nmF nn dj u d2 va vb x alo ahi blo bhi ta tb tc td (stp la lb alo blo i st j) t1 t2 t3)) ((dn,on')::T) s'.heap →
   on'.IsDictOf (PySem.intKind pw w) (stored kvn (j:Int) (.int (sfx la lb alo blo i j:Nat) tk))→Q .next s') :
  wpAny (model pw w) (A.deeper (cI w L')) (execs lX (cI w L')) Q E s:=by
 refine cP ?_
 refine wpAny_isTrue_Compare1 ?_
 refine ac S m0 ?_
 refine ac S (.tail _ (.tail _ (.tail _ (.tail _ (.tail _ (.tail _ (.tail _ m9))))))) ?_
 refine lt_int ?_
 refine wpAny_truthy_bool ⟨fun hb'=>?_,fun hb'=>?_⟩
 ·refine iG ?_
  have hlt:=of_decide_eq_true hb'
  exact hc (by exact z74 hb') _ ⟨rfl,id⟩ (S.forget (List.sublist_cons_self _ _))
 have h1:=of_decide_eq_false hb'
 refine ax ?_
 refine cP ?_
 refine wpAny_isTrue_Compare1 ?_
 refine ac S m0 ?_
 refine ac S (.tail _ (.tail _ (.tail _ (.tail _ (.tail _ (.tail _ (.tail _ (.tail _ m9)))))))) ?_
 refine ge_int ?_
 refine wpAny_truthy_bool ⟨fun hb'=>?_,fun hb'=>?_⟩
 ·refine mM ?_
  have hlt:=of_decide_eq_true hb'
  exact hk (by exact z7c hb') _ ⟨rfl,id⟩ (S.forget (List.sublist_cons_self _ _))
 have h2:=of_decide_eq_false hb'
 refine ax ?_
 have es:(sfx la lb alo blo i j:Int)=(pv la lb alo blo i j:Nat)+1:=by rw[gz hq];rfl
 refine eW ?_
 refine wpAny_BinOp ?_
 refine ap ?_
 refine ac S m2 ?_
 refine cz (id := "dict.get") (d:=dj) ?_
 refine args_cons ?_
 refine wpAny_BinOp ?_
 refine ac S m0 ?_
 refine wpAny_Constant_int ?_
 refine sub_int ?_
 refine args_cons ?_
 refine wpAny_Constant_int ?_
 refine args_nil ?_
 refine⟨S.obj _ (.tail _ hug),?_⟩
 refine n6 G S (.tail _ hug) (.tail _ hdj) hoj (k:=(j:Int) - 1) lW ?_
 refine hpj.get (by lia) (by lia) (fun v=>wpAny _ _ (eval _ _) (fun w s'=>wpAny _ _ (binaryOp _ v w) _ _ s') _ _) fun tp=>?_
 refine wpAny_Constant_int ?_
 refine add_int ?_
 rw[← es]
 refine aT ?_
 refine af S (.new (by kernel_rfl)) ?_
 intro h_2 S_2
 refine rH ?_
 refine ac S_2 m2 ?_
 refine ac S_2 m1 ?_
 refine dT 0 S_2 rfl hon (k:=(j:Int)) lW ?_ hlen
 intro h_3 on' S_3 hon'
 refine az (by exact S_3) fun s4 K4 S4=>?_
 replace K4:Kp s s4:=⟨K4.os,K4.gens⟩
 refine cP ?_
 refine wpAny_isTrue_Compare1 ?_
 refine ac S4 m0 ?_
 refine ac S4 m9 ?_
 refine gt_int ?_
 refine wpAny_truthy_bool ⟨fun hb'=>?_,fun hb'=>?_⟩
 ·have hlt:=of_decide_eq_true hb'
  have est:stp la lb alo blo i st j=(i+1 - sfx la lb alo blo i j,j+1 - sfx la lb alo blo i j,sfx la lb alo blo i j):=if_pos (by exact z74 hb')
  have l1:sfx la lb alo blo i j≤i+1 - alo:=by rcases lI (la:=la) (lb:=lb) (alo:=alo) (blo:=blo) i j with q | q<;> lia
  have l2:sfx la lb alo blo i j≤j+1 - blo:=by rcases ji (la:=la) (lb:=lb) (alo:=alo) (blo:=blo) i j with q | q<;> lia
  refine dY [Str.ofString "besti", Str.ofString "bestj", Str.ofString "bestsize"] ?_
  refine args_cons ?_
  refine wpAny_BinOp ?_
  refine wpAny_BinOp ?_
  refine ac S4 m4 ?_
  refine ac S4 m0 ?_
  refine sub_int ?_
  refine wpAny_Constant_int ?_
  refine add_int ?_
  refine args_cons ?_
  refine wpAny_BinOp ?_
  refine wpAny_BinOp ?_
  refine ac S4 m1 ?_
  refine ac S4 m0 ?_
  refine sub_int ?_
  refine wpAny_Constant_int ?_
  refine add_int ?_
  refine args_cons ?_
  refine ac S4 m0 ?_
  refine args_nil ?_
  refine⟨rfl,rfl,hh,_,_,_,_,_,S4,?_⟩
  intro h_5 S5
  refine aU ?_
  refine af S5 (.old (.there (.there (.there (.there (.there (.there (.there (.there (.there .here)))))))))) ?_
  intro h_6 S6
  refine aU ?_
  refine af S6 (.old (.there (.there (.there (.there (.there (.there (.there (.there .here))))))))) ?_
  intro h_7 S7
  refine aU ?_
  refine af S7 (.old (.there (.there (.there (.there (.there (.there (.there .here)))))))) ?_
  intro h_8 S8
  refine eg ?_
  refine ax ?_
  refine ax ?_
  have e1:((i:Int) - (sfx la lb alo blo i j:Nat)+1)=((stp la lb alo blo i st j).1:Nat):=by rw[est];show _=((i+1 - sfx la lb alo blo i j:Nat):Int);exact z7j l1
  have e2:((j:Int) - (sfx la lb alo blo i j:Nat)+1)=((stp la lb alo blo i st j).2.1:Nat):=by rw[est];show _=((j+1 - sfx la lb alo blo i j:Nat):Int);exact z7j l2
  have e3:((sfx la lb alo blo i j:Nat):Int)=((stp la lb alo blo i st j).2.2:Nat):=by rw[est]
  have S9:=S8.forget (List.Sublist.cons _ (List.sublist_cons_self _ _))
  rw[e1,e2,e3] at S9
  exact hn (by lia) (by lia) _ _ _ _ _ _ ⟨K4.os,K4.gens⟩ S9 hon'
 ·have hlt:=of_decide_eq_false hb'
  have est:stp la lb alo blo i st j=st:=if_neg (by exact z7k hb')
  refine ax ?_
  refine ax ?_
  have S9:=S4.forget (List.Sublist.cons _ (List.sublist_cons_self _ _))
  rw[← est] at S9
  exact hn (by lia) (by lia) _ _ _ _ _ _ K4 S9 hon'
theorem j0(G:Gd (KN w.params) tabs hb)(hh:A.handled=none)
  (S:St hb tabs L' (nmI dn ug i ti (nmF nn dj u d2 va vb x alo ahi blo bhi ta tb tc td st t1 t2 t3)) ((dn,dict0)::T) s.heap) (hug:(ug,bmO "dict.get" dj)∈T) (hdj:(dj,oj)∈T)
  (hoj:oj.IsDictOf (PySem.intKind pw w) kvj) (hpj:Pj la lb alo blo bhi i kvj) {c:Str} (hc:la[i]? = some c) (hi:alo≤i) (hlb:lb.length≤100)
  {ℓ:Addr}{vs:List Value}{n:Nat} (hℓ:(ℓ,ae vs n)∈T) (hvs:bh vs (bd lb c))
  (k:∀ s' on' kvn t1 t2 t3,Kp s s'→St hb tabs L' (nmI dn ug i ti (nmF nn dj u d2 va vb x alo ahi blo bhi ta tb tc td (lK la lb alo blo bhi st i) t1 t2 t3)) ((dn,on')::T) s'.heap →
   on'.IsDictOf (PySem.intKind pw w) kvn→Dj la lb alo blo i (dz la lb blo bhi i) kvn→kvn.length≤100→wpAny (model pw w) (A.deeper (cI w L')) (execs (fW.drop 3) (cI w L')) Q E s')
  (E0:VP):wpAny (model pw w) (A.deeper (cI w L')) (pyIter (.ref ℓ)) (fun it s_2 =>
   codeAny (model pw w) (A.deeper (cI w L')) (.forLoop (.Name (Str.ofString "j") ((fun s=>match s with | .For (.Name _ p) _ _ _ _=>p | _=>default) ((fW[2]?).getD default))) it lX [] (cI w L')) (fun r s'=>match r with
    | .ok .next=>wpAny (model pw w) (A.deeper (cI w L')) (execs (fW.drop 3) (cI w L')) Q E s'
    | .ok f=>Q f s'
    | .error e=>cameBackBy (model pw w) (A.deeper (cI w L')) (cI w L') E e s') s_2) E0 s:=by
 have hrow:dz la lb blo bhi i=oO lb blo bhi c:=by unfold dz;rw[hc]
 refine mH S (.tail _ hℓ) ?_
 intro I o Wt fp h_2 IV hw S_2
 refine dK (own:=[(I,o)]) (Ro:=[(ℓ,ae vs n)]) (IV.walks (A.deeper _) hh) (fun i h hi b hb'=>by rw[List.mem_singleton] at hb';subst hb';exact IV.ex i h hi) rfl IV.ro S_2 hw
  (fun t l₁ T1=>Ex5 fun on' kvn t1 t2 t3=>An5 (l₁=nmI dn ug i ti (nmF nn dj u d2 va vb x alo ahi blo bhi ta tb tc td ((((bd lb c).take t).filter fun j=>decide (blo≤j) && decide (j<bhi)).foldl (stp la lb alo blo i) st) t1 t2 t3)) (T1=(dn,on')::T) (on'.IsDictOf (PySem.intKind pw w) kvn) (Dj la lb alo blo i (((bd lb c).take t).filter fun j=>decide (blo≤j) && decide (j<bhi)) kvn) (kvn.length≤t)) ?_ (fun p hp=>by rw[List.mem_singleton] at hp;subst hp;exact .tail _ hℓ) ?_ ?_
 ·exact⟨dict0,[],t1,t2,t3,rfl,rfl,cy,Dj.nil,Nat.le_refl _⟩
 ·rintro E1 t v l₁ T1 own1 s₁ ht hv ⟨on',kvn,t1',t2',t3',rfl,rfl,hon,hdj',hlen⟩ S_3 hRo hKp
  obtain⟨j,tj,hj,rfl⟩:=hvs.get hv
  have hq:dE la lb i j=true:=by
   have:=List.mem_of_getElem? hj
   unfold bd at this
   rw[List.mem_filter] at this
   exact dL.mpr ⟨c,hc,of_decide_eq_true this.2⟩
  have hpl:=c9 lb c
  have htl:t<(bd lb c).length:=(List.getElem?_eq_some_iff.mp hj).1
  have htk:(bd lb c).take (t+1)=(bd lb c).take t++[j]:=by rw[List.take_add_one,hj];rfl
  refine aT ?_
  refine af S_3 (.new (by kernel_rfl)) ?_
  intro h_4 S4
  refine lv (T:=T++own1) G hh (by exact S4) (List.mem_append_left _ hug) (List.mem_append_left _ hdj) hon hoj hpj hq (by exact z77 hlb hlen hpl htl) hi ?_ ?_ ?_
  ·intro hlt s' K' S'
   refine⟨_,_,S',⟨on',kvn,t1',t2',t3',?_,rfl,hon,?_,by exact z78 hlen⟩,?_,⟨K'.os.trans hKp.os,fun z=>K'.gens (hKp.gens z)⟩⟩
   ·rw[htk,List.filter_append,List.filter_cons,if_neg (by simp;exact z79 hlt),List.filter_nil,List.append_nil]
   ·rw[htk,List.filter_append,List.filter_cons,if_neg (by simp;exact z79 hlt),List.filter_nil,List.append_nil];exact hdj'
   ·exact fun p hp=>by rw[List.mem_singleton] at hp;subst hp;exact .tail _ hℓ
  ·intro hge s' K' S'
   have ef:=gM (blo:=blo) (eY lb c) hj hge
   rw[hvs.len] at ht
   refine k s' on' kvn t1' t2' t3' ⟨K'.os.trans hKp.os,fun z=>K'.gens (hKp.gens z)⟩ ?_ hon ?_ (by exact z7a hlb ht hlen hpl)
   ·unfold lK;rw[hrow];unfold oO;rw[← ef]
    exact S'.sub (.cons_cons _ (List.sublist_append_left _ _))
   ·rw[hrow];unfold oO;rw[← ef];exact hdj'
  ·intro h1 h2 s' on2 t1 t2 t3 tk K' S' hon2
   refine⟨_,_,S',⟨on2,_,t1,t2,t3,?_,rfl,hon2,?_,?_⟩,?_,⟨K'.os.trans hKp.os,fun z=>K'.gens (hKp.gens z)⟩⟩
   ·rw[htk,List.filter_append,List.filter_cons,if_pos (by simp;exact z7b h1 h2),List.filter_nil,List.foldl_append];rfl
   ·rw[htk,List.filter_append,List.filter_cons,if_pos (by simp;exact z7b h1 h2),List.filter_nil];exact hdj'.snoc
   ·exact Nat.le_trans (cZ _ _ _) (by exact z6y hlen)
   ·exact fun p hp=>by rw[List.mem_singleton] at hp;subst hp;exact .tail _ hℓ
 ·rintro s' l' T' hKp S_3 ⟨on',kvn,t1',t2',t3',rfl,rfl,hon,hdj',hlen⟩ hRo
  have hpl:=c9 lb c
  rw[hvs.len] at hlen
  rw[hvs.len,List.take_length] at S_3 hdj'
  refine k s' on' kvn t1' t2' t3' ⟨hKp.os,hKp.gens⟩ ?_ hon ?_ (by exact z7d hlb hlen hpl)
  ·unfold lK;rw[hrow];exact S_3
  ·rw[hrow];exact hdj'
end
end
section
theorem j6{la lb:List Str}{i j:Nat}{c d:Str}(h:dE la lb i j=false)(h1:la[i]? = some c)(h2:lb[j]? = some d):c≠d:=by
 rintro rfl
 rw[dL.mpr ⟨c,h1,h2⟩] at h
 cases h
section
variable{w:World}{A:Around}{E:VP}{s:Shared}{hb:Heap}{L L' x nn dj u d2 sj:Addr}{T:List (Addr×Obj)}{l:List (Str×Value)}{oL o2 oj:Obj}{va vb:Value}{la lb:List Str}{Ra Rb:List (Addr×Obj)}{alo ahi blo bhi:Nat}{ta tb tc td t1 t2 t3:Tok}{st:Nat×Nat×Nat}{led:Bool}{rows:List aM}{R:Result→Shared→Prop}
theorem lw(G:Gd (KN w.params) tabs hb)(hd:A.depth+2<recursionLimit)(S:St hb tabs L' (nmF nn dj u d2 va vb x alo ahi blo bhi ta tb tc td st t1 t2 t3) T s.heap)
  (hsj:(sj,bz led)∈T) (hu:(u,bmO "set.__contains__" sj)∈T) (B:Best la lb alo ahi blo bhi st)
  (Va:SqV pw w hb tabs Ra va la) (Vb:SqV pw w hb tabs Rb vb lb) (hRa:∀ p∈Ra,p∈T) (hRb:∀ p∈Rb,p∈T) (ha1:alo≤ahi) (ha2:ahi≤la.length) (hb1:blo≤bhi) (hb2:bhi≤lb.length) {Q:FP}
  (k:∀ m dd s' t1 t2 t3,Kp s s'→St hb tabs L' (nmF nn dj u d2 va vb x alo ahi blo bhi ta tb tc td st t1 t2 t3) ((m,moO dd [.int st.1 t1,.int st.2.1 t2,.int st.2.2 t3])::T) s'.heap→Q (.ret (.ref m)) s') :
  wpAny (model pw w) (A.deeper (cI w L')) (execs ((ao (st2 pw 6 6)).drop 8) (cI w L')) Q E s:=by
 have hsa:=Va.small
 have hsb:=Vb.small
 have hlo:=B.lo
 have hhi:=B.hi
 rw[Nat.max_eq_right ha1,Nat.max_eq_right hb1] at hhi
 have geta:∀ i:Nat,i<la.length→∃ c,la[i]? = some c:=fun i h=>⟨la[i],List.getElem?_eq_getElem h⟩
 have getb:∀ i:Nat,i<lb.length→∃ c,lb[i]? = some c:=fun i h=>⟨lb[i],List.getElem?_eq_getElem h⟩
 refine cq (fun s'=>Kp s s'∧St hb tabs L' (nmF nn dj u d2 va vb x alo ahi blo bhi ta tb tc td st t1 t2 t3) T s'.heap) (fun E'=>?_) ?_
 ·refine bw ?_
  refine wpAny_isTrue_Compare1 ?_
  refine ac S m2 ?_
  refine ac S (.tail _ m9) ?_
  refine gt_int ?_
  refine wpAny_truthy_bool ⟨fun hb'=>?_,fun _=>⟨rfl,⟨rfl,id⟩,S⟩⟩
  have c1:=of_decide_eq_true hb'
  refine bw ?_
  refine wpAny_isTrue_Compare1 ?_
  refine ac S m3 ?_
  refine ac S (.tail _ (.tail _ (.tail _ m9))) ?_
  refine gt_int ?_
  refine wpAny_truthy_bool ⟨fun hb'=>?_,fun _=>⟨rfl,⟨rfl,id⟩,S⟩⟩
  have c2:=of_decide_eq_true hb'
  obtain⟨ca,hca⟩:=geta (st.1 - 1) (by lia)
  obtain⟨cb,hcb⟩:=getb (st.2.1 - 1) (by exact z72 hb2 hhi.2 hb')
  have e1:((st.1:Int) - 1)=((st.1 - 1:Nat):Int):=by lia
  have e2:((st.2.1:Int) - 1)=((st.2.1 - 1:Nat):Int):=by exact z73 hb'
  refine bw ?_
  refine isTrue_not ?_
  refine isTrue_plain ?_
  refine ap ?_
  refine ac S m5 ?_
  refine cz (id := "set.__contains__") (d:=sj) ?_
  refine args_cons ?_
  refine Subscript_ ?_
  refine ac S m7 ?_
  refine wpAny_BinOp ?_
  refine ac S m3 ?_
  refine wpAny_Constant_int ?_
  refine sub_int ?_
  rw[e2]
  refine Vb.item S hRb hcb ?_ (fun _ _=>by with_unfolding_all rfl)
  intro u1 tk1
  refine args_nil ?_
  refine⟨S.obj _ hu,?_⟩
  refine iu led S hu hsj (knd:=PySem.strKind pw w) (k:=cb) bZ rfl ?_
  refine wpAny_truthy_bool ⟨fun _=>?_,nofun⟩
  refine bw ?_
  refine wpAny_isTrue_Compare1 ?_
  refine Subscript_ ?_
  refine ac S m8 ?_
  refine wpAny_BinOp ?_
  refine ac S m2 ?_
  refine wpAny_Constant_int ?_
  refine sub_int ?_
  rw[e1]
  refine Va.item S hRa hca ?_ (fun _ _=>by with_unfolding_all rfl)
  intro u2 tk2
  refine Subscript_ ?_
  refine ac S m7 ?_
  refine wpAny_BinOp ?_
  refine ac S m3 ?_
  refine wpAny_Constant_int ?_
  refine sub_int ?_
  rw[e2]
  refine Vb.item S hRb hcb ?_ (fun _ _=>by with_unfolding_all rfl)
  intro u3 tk3
  refine eq_str ?_
  have hne:=j6 (B.left (by lia) (by lia)) hca hcb
  refine wpAny_truthy_bool ⟨fun hb'=>absurd (by simpa using hb') hne,fun _=>⟨rfl,⟨rfl,id⟩,S⟩⟩
 rintro s_2 ⟨K2,S_2⟩
 refine cq (fun s'=>Kp s s'∧St hb tabs L' (nmF nn dj u d2 va vb x alo ahi blo bhi ta tb tc td st t1 t2 t3) T s'.heap) (fun E'=>?_) ?_
 ·refine bw ?_
  refine wpAny_isTrue_Compare1 ?_
  refine wpAny_BinOp ?_
  refine ac S_2 m2 ?_
  refine ac S_2 m4 ?_
  refine add_int ?_
  refine ac S_2 (.tail _ (.tail _ m9)) ?_
  refine lt_int ?_
  refine wpAny_truthy_bool ⟨fun hb'=>?_,fun _=>⟨rfl,⟨K2.os,K2.gens⟩,S_2⟩⟩
  have c1:=of_decide_eq_true hb'
  refine bw ?_
  refine wpAny_isTrue_Compare1 ?_
  refine wpAny_BinOp ?_
  refine ac S_2 m3 ?_
  refine ac S_2 m4 ?_
  refine add_int ?_
  refine ac S_2 (.tail _ (.tail _ (.tail _ (.tail _ m9)))) ?_
  refine lt_int ?_
  refine wpAny_truthy_bool ⟨fun hb'=>?_,fun _=>⟨rfl,⟨K2.os,K2.gens⟩,S_2⟩⟩
  have c2:=of_decide_eq_true hb'
  obtain⟨ca,hca⟩:=geta (st.1+st.2.2) (by lia)
  obtain⟨cb,hcb⟩:=getb (st.2.1+st.2.2) (by exact z75 hb2 hb')
  have e1:((st.1:Int)+(st.2.2:Int))=((st.1+st.2.2:Nat):Int):=by exact z0x
  have e2:((st.2.1:Int)+(st.2.2:Int))=((st.2.1+st.2.2:Nat):Int):=by exact z0x
  refine bw ?_
  refine isTrue_not ?_
  refine isTrue_plain ?_
  refine ap ?_
  refine ac S_2 m5 ?_
  refine cz (id := "set.__contains__") (d:=sj) ?_
  refine args_cons ?_
  refine Subscript_ ?_
  refine ac S_2 m7 ?_
  refine wpAny_BinOp ?_
  refine ac S_2 m3 ?_
  refine ac S_2 m4 ?_
  refine add_int ?_
  rw[e2]
  refine Vb.item S_2 hRb hcb ?_ (fun _ _=>by with_unfolding_all rfl)
  intro u1 tk1
  refine args_nil ?_
  refine⟨S_2.obj _ hu,?_⟩
  refine iu led S_2 hu hsj (knd:=PySem.strKind pw w) (k:=cb) bZ rfl ?_
  refine wpAny_truthy_bool ⟨fun _=>?_,nofun⟩
  refine bw ?_
  refine wpAny_isTrue_Compare1 ?_
  refine Subscript_ ?_
  refine ac S_2 m8 ?_
  refine wpAny_BinOp ?_
  refine ac S_2 m2 ?_
  refine ac S_2 m4 ?_
  refine add_int ?_
  rw[e1]
  refine Va.item S_2 hRa hca ?_ (fun _ _=>by with_unfolding_all rfl)
  intro u2 tk2
  refine Subscript_ ?_
  refine ac S_2 m7 ?_
  refine wpAny_BinOp ?_
  refine ac S_2 m3 ?_
  refine ac S_2 m4 ?_
  refine add_int ?_
  rw[e2]
  refine Vb.item S_2 hRb hcb ?_ (fun _ _=>by with_unfolding_all rfl)
  intro u3 tk3
  refine eq_str ?_
  have hne:=j6 (B.right (by lia) (by lia)) hca hcb
  refine wpAny_truthy_bool ⟨fun hb'=>absurd (by simpa using hb') hne,fun _=>⟨rfl,⟨K2.os,K2.gens⟩,S_2⟩⟩
 rintro s3 ⟨K3,S_3⟩
 refine cq (fun s'=>Kp s s'∧St hb tabs L' (nmF nn dj u d2 va vb x alo ahi blo bhi ta tb tc td st t1 t2 t3) T s'.heap) (fun E'=>?_) ?_
 ·refine bw ?_
  refine wpAny_isTrue_Compare1 ?_
  refine ac S_3 m2 ?_
  refine ac S_3 (.tail _ m9) ?_
  refine gt_int ?_
  refine wpAny_truthy_bool ⟨fun hb'=>?_,fun _=>⟨rfl,⟨K3.os,K3.gens⟩,S_3⟩⟩
  have c1:=of_decide_eq_true hb'
  refine bw ?_
  refine wpAny_isTrue_Compare1 ?_
  refine ac S_3 m3 ?_
  refine ac S_3 (.tail _ (.tail _ (.tail _ m9))) ?_
  refine gt_int ?_
  refine wpAny_truthy_bool ⟨fun hb'=>?_,fun _=>⟨rfl,⟨K3.os,K3.gens⟩,S_3⟩⟩
  have c2:=of_decide_eq_true hb'
  obtain⟨cb,hcb⟩:=getb (st.2.1 - 1) (by exact z72 hb2 hhi.2 hb')
  have e2:((st.2.1:Int) - 1)=((st.2.1 - 1:Nat):Int):=by exact z73 hb'
  refine bw ?_
  refine isTrue_plain ?_
  refine ap ?_
  refine ac S_3 m5 ?_
  refine cz (id := "set.__contains__") (d:=sj) ?_
  refine args_cons ?_
  refine Subscript_ ?_
  refine ac S_3 m7 ?_
  refine wpAny_BinOp ?_
  refine ac S_3 m3 ?_
  refine wpAny_Constant_int ?_
  refine sub_int ?_
  rw[e2]
  refine Vb.item S_3 hRb hcb ?_ (fun _ _=>by with_unfolding_all rfl)
  intro u1 tk1
  refine args_nil ?_
  refine⟨S_3.obj _ hu,?_⟩
  refine iu led S_3 hu hsj (knd:=PySem.strKind pw w) (k:=cb) bZ rfl ?_
  exact wpAny_truthy_bool ⟨nofun,fun _=>⟨rfl,⟨K3.os,K3.gens⟩,S_3⟩⟩
 rintro s4 ⟨K4,S4⟩
 refine cq (fun s'=>Kp s s'∧St hb tabs L' (nmF nn dj u d2 va vb x alo ahi blo bhi ta tb tc td st t1 t2 t3) T s'.heap) (fun E'=>?_) ?_
 ·refine bw ?_
  refine wpAny_isTrue_Compare1 ?_
  refine wpAny_BinOp ?_
  refine ac S4 m2 ?_
  refine ac S4 m4 ?_
  refine add_int ?_
  refine ac S4 (.tail _ (.tail _ m9)) ?_
  refine lt_int ?_
  refine wpAny_truthy_bool ⟨fun hb'=>?_,fun _=>⟨rfl,⟨K4.os,K4.gens⟩,S4⟩⟩
  have c1:=of_decide_eq_true hb'
  refine bw ?_
  refine wpAny_isTrue_Compare1 ?_
  refine wpAny_BinOp ?_
  refine ac S4 m3 ?_
  refine ac S4 m4 ?_
  refine add_int ?_
  refine ac S4 (.tail _ (.tail _ (.tail _ (.tail _ m9)))) ?_
  refine lt_int ?_
  refine wpAny_truthy_bool ⟨fun hb'=>?_,fun _=>⟨rfl,⟨K4.os,K4.gens⟩,S4⟩⟩
  have c2:=of_decide_eq_true hb'
  obtain⟨cb,hcb⟩:=getb (st.2.1+st.2.2) (by exact z75 hb2 hb')
  have e2:((st.2.1:Int)+(st.2.2:Int))=((st.2.1+st.2.2:Nat):Int):=by exact z0x
  refine bw ?_
  refine isTrue_plain ?_
  refine ap ?_
  refine ac S4 m5 ?_
  refine cz (id := "set.__contains__") (d:=sj) ?_
  refine args_cons ?_
  refine Subscript_ ?_
  refine ac S4 m7 ?_
  refine wpAny_BinOp ?_
  refine ac S4 m3 ?_
  refine ac S4 m4 ?_
  refine add_int ?_
  rw[e2]
  refine Vb.item S4 hRb hcb ?_ (fun _ _=>by with_unfolding_all rfl)
  intro u1 tk1
  refine args_nil ?_
  refine⟨S4.obj _ hu,?_⟩
  refine iu led S4 hu hsj (knd:=PySem.strKind pw w) (k:=cb) bZ rfl ?_
  exact wpAny_truthy_bool ⟨nofun,fun _=>⟨rfl,⟨K4.os,K4.gens⟩,S4⟩⟩
 rintro s5 ⟨K5,S5⟩
 refine b7 ?_
 refine ap ?_
 refine aq G S5 (v:=.ref 163) (by kernel_rfl) ?_
 refine aN G ?_
 refine args_cons ?_
 refine ac S5 m2 ?_
 refine args_cons ?_
 refine ac S5 m3 ?_
 refine args_cons ?_
 refine ac S5 m4 ?_
 refine args_nil ?_
 refine⟨⟨_,_,_,S5⟩,?_⟩
 refine n5 G S5 (by show A.depth+1+1<_;exact hd) ?_
 intro m dd s6 K6 S6
 exact k m dd s6 _ _ _ ⟨K6.os.trans K5.os,fun z=>K6.gens (K5.gens z)⟩ S6
end
end
section
section
variable{w:World}{A:Around}{E:VP}{s:Shared}{hb:Heap}{L L' x dx nn dj u d2 sj:Addr}{T:List (Addr×Obj)}{l:List (Str×Value)}{oL o2 oj od:Obj}{va vb mb fc sp:Value}{la lb:List Str}{Ra Rb:List (Addr×Obj)}{alo ahi blo bhi i:Nat}{ta tb tc td t1 t2 t3 ti:Tok}{st:Nat×Nat×Nat}{led:Bool}{rows:List aM}{R:Result→Shared→Prop}{kvj:List (Int×Value)}
theorem nR(G:Gd (KN w.params) tabs hb)(hh:A.handled=none){Q:FP}
  (S:St hb tabs L' ((Str.ofString "i", .int i ti)::nmF nn dj u d2 va vb x alo ahi blo bhi ta tb tc td st t1 t2 t3) ((dj,oj)::T) s.heap)
  (hoj:oj.IsDictOf (PySem.intKind pw w) kvj) (hpj:Pj la lb alo blo bhi i kvj) {c:Str} (hc:la[i]? = some c) (hi:alo≤i)
  (hd2:(d2,o2)∈T) (ho2:o2.IsDictOf (PySem.strKind pw w) (rows.map aM.kv)) (hrows:bB lb rows) (hob:∀ r∈rows,r.ob∈T) (hnn:(nn,ae [] 0)∈T)
  (Va:SqV pw w hb tabs Ra va la) (hRa:∀ p∈Ra,p∈T) (hlb:lb.length≤100)
  (k:∀ s' dn on' kvn t1 t2 t3,Kp s s'→St hb tabs L' (nmF nn dn u d2 va vb x alo ahi blo bhi ta tb tc td (lK la lb alo blo bhi st i) t1 t2 t3) ((dn,on')::T) s'.heap →
   on'.IsDictOf (PySem.intKind pw w) kvn→Dj la lb alo blo i (dz la lb blo bhi i) kvn→Q .next s') :
  wpAny (model pw w) (A.deeper (cI w L')) (execs fW (cI w L')) Q E s:=by
 refine ak ?_
 refine bg ?_
 refine ac S m2 ?_
 refine jB "dict.get" S m0 hoj ?_ d7 fu
 intro ug h_2 S_2
 refine af S_2 (.new (by kernel_rfl)) ?_
 intro h_3 S_3
 refine ak ?_
 refine dW S_3 ?_
 intro dn h_4 S4
 refine af S4 (.new (by kernel_rfl)) ?_
 intro h_5 S5
 refine el ?_
 refine aC ?_
 refine ac S5 m9 ?_
 refine eV S5 (.tail _ (.tail _ (.tail _ hd2))) ho2 PySem.F.slot_dict_get PySem.F.type_dict_get ?_
 refine ag ?_
 refine args_cons ?_
 refine Subscript_ ?_
 refine ac S5 (.tail _ (.tail _ m9)) ?_
 refine ac S5 m2 ?_
 refine Va.item S5 (fun p hp=>.tail _ (.tail _ (.tail _ (hRa p hp)))) hc ?_ (fun _ _=>by with_unfolding_all rfl)
 intro uc tkc
 refine args_cons ?_
 refine ac S5 m3 ?_
 refine args_nil ?_
 refine jA G S5 (.tail _ (.tail _ (.tail _ hd2))) ho2 (k:=c) bZ ?_
 refine jm (fun v=>wpAny _ _ (pyIter v) _ _ _) hrows hob hnn fun ℓ vs n hℓ hvs=>?_
 refine az (by exact S5) fun s6 K6 S6=>?_
 replace K6:Kp s s6:=⟨K6.os,K6.gens⟩
 refine j0 (T:=(ug,bmO "dict.get" dj)::(dj,oj)::T) G hh S6 m0 m1 hoj hpj hc hi hlb (.tail _ (.tail _ hℓ)) hvs ?_ _
 intro s7 on' kvn t1' t2' t3' K7 S7 hon hdn hln
 refine ak ?_
 refine ac S7 m0 ?_
 refine af S7 (.old (.there (.there (.there (.there .here))))) ?_
 intro h_8 S8
 refine ax ?_
 refine k _ dn on' kvn t1' t2' t3' ⟨K7.os.trans K6.os,fun z=>K7.gens (K6.gens z)⟩ ?_ hon hdn
 exact (S8.forget (.cons _ (.cons _ (.cons _ (List.Sublist.refl _))))).sub (.cons_cons _ (.cons _ (List.sublist_cons_self _ _)))
end
end
section
section
variable{w:World}{A:Around}{E:VP}{s:Shared}{hb:Heap}{L L' x dx nn dj u d2 sj:Addr}{T:List (Addr×Obj)}{l:List (Str×Value)}{oL o2 oj od:Obj}{va vb mb fc sp:Value}{la lb:List Str}{Ra Rb:List (Addr×Obj)}{alo ahi blo bhi i:Nat}{ta tb tc td t1 t2 t3 ti:Tok}{st:Nat×Nat×Nat}{led:Bool}{rows:List aM}{R:Result→Shared→Prop}{kvj:List (Int×Value)}
theorem flm_c(G:Gd (KN w.params) tabs hb)(S:St hb tabs L l T s.heap)(hd:A.depth+2<recursionLimit)(hh:A.handled=none)(hx:(x,smO dx)∈T)(hdx:(dx,od)∈T)(hf:aY od (mf va vb mb fc (.ref d2) (.ref sj) sp))
  (hd2:(d2,o2)∈T) (ho2:o2.IsDictOf (PySem.strKind pw w) (rows.map aM.kv)) (hrows:bB lb rows) (hob:∀ r∈rows,r.ob∈T) (hsj:(sj,bz led)∈T)
  (Va:SqV pw w hb tabs Ra va la) (Vb:SqV pw w hb tabs Rb vb lb) (hRa:∀ p∈Ra,p∈T) (hRb:∀ p∈Rb,p∈T)
  (ha1:alo≤ahi) (ha2:ahi≤la.length) (hb1:blo≤bhi) (hb2:bhi≤lb.length)
  (k:∀ m dd s' t1 t2 t3,Kp s s'→St hb tabs L l ((m,moO dd [.int (flm la lb alo ahi blo bhi).1 t1,.int (flm la lb alo ahi blo bhi).2.1 t2,.int (flm la lb alo ahi blo bhi).2.2 t3])::T) s'.heap→R (.ok (.ret (.ref m))) s') :
  codeAny (model pw w) A (.call (.ref 224) ⟨[.ref x,.int alo ta,.int ahi tb,.int blo tc,.int bhi td],[]⟩) R s:=by
 have hsa:=Va.small
 have hsb:=Vb.small
 refine cc G S (lk224 _) (by exact dn 2 hd) (binds:=[(Str.ofString "self", .ref x),(Str.ofString "alo", .int alo ta),(Str.ofString "ahi", .int ahi tb),(Str.ofString "blo", .int blo tc),(Str.ofString "bhi", .int bhi td)]) (body:=ao (st2 pw 6 6)) (kp_binds (S.kin G) (fun S=>by kernel_rfl)) ?_
 intro L' h_1 oL r S'
 refine c8 ?_
 refine eX ?_
 refine aX ?_
 refine args_cons ?_
 refine bg ?_
 refine ac S' m0 ?_
 refine aQ G S' (.tail _ hx) (.tail _ hdx) hf m1 ?_ (hv:=Va.hand)
 refine args_cons ?_
 refine bg ?_
 refine ac S' m0 ?_
 refine aQ G S' (.tail _ hx) (.tail _ hdx) hf m2 ?_ (hv:=Vb.hand)
 refine args_cons ?_
 refine bg ?_
 refine ac S' m0 ?_
 refine aQ G S' (.tail _ hx) (.tail _ hdx) hf m7 ?_
 refine args_cons ?_
 refine bg ?_
 refine bg ?_
 refine ac S' m0 ?_
 refine aQ G S' (.tail _ hx) (.tail _ hdx) hf m8 ?_
 refine pj "set.__contains__" led S' (.tail _ hsj) ?_ cF c0
 intro u h_2 S_2
 refine args_nil ?_
 refine⟨rfl,_,_,_,_,_,S_2,?_⟩
 intro tu h_3 S_3
 refine bG hh S_3 m0 ?_
 intro h_4 S4
 replace S4:=S4.sub (List.sublist_cons_self _ _)
 refine aA ?_
 refine af S4 (.new (by kernel_rfl)) ?_
 intro h_5 S5
 refine aA ?_
 refine af S5 (.new (by kernel_rfl)) ?_
 intro h_6 S6
 refine aA ?_
 refine af S6 (.new (by kernel_rfl)) ?_
 intro h_7 S7
 refine aA ?_
 refine af S7 (.new (by kernel_rfl)) ?_
 intro h_8 S8
 refine bx ?_
 refine az (by exact S8) fun s8 K8 S8=>?_
 replace K8:Kp s s8:=⟨K8.os,K8.gens⟩
 refine cP ?_
 refine wpAny_isTrue_Compare1 ?_
 refine ac S8 m6 ?_
 refine wpAny_Constant_none ?_
 refine is_none ?_
 refine wpAny_truthy_bool ⟨nofun,fun _=>?_⟩
 refine ax ?_
 refine cP ?_
 refine wpAny_isTrue_Compare1 ?_
 refine ac S8 m8 ?_
 refine wpAny_Constant_none ?_
 refine is_none ?_
 refine wpAny_truthy_bool ⟨nofun,fun _=>?_⟩
 refine ax ?_
 refine dY [Str.ofString "besti", Str.ofString "bestj", Str.ofString "bestsize"] ?_
 refine args_cons ?_
 refine ac S8 m5 ?_
 refine args_cons ?_
 refine ac S8 m7 ?_
 refine args_cons ?_
 refine wpAny_Constant_int ?_
 refine args_nil ?_
 refine⟨rfl,rfl,hh,_,_,_,_,_,S8,?_⟩
 intro h_9 S9
 refine aU ?_
 refine af S9 (.new (by kernel_rfl)) ?_
 intro h_10 S10
 refine aU ?_
 refine af S10 (.new (by kernel_rfl)) ?_
 intro h_11 S11
 refine aU ?_
 refine af S11 (.new (by kernel_rfl)) ?_
 intro h12 S12
 refine eg ?_
 refine ak ?_
 refine dW S12 ?_
 intro dj h13 S13
 refine af S13 (.new (by kernel_rfl)) ?_
 intro h14 S14
 refine ak ?_
 refine bc ?_
 refine args_nil ?_
 refine⟨rfl,_,_,_,_,_,S14,?_⟩
 intro nn h15 S15
 refine af S15 (.new (by kernel_rfl)) ?_
 intro h16 S16
 refine el ?_
 refine ap ?_
 refine ai G S16 di ?_
 refine bb ?_
 refine args_cons ?_
 refine ac S16 (.tail _ m9) ?_
 refine args_cons ?_
 refine ac S16 (.tail _ (.tail _ m9)) ?_
 refine args_nil ?_
 refine ju S16 ?_
 intro rg tg h17 tk17 S17
 refine jw S17 m0 (by exact z7l) (by exact z7m ha1 ha2 hsa) (by exact z7l) (by exact z7n ha2 hsa) ?_
 intro I o Wt fp h_18 IV hw S18
 have S19:St hb tabs L' (nmF nn dj u d2 va vb x alo ahi blo bhi ta tb tc td (alo,blo,0) ta tc _) (((dj,dict0)::(nn,ae [] 0)::(u,bmO "set.__contains__" sj)::(L,oL)::T)++[(I,o)]) h_18 :=
  (S18.sub (T':=(nn,ae [] 0)::(dj,dict0)::(u,bmO "set.__contains__" sj)::(L,oL)::T++[(I,o)]) (List.sublist_cons_self _ _)).perm ((List.perm_append_comm (l₁:=[(nn,ae [] 0)]) (l₂:=[(dj,dict0)])).append_right _)
 have en:((ahi:Int) - (alo:Int)).toNat=ahi - alo:=by exact z7o
 refine dK (own:=[(I,o)]) (Ro:=[]) (IV.walks (A.deeper _) hh) (fun i h hi b hb'=>by rw[List.mem_singleton] at hb';subst hb';exact IV.ex i h hi) rfl IV.ro S19 hw
  (fun t l₁ T1=>Ex6 fun dj' oj' kvj t1 t2 t3=>An4 (l₁=nmF nn dj' u d2 va vb x alo ahi blo bhi ta tb tc td ((List.range' alo t).foldl (lK la lb alo blo bhi) (alo,blo,0)) t1 t2 t3) (T1=(dj',oj')::(nn,ae [] 0)::(u,bmO "set.__contains__" sj)::(L,oL)::T) (oj'.IsDictOf (PySem.intKind pw w) kvj) (Pj la lb alo blo bhi (alo+t) kvj)) ?_ (fun p hp=>(by cases hp)) ?_ ?_
 ·exact⟨dj,dict0,[],_,_,_,rfl,rfl,cy,.inl ⟨rfl,rfl⟩⟩
 ·rintro E1 t v l₁ T1 own1 s₁ ht ⟨ti,hv⟩ ⟨dj',oj',kvj,t1',t2',t3',rfl,rfl,hoj,hpj⟩ S20 hRo hKp
  have hlt:alo+t<la.length:=by exact z7p ha2 ht
  have ev:v=.int ((alo+t:Nat):Int) ti:=by rw[hv,Int.natCast_add]
  clear hv
  subst ev
  refine aT ?_
  refine af S20 (.new (by kernel_rfl)) ?_
  intro h21 S21
  refine nR (T:=(nn,ae [] 0)::(u,bmO "set.__contains__" sj)::(L,oL)::(T++own1)) G hh (by exact S21) hoj hpj (List.getElem?_eq_getElem hlt) (by exact z7q)
   (.tail _ (.tail _ (.tail _ (List.mem_append_left _ hd2)))) ho2 hrows (fun r hr=>.tail _ (.tail _ (.tail _ (List.mem_append_left _ (hob r hr))))) m0 Va (fun p hp=>.tail _ (.tail _ (.tail _ (List.mem_append_left _ (hRa p hp))))) (by exact up 40 hsb) ?_
  intro s' dn on' kvn t1 t2 t3 K' S' hon hdn
  refine⟨_,_,S',⟨dn,on',kvn,t1,t2,t3,?_,rfl,hon,.inr ⟨by exact z7s,hdn⟩⟩,(fun p hp=>(by cases hp)),⟨K'.os.trans hKp.os,fun z=>K'.gens (hKp.gens z)⟩⟩
  rw[List.range'_concat,List.foldl_append,Nat.one_mul];rfl
 ·rintro s' l' T' hKp S20 ⟨dj',oj',kvj,t1',t2',t3',rfl,rfl,hoj,hpj⟩ hRo
  rw[en] at S20
  refine lw G hd S20 (.tail _ (.tail _ (.tail _ (.tail _ hsj)))) m2 (bW la lb alo ahi blo bhi) Va Vb (fun p hp=>.tail _ (.tail _ (.tail _ (.tail _ (hRa p hp))))) (fun p hp=>.tail _ (.tail _ (.tail _ (.tail _ (hRb p hp))))) ha1 ha2 hb1 hb2 ?_
  intro m dd s_2 t1 t2 t3 K2 S21
  have S22:=(S21.leave 4 rfl r).sub (T':=(m,moO dd [.int (flm la lb alo ahi blo bhi).1 t1,.int (flm la lb alo ahi blo bhi).2.1 t2,.int (flm la lb alo ahi blo bhi).2.2 t3])::T) (.cons_cons _ (.cons _ (.cons _ (List.sublist_cons_self _ _))))
  exact k m dd s_2 t1 t2 t3 ⟨K2.os.trans (hKp.os.trans K8.os),fun z=>K2.gens (hKp.gens (K8.gens z))⟩ S22
end
end
section
def l6(h:Heap)(t:Addr)(items:List Value):Prop:=∃ o,h.get? t=some o∧∃ n,o.data=.seq items.toArray n
theorem l6.at{h h':Heap}{t:Addr}{items:List Value}(x:l6 h t items)(e:∀ o,h.get? t=some o→h'.get? t=some o):l6 h' t items:=let ⟨o,a,b⟩:=x;⟨o,e o a,b⟩
section
variable{prog:Program}{w:World}{A:Around}{E:VP}{s:Shared}{it t:Addr}{i:Nat}{items:List Value}
theorem mv{x:Value}{Q:Option Value→Shared→Prop}(hit:s.heap.IsTupleIter it t i)(ht:l6 s.heap t items)(hx:items[i]? = some x)
  (hQ:∀ h',h'.IsTupleIter it t (i+1)→Heap.SameBut it s.heap h'→Q (some x) (wh s h')):wpAny (model prog w) A (pyNext (.ref it)) Q E s:=by
 obtain⟨o,ho,hc,hd⟩:=id hit
 obtain⟨ot,hot,n,hdt⟩:=ht
 have hx':items.toArray[i]? = some x:=by simpa using hx
 unfold pyNext
 refine wpAny_bind (wpAny_attempt (wpAny_callSpecial?_slot (name:=Str.ofString "__next__") hit.typeIs F.slot_tuple_iterator_next (wpAny_call_entry F.slot_tuple_iterator_next hit.typeIs F.entry_tuple_iterator_next ?_ (F.args_tuple_iterator_next_1 _))))
 show wpAny _ _ (field (.ref it) 0 >>= _) _ _ s
 refine wpAny_bind (wpAny_field ho hd (x:=.ref t) rfl ?_)
 refine KFB.if_not rfl ?_
 show wpAny _ _ (field (.ref it) 1 >>= _) _ _ s
 refine wpAny_bind (wpAny_field ho hd (x:=.int i 0) rfl ?_)
 show wpAny _ _ (seqItems? (.ref t) >>= _) _ _ s
 refine wpAny_bind (wpAny_seqItems hot hdt ?_)
 simp only[Int.toNat_natCast,hx']
 refine wpAny_bind (wpAny_setField ho hd (by simp) (wpAny_pure ⟨x,rfl,wpAny_pure (hQ _ ⟨_,Heap.get?_update_self _ ho (Obj.isFreed_of_fields (Obj.data_mapFields hd _)),(Obj.cls_mapFields ..).trans hc,?_⟩ (Heap.SameBut.update ..))⟩))
 rw[Obj.data_mapFields hd];simp[rawInt]
theorem oU{Q:Option Value→Shared→Prop}(hh:A.handled=none)(hit:s.heap.IsTupleIter it t i)(ht:l6 s.heap t items)(hx:items[i]? = none)
  (hQ:∀ h',Heap.ExtBut it s.heap h'→Q none (wh s h')):wpAny (model prog w) A (pyNext (.ref it)) Q E s:=by
 obtain⟨o,ho,hc,hd⟩:=id hit
 obtain⟨ot,hot,n,hdt⟩:=ht
 have hx':items.toArray[i]? = none:=by simpa using hx
 unfold pyNext
 refine wpAny_bind (wpAny_attempt (wpAny_callSpecial?_slot (name:=Str.ofString "__next__") hit.typeIs F.slot_tuple_iterator_next (wpAny_call_entry F.slot_tuple_iterator_next hit.typeIs F.entry_tuple_iterator_next ?_ (F.args_tuple_iterator_next_1 _))))
 show wpAny _ _ (field (.ref it) 0 >>= _) _ _ s
 refine wpAny_bind (wpAny_field ho hd (x:=.ref t) rfl ?_)
 refine KFB.if_not rfl ?_
 show wpAny _ _ (field (.ref it) 1 >>= _) _ _ s
 refine wpAny_bind (wpAny_field ho hd (x:=.int i 0) rfl ?_)
 show wpAny _ _ (seqItems? (.ref t) >>= _) _ _ s
 refine wpAny_bind (wpAny_seqItems hot hdt ?_)
 simp only[Int.toNat_natCast,hx']
 refine wpAny_bind (wpAny_rule (wpAny_bind (wpAny_setField ho hd (by simp) ?_)))
 show wpAny _ _ (newExc (.type "StopIteration") [] >>= _) _ _ _
 refine wpAny_bind ?_
 simp only[newExc,newTuple]
 refine wpAny_bind (wpAny_newObj_type ?_ (by size_fits))
 refine wpAny_bind (m:=firstArgMember _ _) (wpAny_of_eq (a:=Value.none) (by first | rfl | (simp only[firstArgMember];rfl)) ?_)
 refine wpAny_newObj_type ?_ (by size_fits)
 simp only[raiseNew]
 refine wpAny_bind (wpAny_handled ?_)
 first | rw[show A.in1.handled=none from hh] | rw[hh]
 refine wpAny_bind (wpAny_pure (wpAny_throw ?_))
 refine wpAny_bind (wpAny_isInstance (T := "StopIteration") (b:=true) ⟨_,Heap.get?_push_size _ rfl,rfl⟩ isSubtype_stop ?_)
 exact wpAny_pure (hQ _ (((Heap.SameBut.update ..).extBut.push _).push _))
theorem ja(hne:t≠it):∀ (n i:Nat) (s:Shared) (Q:LP),s.heap.IsTupleIter it t i→l6 s.heap t items→i+n≤items.length →
  (∀ h',h'.IsTupleIter it t (i+n)→Heap.SameBut it s.heap h'→Q ((items.drop i).take n) (wh s h'))→wpAny (model prog w) A (draw (.ref it) n) Q E s
 | 0,i,s,Q,hit,_,_,hQ=>wpAny_pure (by simpa using hQ s.heap hit (Heap.SameBut.refl ..))
 | n+1,i,s,Q,hit,ht,hle,hQ=>by
  have hlt:i<items.length:=by exact zbc hle
  refine wpAny_bind (mv hit ht (List.getElem?_eq_getElem hlt) fun h_1 hit1 hs_1=>?_)
  refine wpAny_bind (wpAny_holding (ja hne n (i+1) _ _ hit1 (ht.at fun o e=>(hs_1.2 t hne).trans e) (by exact zbe hle) fun h_2 hit2 hs_2=>wpAny_pure ?_))
  have:=hQ h_2 (by rw[show i+(n+1)=i+1+n by exact z2i];exact hit2) (hs_1.trans hs_2)
  rw[List.drop_eq_getElem_cons hlt,List.take_succ_cons] at this
  exact this
end
section
variable{w:World}{A:Around}{E:VP}{s:Shared}{hb:Heap}{L m dd:Addr}{l:List (Str×Value)}{T:List (Addr×Obj)}{vs:List Value}{env:Env}
theorem jL (w:World):findIn (KN w.params) (.ref 163) "__iter__" = some (some (.builtin "tuple.__iter__")):=by kernel_rfl
theorem ky:plainId "tuple.__iter__" = true:=by decide +kernel
theorem mo:builtinKind "tuple.__iter__" = some .slot:=by decide +kernel
theorem kx:splitId "tuple.__iter__" = some ("tuple", "__iter__"):=by decide +kernel
theorem mq (self:Value):bindSpecial (.builtin "tuple.__iter__") self=pure (.builtin "tuple.__iter__", [self]):=F.slot_tuple_iter.bind self
theorem iN{Q:VP}(G:Gd (KN w.params) tabs hb)(S:St hb tabs L l T s.heap)(hm:(m,moO dd vs)∈T)
  (h:Q (.ref s.heap.objs.size) { s with heap:=s.heap.push { cls:=.type "tuple_iterator", data:=.fields #[.ref m,.int 0 0] } }):wpAny (model pw w) A (pyIter (.ref m)) Q E s:=by
 have X:=S.kin G
 have t1:Looks (model pw w) s.heap (typeOf (.ref m)) (.ref 163):=(Looks.ld (S.obj _ hm)).andThen .now
 have t2:Looks (model pw w) s.heap (isInstance (.ref m) (.type "tuple")) true:=t1.andThen (eD X)
 have t3:Looks (model pw w) s.heap (specialOf (.ref m) "__iter__") (some (.builtin "tuple.__iter__")):=t1.andThen (looks_findIn X (jL w))
 have call:∀ {Q:VP},Q (.ref s.heap.objs.size) { s with heap:=s.heap.push { cls:=.type "tuple_iterator", data:=.fields #[.ref m,.int 0 0] } }→wpAny (model pw w) A (call (.builtin "tuple.__iter__") [.ref m]) Q E s:=fun {Q} h=>by
  refine wpAny_call (codeAny_call_builtin ky F.entry_tuple_iter (@check_slot (model pw w) _ _ _ "tuple.__iter__" "tuple" "__iter__" (.ref m) [] [] _ mo kx t2 (F.args_tuple_iter_1 _) ?_))
  show wpAny _ _ (do ret (← newFields "tuple_iterator" [.ref m,rawInt 0])) _ _ s
  exact wpAny_bind (wpAny_newObj_type (wpAny_pure h))
 unfold pyIter
 refine wpAny_bind (t3.here ?_)
 show wpAny _ _ (callSpecialIfBoundUnlessNone? (.ref m) "__iter__" _ >>= _) Q E s
 refine wpAny_bind ?_
 simp only[callSpecialIfBoundUnlessNone?,bindSpecialIfBound?]
 refine wpAny_holding (wpAny_bind (wpAny_bind (t3.here ?_)))
 simp only[mq]
 refine wpAny_bind (wpAny_askSetting (wpAny_ite ?_))
 have fin:wpAny (model pw w) A (PySem.call (.builtin "tuple.__iter__") [.ref m] >>= fun v=>pure (some v)) (fun v s'=>wpAny (model pw w) A (match v with
   | some it=>(do match ← specialOf it "__next__" with
    | none=>rule "iter.non-iterator"; raiseError "TypeError" s!"iter() returned non-iterator of type '{← PySem.typeNameOf it}'"
    | some _=>pure it)
   | none=>(do match ← bindSpecialIfBound? (.ref m) "__getitem__" with
    | none=>rule "iter.not-iterable"; raiseError "TypeError" s!"'{← PySem.typeNameOf (.ref m)}' object is not iterable"
    | some _=>rule "iter.getitem-fallback"; newFields "iterator" [(.ref m),← mkInt 0])) Q E s') E s :=
  wpAny_bind (call (wpAny_pure (wpAny_bind (wpAny_specialOf (T := "tuple_iterator") ⟨_,Heap.get?_push_size _ rfl,rfl⟩ F.slot_tuple_iterator_next.lookup (wpAny_pure h)))))
 split
 ·exact wpAny_bind (wpAny_pure (wpAny_pure (KFB.if_not rfl fin)))
 ·exact wpAny_tryCatch (wpAny_bind (wpAny_pure (wpAny_pure (KFB.if_not rfl fin))))
theorem fH{targets:List (Bool×(Value→Sem Unit))}{Q:UP}(hh:A.handled=none)(G:Gd (KN w.params) tabs hb)(S:St hb tabs L l T s.heap)(hm:(m,moO dd vs)∈T)
  (hn:targets.length=vs.length) (hstar:targets.findIdx? (·.1)=none)
  (h:∀ h',St hb tabs L l T h'→wpAny (model pw w) A (assignInOrder (targets.map (·.2)) vs) Q E (wh s h')):wpAny (model pw w) A (unpack (.ref m) targets) Q E s:=by
 have X:=S.kin G
 have t1:Looks (model pw w) s.heap (typeOf (.ref m)) (.ref 163):=(Looks.ld (S.obj _ hm)).andThen .now
 have t3:Looks (model pw w) s.heap (specialOf (.ref m) "__iter__") (some (.builtin "tuple.__iter__")):=t1.andThen (looks_findIn X (jL w))
 have hlt:m≠s.heap.objs.size:=Nat.ne_of_lt (S.lt hm)
 unfold unpack unpackItems
 rw[hn,hstar]
 refine wpAny_bind (wpAny_holding (wpAny_bind ?_))
 unfold notIterableAtAll
 refine wpAny_bind (t3.here ?_)
 refine KFB.if_so rfl ?_
 refine wpAny_pure ?_
 refine KFB.if_not rfl ?_
 refine wpAny_bind (wpAny_holding (iN G S hm ?_))
 have hs:l6 (s.heap.push { cls:=.type "tuple_iterator", data:=.fields #[.ref m,.int 0 0] }) m vs:=⟨_,Heap.get?_push_of_some _ (S.obj _ hm),_,rfl⟩
 refine wpAny_bind (wpAny_holding (ja hlt vs.length 0 _ _ ⟨_,Heap.get?_push_size _ rfl,rfl,rfl⟩ hs (by exact zbf) fun h_1 hit1 hs_1=>?_))
 rw[List.drop_zero,List.take_length]
 rw[if_neg (Nat.lt_irrefl _)]
 have ht_1:l6 h_1 m vs:=hs.at fun o e=>(hs_1.2 m hlt).trans e
 refine wpAny_bind (wpAny_holding (oU hh hit1 ht_1 (by simp) fun h_2 he_2=>?_))
 refine KFB.if_not rfl ?_
 refine wpAny_pure ?_
 exact h h_2 (S.extBut fun b o hb' e=>he_2 b o hb' (hs_1.extBut b o hb' (Heap.get?_push_of_some _ e)))
theorem iy{elts:List Expr}{x1:Nat}{tpos:Pos}{Q:UP}(hh:A.handled=none)(G:Gd (KN w.params) tabs hb)(S:St hb tabs L l T s.heap)(hm:(m,moO dd vs)∈T)
  (h:∀ h',St hb tabs L l T h'→wpAny (model pw w) A (assignInOrder ((assignEach elts env).map (·.2)) vs) Q E (wh s h'))
  (hsz:(assignEach elts env).length=vs.length:=by rfl) (hstar:(assignEach elts env).findIdx? (·.1)=none:=by kernel_rfl) :
  wpAny (model pw w) A (assign (.Tuple elts x1 tpos) env (.ref m)) Q E s:=by
 rw[arm_assign_Tuple]
 exact wpAny_bind (wpAny_standAt (fH hh G S hm hsz hstar h))
end
end
section
section
variable{w:World}{A:Around}{E:VP}{s:Shared}{hb:Heap}{L m dd m' dd':Addr}{l:List (Str×Value)}{T:List (Addr×Obj)}{vs:List Value}{env:Env}
theorem mt_lt (w:World):findIn (KN w.params) (.ref 163) "__lt__" = some (some (.builtin "tuple.__lt__")):=by kernel_rfl
theorem ku:plainId "tuple.__lt__" = true:=by decide +kernel
theorem mj:builtinKind "tuple.__lt__" = some .slot:=by decide +kernel
theorem kt:splitId "tuple.__lt__" = some ("tuple", "__lt__"):=by decide +kernel
theorem ml (self:Value):bindSpecial (.builtin "tuple.__lt__") self=pure (.builtin "tuple.__lt__", [self]):=F.slot_tuple_lt.bind self
theorem match_ltcall{a1 a2 a3 b1 b2 b3:Int}{t1 t2 t3 u1 u2 u3:Tok}{Q:VP}(G:Gd (KN w.params) tabs hb)(S:St hb tabs L l T s.heap)(hm:(m,moO dd [.int a1 t1,.int a2 t2,.int a3 t3])∈T)(hm':(m',moO dd' [.int b1 u1,.int b2 u2,.int b3 u3])∈T)
  (h:∀ c tk,Q (.bool c) (wt s tk)):wpAny (model pw w) A (call (.builtin "tuple.__lt__") [.ref m,.ref m']) Q E s:=by
 have X:=S.kin G
 have t1':Looks (model pw w) s.heap (typeOf (.ref m)) (.ref 163):=(Looks.ld (S.obj _ hm)).andThen .now
 have t2':Looks (model pw w) s.heap (isInstance (.ref m) (.type "tuple")) true:=t1'.andThen (eD X)
 have t1'':Looks (model pw w) s.heap (typeOf (.ref m')) (.ref 163):=(Looks.ld (S.obj _ hm')).andThen .now
 have t2'':Looks (model pw w) s.heap (isInstance (.ref m') (.type "tuple")) true:=t1''.andThen (eD X)
 refine wpAny_call (codeAny_call_builtin ku F.entry_tuple_lt (@check_slot (model pw w) _ _ _ "tuple.__lt__" "tuple" "__lt__" (.ref m) [.ref m'] [] _ mj kt t2' (F.args_tuple_lt_2 _ _) ?_))
 show wpAny _ _ (isInstance (.ref m') (.type "tuple") >>= _) _ _ s
 refine wpAny_bind (t2''.here ?_)
 refine KFB.if_not rfl ?_
 refine wpAny_bind (wpAny_bind (wpAny_seqItems (S.obj _ hm) rfl (wpAny_pure ?_)))
 refine wpAny_bind (wpAny_bind (wpAny_seqItems (S.obj _ hm') rfl (wpAny_pure ?_)))
 show wpAny _ _ (forIn [(Value.int a1 t1,Value.int b1 u1),(Value.int a2 t2,Value.int b2 u2),(Value.int a3 t3,Value.int b3 u3)] _ _ >>= _) _ _ s
 refine wpAny_bind ?_
 rw[List.forIn_cons]
 refine wpAny_bind (wpAny_bind (wpAny_eqBool_int ?_))
 by_cases e1:(a1 == b1)=true
 ·rw[e1]
  refine KFB.if_not rfl (wpAny_pure ?_)
  show wpAny _ _ (forIn [(Value.int a2 t2,Value.int b2 u2),(Value.int a3 t3,Value.int b3 u3)] _ _) _ _ s
  rw[List.forIn_cons]
  refine wpAny_bind (wpAny_bind (wpAny_eqBool_int ?_))
  by_cases e2:(a2 == b2)=true
  ·rw[e2]
   refine KFB.if_not rfl (wpAny_pure ?_)
   show wpAny _ _ (forIn [(Value.int a3 t3,Value.int b3 u3)] _ _) _ _ s
   rw[List.forIn_cons]
   refine wpAny_bind (wpAny_bind (wpAny_eqBool_int ?_))
   by_cases e3:(a3 == b3)=true
   ·rw[e3]
    refine KFB.if_not rfl (wpAny_pure ?_)
    show wpAny _ _ (forIn [] _ _) _ _ s
    rw[List.forIn_nil]
    exact wpAny_pure (wpAny_pure (h _ _))
   ·refine KFB.if_so (by simpa using e3) ?_
    refine wpAny_bind (wpAny_rule (wpAny_bind ?_))
    exact lt_int (wpAny_bind (wpAny_pure (wpAny_pure (wpAny_pure (wpAny_pure (h _ _))))))
  ·refine KFB.if_so (by simpa using e2) ?_
   refine wpAny_bind (wpAny_rule (wpAny_bind ?_))
   exact lt_int (wpAny_bind (wpAny_pure (wpAny_pure (wpAny_pure (wpAny_pure (h _ _))))))
 ·refine KFB.if_so (by simpa using e1) ?_
  refine wpAny_bind (wpAny_rule (wpAny_bind ?_))
  exact lt_int (wpAny_bind (wpAny_pure (wpAny_pure (wpAny_pure (wpAny_pure (h _ _))))))
theorem gI{a1 a2 a3 b1 b2 b3:Int}{t1 t2 t3 u1 u2 u3:Tok}{Q:BP}(hu:A.units<cLine)(G:Gd (KN w.params) tabs hb)(S:St hb tabs L l T s.heap)(hm:(m,moO dd [.int a1 t1,.int a2 t2,.int a3 t3])∈T)(hm':(m',moO dd' [.int b1 u1,.int b2 u2,.int b3 u3])∈T)
  (h:∀ c tk,Q c (wt s tk)):wpAny (model pw w) A (keyLt' oneType' (.ref m) (.ref m')) Q E s:=by
 have X:=S.kin G
 have t1':Looks (model pw w) s.heap (typeOf (.ref m)) (.ref 163):=(Looks.ld (S.obj _ hm)).andThen .now
 have t3:Looks (model pw w) s.heap (specialOf (.ref m) "__lt__") (some (.builtin "tuple.__lt__")):=t1'.andThen (looks_findIn X (mt_lt w))
 rw[keyLt'_oneType,oneLt'_eq]
 simp only[if_true]
 refine wpAny_bind (wpAny_cRoomFor hu ?_)
 simp only[callSpecialIfBound?,bindSpecialIfBound?]
 refine wpAny_bind (wpAny_holding (wpAny_bind (wpAny_bind (t3.here ?_))))
 simp only[ml]
 refine wpAny_bind (wpAny_askSetting (wpAny_ite ?_))
 have fin:∀ {Q':Option Value→Shared→Prop},(∀ c tk,Q' (some (.bool c)) (wt s tk))→wpAny (model pw w) A (PySem.call (.builtin "tuple.__lt__") ([.ref m]++[.ref m']) >>= fun v=>pure (some v)) Q' E s:=fun hq =>
  wpAny_bind (match_ltcall G S hm hm' fun c tk=>wpAny_pure (hq c tk))
 split
 ·exact wpAny_bind (wpAny_pure (wpAny_pure (fin fun c tk=>wpAny_bind (wpAny_truthy_bool (wpAny_pure (h c tk))))))
 ·exact wpAny_tryCatch (wpAny_bind (wpAny_pure (wpAny_pure (fin fun c tk=>wpAny_bind (wpAny_truthy_bool (wpAny_pure (h c tk)))))))
end
end
section
def gH(la lb:List Str):Nat→Nat→Nat→Nat→Nat→Nat
 | 0,_,_,_,_=>0
 | f+1,alo,ahi,blo,bhi=>if (flm la lb alo ahi blo bhi).2.2=0 then 0 else
   (flm la lb alo ahi blo bhi).2.2+gH la lb f alo (flm la lb alo ahi blo bhi).1 blo (flm la lb alo ahi blo bhi).2.1 +
    gH la lb f ((flm la lb alo ahi blo bhi).1+(flm la lb alo ahi blo bhi).2.2) ahi ((flm la lb alo ahi blo bhi).2.1+(flm la lb alo ahi blo bhi).2.2) bhi
section
variable{la lb:List Str}
theorem d6{alo ahi blo bhi:Nat}(h:ahi≤alo∨bhi≤blo):(flm la lb alo ahi blo bhi).2.2=0:=by
 have B:=bW la lb alo ahi blo bhi
 have h1:=B.lo
 have h2:=B.hi
 rcases h with q | q
 ·have:=Nat.max_eq_left q;exact zd6 h1.1 h2.1 this
 ·have:=Nat.max_eq_left q;exact zd6 h1.2 h2.2 this
theorem eC{f alo ahi blo bhi:Nat}(h:ahi≤alo∨bhi≤blo):gH la lb f alo ahi blo bhi=0:=by
 cases f with
 | zero=>rfl
 | succ f=>rw[gH,if_pos (d6 h)]
theorem cT:∀ (f f' alo ahi blo bhi:Nat),ahi - alo<f→ahi - alo<f'→gH la lb f alo ahi blo bhi=gH la lb f' alo ahi blo bhi
 | 0,_,_,_,_,_,h,_=>by exact zd5 h
 | _,0,_,_,_,_,_,h=>by exact zd5 h
 | f+1,f'+1,alo,ahi,blo,bhi,h,h'=>by
  rw[gH,gH]
  by_cases hz:(flm la lb alo ahi blo bhi).2.2=0
  ·rw[if_pos hz,if_pos hz]
  ·rw[if_neg hz,if_neg hz]
   have B:=bW la lb alo ahi blo bhi
   have h1:=B.lo
   have h2:=B.hi
   have hlt:alo<ahi:=by
    rcases Nat.lt_or_ge alo ahi with q | q
    ·exact q
    ·exact absurd (d6 (.inl q)) hz
   have h3:=Nat.max_eq_right (Nat.le_of_lt hlt)
   rw[cT f f' alo _ blo _ (by exact zd7 h hz h1.1 h2.1) (by exact zd7 h' hz h1.1 h2.1),cT f f' _ ahi _ bhi (by exact zd8 h hz h1.1 h2.1) (by exact zd8 h' hz h1.1 h2.1)]
def mt(la lb:List Str)(q:Nat×Nat×Nat×Nat):Nat:=gH la lb (la.length+1) q.1 q.2.1 q.2.2.1 q.2.2.2
def wd(q:Nat×Nat×Nat×Nat):Nat:=q.2.1 - q.1
structure gT(la lb:List Str)(q:Nat×Nat×Nat×Nat):Prop where
 a1:q.1≤q.2.1
 a2:q.2.1≤la.length
 b1:q.2.2.1≤q.2.2.2
 b2:q.2.2.2≤lb.length
def fG(q:Nat×Nat×Nat×Nat)(b:Nat×Nat×Nat):List (Nat×Nat×Nat×Nat):=if q.1<b.1∧q.2.2.1<b.2.1 then [(q.1,b.1,q.2.2.1,b.2.1)] else []
def fR(q:Nat×Nat×Nat×Nat)(b:Nat×Nat×Nat):List (Nat×Nat×Nat×Nat):=if b.1+b.2.2<q.2.1∧b.2.1+b.2.2<q.2.2.2 then [(b.1+b.2.2,q.2.1,b.2.1+b.2.2,q.2.2.2)] else []
def ci(l:List Nat):Nat:=l.foldr (· + ·) 0
theorem aF(l r:List Nat):ci (l++r)=ci l+ci r:=by
 induction l with
 | nil=>simp[ci]
 | cons a l ih=>show a+ci (l++r)=a+ci l+ci r;exact zd9 ih
theorem nh{q:Nat×Nat×Nat×Nat}(h:(flm la lb q.1 q.2.1 q.2.2.1 q.2.2.2).2.2=0):mt la lb q=0:=by
 unfold mt;rw[gH,if_pos h]
theorem nk{q:Nat×Nat×Nat×Nat}(hq:gT la lb q)(h:(flm la lb q.1 q.2.1 q.2.2.1 q.2.2.2).2.2≠0) :
  mt la lb q=(flm la lb q.1 q.2.1 q.2.2.1 q.2.2.2).2.2+ci ((fG q (flm la lb q.1 q.2.1 q.2.2.1 q.2.2.2)).map (mt la lb))+ci ((fR q (flm la lb q.1 q.2.1 q.2.2.1 q.2.2.2)).map (mt la lb)):=by
 have B:=bW la lb q.1 q.2.1 q.2.2.1 q.2.2.2
 obtain⟨alo,ahi,blo,bhi⟩:=q
 have h1:=B.lo
 have h2:=B.hi
 have h3:=Nat.max_eq_right hq.a1
 have h4:=Nat.max_eq_right hq.b1
 have ha2:=hq.a2
 dsimp only at *
 generalize hb:flm la lb alo ahi blo bhi=b at *
 unfold mt
 rw[gH,hb,if_neg h]
 have e1:gH la lb la.length alo b.1 blo b.2.1=ci ((fG (alo,ahi,blo,bhi) b).map (mt la lb)):=by
  unfold fG
  split
  ·show _=mt la lb _+0
   unfold mt
   rw[Nat.add_zero]
   exact cT _ _ _ _ _ _ (by exact zdf h3 ha2 h h2.1) (by exact zdh ha2 h2.1)
  ·rename_i hn
   dsimp only at hn
   exact eC (by exact zdi hn)
 have e2:gH la lb la.length (b.1+b.2.2) ahi (b.2.1+b.2.2) bhi=ci ((fR (alo,ahi,blo,bhi) b).map (mt la lb)):=by
  unfold fR
  split
  ·show _=mt la lb _+0
   unfold mt
   rw[Nat.add_zero]
   exact cT _ _ _ _ _ _ (by lia) (by exact zdm ha2)
  ·rename_i hn
   dsimp only at hn
   exact eC (by exact zdn hn)
 rw[e1,e2];rfl
theorem my{q:Nat×Nat×Nat×Nat}(hq:gT la lb q)(h:(flm la lb q.1 q.2.1 q.2.2.1 q.2.2.2).2.2≠0) :
  (∀ p∈fG q (flm la lb q.1 q.2.1 q.2.2.1 q.2.2.2),gT la lb p)∧(∀ p∈fR q (flm la lb q.1 q.2.1 q.2.2.1 q.2.2.2),gT la lb p) ∧
  (flm la lb q.1 q.2.1 q.2.2.1 q.2.2.2).2.2+ci ((fG q (flm la lb q.1 q.2.1 q.2.2.1 q.2.2.2)).map wd)+ci ((fR q (flm la lb q.1 q.2.1 q.2.2.1 q.2.2.2)).map wd)≤wd q:=by
 have B:=bW la lb q.1 q.2.1 q.2.2.1 q.2.2.2
 obtain⟨alo,ahi,blo,bhi⟩:=q
 have h1:=B.lo
 have h2:=B.hi
 have h3:=Nat.max_eq_right hq.a1
 have h4:=Nat.max_eq_right hq.b1
 have ha1:=hq.a1
 have ha2:=hq.a2
 have hb1:=hq.b1
 have hb2:=hq.b2
 dsimp only at *
 generalize hb:flm la lb alo ahi blo bhi=b at *
 refine⟨fun p hp=>?_,fun p hp=>?_,?_⟩
 ·unfold fG at hp
  split at hp
  ·rename_i hn
   rw[List.mem_singleton] at hp
   subst hp
   dsimp only at hn
   exact⟨by dsimp only;exact z2f hn.1,by dsimp only;exact zde h3 ha2 h2.1,by dsimp only;exact z2f hn.2,by dsimp only;exact zde h4 hb2 h2.2⟩
  ·cases hp
 ·unfold fR at hp
  split at hp
  ·rename_i hn
   rw[List.mem_singleton] at hp
   subst hp
   dsimp only at hn
   exact⟨by dsimp only;exact zdg hn.1,by dsimp only;exact ha2,by dsimp only;exact zdg hn.2,by dsimp only;exact hb2⟩
  ·cases hp
 ·have e1:ci ((fG (alo,ahi,blo,bhi) b).map wd)≤b.1 - alo:=by
   unfold fG
   split
   ·show wd _+0≤_
    unfold wd;dsimp only;exact zdj
   ·exact Nat.zero_le _
  have e2:ci ((fR (alo,ahi,blo,bhi) b).map wd)≤ahi - (b.1+b.2.2):=by
   unfold fR
   split
   ·show wd _+0≤_
    unfold wd;dsimp only;exact zdk
   ·exact Nat.zero_le _
  unfold wd at *
  dsimp only
  exact z0e h1.1 h2.1 e1 e2
end
theorem qV{q:Nat×Nat×Nat×Nat}{b:Nat×Nat×Nat}:∀ p∈fG q b,1≤wd p:=fun p hp=>by
 unfold fG at hp
 split at hp
 ·rw[List.mem_singleton] at hp
  subst hp
  unfold wd;dsimp only;lia
 ·cases hp
theorem o7{q:Nat×Nat×Nat×Nat}{b:Nat×Nat×Nat}:∀ p∈fR q b,1≤wd p:=fun p hp=>by
 unfold fR at hp
 split at hp
 ·rw[List.mem_singleton] at hp
  subst hp
  unfold wd;dsimp only;omega
 ·cases hp
theorem gx{α:Type}(f:α→Nat):∀ (l:List α),(∀ a∈l,1≤f a)→l.length≤ci (l.map f)
 | [],_=>Nat.le_refl _
 | a::l,h=>by
  have h1:=h a (.head _)
  have h2:=gx f l fun b hb=>h b (.tail _ hb)
  show l.length+1≤f a+ci (l.map f)
  exact zdb h1 h2
theorem gX(l:List (Nat×Nat×Nat×Nat)):ci (l.map fun q=>2 * wd q+1)=2 * ci (l.map wd)+l.length:=by
 induction l with
 | nil=>rfl
 | cons a l ih =>
  show 2 * wd a+1+ci (l.map fun q=>2 * wd q+1)=2 * (wd a+ci (l.map wd))+(l.length+1)
  exact zdc ih
end
section
structure Wn where
 a:Addr
 q:Nat×Nat×Nat×Nat
structure Bk where
 a:Addr
 b:Nat×Nat×Nat
def be(l:List Wn):List Value:=l.map fun e=>.ref e.a
def am(l:List Bk):List Value:=l.map fun e=>.ref e.a
def QOk(X:List (Addr×Obj))(Qs:List Wn):Prop:=∀ e∈Qs,Ex4 fun t1 t2 t3 t4=>(e.a,au [.int e.q.1 t1,.int e.q.2.1 t2,.int e.q.2.2.1 t3,.int e.q.2.2.2 t4])∈X
def BOk(X:List (Addr×Obj))(Bs:List Bk):Prop:=∀ e∈Bs,(Ex4 fun dd t1 t2 t3=>(e.a,moO dd [.int e.b.1 t1,.int e.b.2.1 t2,.int e.b.2.2 t3])∈X)∧0<e.b.2.2
theorem QOk.mono{X X':List (Addr×Obj)}{Qs:List Wn}(h:QOk X Qs)(hs:∀ p∈X,p∈X'):QOk X' Qs:=fun e he=>let ⟨a,b,c,d,m⟩:=h e he;⟨a,b,c,d,hs _ m⟩
theorem BOk.mono{X X':List (Addr×Obj)}{Bs:List Bk}(h:BOk X Bs)(hs:∀ p∈X,p∈X'):BOk X' Bs:=fun e he=>let ⟨⟨a,b,c,d,m⟩,z⟩:=h e he;⟨⟨a,b,c,d,hs _ m⟩,z⟩
abbrev dg(w:World)(L':Addr):Env:=callEnv (rx w.params) L' 231
def iX:Stmt→List Stmt
 | .While _ b _ _=>b
 | _=>[]
abbrev gmbW:List Stmt:=iX (((ao (st2 pw 6 7))[5]?).getD default)
abbrev nmG (mbl q:Addr) (n m:Nat) (t1 t2:Tok) (x:Addr):List (Str×Value):=[(Str.ofString "matching_blocks", .ref mbl),(Str.ofString "queue", .ref q),(Str.ofString "la", .int n t1),(Str.ofString "lb", .int m t2),(Str.ofString "self", .ref x)]
section
variable{w:World}{A:Around}{E:VP}{s:Shared}{hb:Heap}{L' x dx q mbl d2 sj:Addr}{T X:List (Addr×Obj)}{od o2:Obj}{va vb mb fc sp:Value}{la lb:List Str}{Ra Rb:List (Addr×Obj)}{led:Bool}{rows:List aM}{n m nq nb:Nat}{t1 t2:Tok}{Qs:List Wn}{Bs:List Bk}{e:Wn}
theorem lp(G:Gd (KN w.params) tabs hb)(hd:A.depth+3<recursionLimit)(hh:A.handled=none)
  (hx:(x,smO dx)∈T) (hdx:(dx,od)∈T) (hf:aY od (mf va vb mb fc (.ref d2) (.ref sj) sp))
  (hd2:(d2,o2)∈T) (ho2:o2.IsDictOf (PySem.strKind pw w) (rows.map aM.kv)) (hrows:bB lb rows) (hob:∀ r∈rows,r.ob∈T) (hsj:(sj,bz led)∈T)
  (Va:SqV pw w hb tabs Ra va la) (Vb:SqV pw w hb tabs Rb vb lb) (hRa:∀ p∈Ra,p∈T) (hRb:∀ p∈Rb,p∈T)
  (S:St hb tabs L' (nmG mbl q n m t1 t2 x) ((q,ae (be (Qs++[e])) nq)::(mbl,ae (am Bs) nb)::(X++T)) s.heap) (hQ:QOk X (Qs++[e])) (hB:BOk X Bs) (he:gT la lb e.q) (hlQ:Qs.length≤1000) (hlB:Bs.length≤1000) {Q:FP}
  (k0:(flm la lb e.q.1 e.q.2.1 e.q.2.2.1 e.q.2.2.2).2.2=0→∀ s' X' nq',Kp s s'→St hb tabs L' (nmG mbl q n m t1 t2 x) ((q,ae (be Qs) nq')::(mbl,ae (am Bs) nb)::(X'++T)) s'.heap→QOk X' Qs→BOk X' Bs→Q .next s')
  (k1:(flm la lb e.q.1 e.q.2.1 e.q.2.2.1 e.q.2.2.2).2.2≠0→∀ s' X' nq' nb' mm (ls rs:List Wn),Kp s s'→St hb tabs L' (nmG mbl q n m t1 t2 x) ((q,ae (be (Qs++ls++rs)) nq')::(mbl,ae (am (Bs++[⟨mm,flm la lb e.q.1 e.q.2.1 e.q.2.2.1 e.q.2.2.2⟩])) nb')::(X'++T)) s'.heap →
   QOk X' (Qs++ls++rs)→BOk X' (Bs++[⟨mm,flm la lb e.q.1 e.q.2.1 e.q.2.2.1 e.q.2.2.2⟩])→ls.map (·.q)=fG e.q (flm la lb e.q.1 e.q.2.1 e.q.2.2.1 e.q.2.2.2)→rs.map (·.q)=fR e.q (flm la lb e.q.1 e.q.2.1 e.q.2.2.1 e.q.2.2.2)→Q .next s') :
  wpAny (model pw w) (A.deeper (dg w L')) (execs gmbW (dg w L')) Q E s:=by
 have hq0:=hQ e (List.mem_append_right _ (.head _))
 obtain⟨u1,u2,u3,u4,hqm⟩:=hq0
 have er:be (Qs++[e])=be Qs++[.ref e.a]:=by simp[be]
 rw[er] at S
 have toT:∀ {p:Addr×Obj},p∈T→p∈X++T:=fun h=>List.mem_append_right _ h
 refine eX ?_
 refine aC ?_
 refine ac S m1 ?_
 refine ba S m0 PySem.F.slot_list_pop PySem.F.type_list_pop ?_
 refine ag ?_
 refine args_nil ?_
 refine r_pop 0 S rfl (by simp[be];exact hlQ) ?_
 intro h_2 nq' S_2
 refine bG hh S_2 (.tail _ (.tail _ (List.mem_append_left _ hqm))) ?_
 intro h_3 S_3
 refine aA ?_
 refine af S_3 (.new (by kernel_rfl)) ?_
 intro h_4 S4
 refine aA ?_
 refine af S4 (.new (by kernel_rfl)) ?_
 intro h_5 S5
 refine aA ?_
 refine af S5 (.new (by kernel_rfl)) ?_
 intro h_6 S6
 refine aA ?_
 refine af S6 (.new (by kernel_rfl)) ?_
 intro h_7 S7
 refine bx ?_
 refine az (by exact S7) fun s7 K7 S7=>?_
 replace K7:Kp s s7:=⟨K7.os,K7.gens⟩
 refine eW ?_
 refine aC ?_
 refine ac S7 m8 ?_
 refine bA (f:=224) G S7 (.tail _ (.tail _ (toT hx))) (.tail _ (.tail _ (toT hdx))) hf ?_
 refine aN G ?_
 refine args_cons ?_
 refine ac S7 m3 ?_
 refine args_cons ?_
 refine ac S7 m2 ?_
 refine args_cons ?_
 refine ac S7 m1 ?_
 refine args_cons ?_
 refine ac S7 m0 ?_
 refine args_nil ?_
 refine⟨⟨_,_,_,S7⟩,?_⟩
 refine flm_c G (by exact S7) (by show A.depth+1+2<_;exact hd) hh (.tail _ (.tail _ (toT hx))) (.tail _ (.tail _ (toT hdx))) hf (.tail _ (.tail _ (toT hd2))) ho2 hrows (fun r hr=>.tail _ (.tail _ (toT (hob r hr)))) (.tail _ (.tail _ (toT hsj))) Va Vb (fun p hp=>.tail _ (.tail _ (toT (hRa p hp)))) (fun p hp=>.tail _ (.tail _ (toT (hRb p hp)))) he.a1 he.a2 he.b1 he.b2 ?_
 intro mm dd s8 v1 v2 v3 K8 S8
 refine iy hh G S8 m0 ?_
 intro h_9 S9
 refine aA ?_
 refine af S9 (.new (by kernel_rfl)) ?_
 intro h_10 S10
 refine aA ?_
 refine af S10 (.new (by kernel_rfl)) ?_
 intro h_11 S11
 refine aA ?_
 refine af S11 (.new (by kernel_rfl)) ?_
 intro h12 S12
 refine bx ?_
 refine aT ?_
 refine af S12 (.new (by kernel_rfl)) ?_
 intro h13 S13
 have B:=bW la lb e.q.1 e.q.2.1 e.q.2.2.1 e.q.2.2.2
 refine az (by exact S13) fun s13 K13 S13=>?_
 replace K13:Kp s s13:=⟨K13.os.trans (K8.os.trans K7.os),fun z=>K13.gens (K8.gens (K7.gens z))⟩
 clear S12 S11 S10 S9 S8 S7 S6 S5 S4 S_3 S_2
 generalize flm la lb e.q.1 e.q.2.1 e.q.2.2.1 e.q.2.2.2=b at *
 have hB0:QOk X Qs:=fun e he=>hQ e (List.mem_append_left _ he)
 have blo:=B.lo
 refine cP ?_
 refine isTrue_plain ?_
 refine ac S13 m1 ?_
 refine truthy_int ⟨fun hk=>?_,fun hk=>?_⟩
 ·have hk:b.2.2≠0:=fun q=>by rw[q] at hk;exact absurd hk (by decide)
  refine aZ ?_
  refine aC ?_
  refine ac S13 m8 ?_
  refine ba S13 m2 PySem.F.slot_list_append type_list_append ?_
  refine ag ?_
  refine args_cons ?_
  refine ac S13 m0 ?_
  refine args_nil ?_
  refine aW 2 S13 rfl ?_ (by simp[am];exact up 9000 hlB)
  intro h14 S14
  replace S14:=S14.perm (T':=(q,ae (be Qs) nq')::(mbl,ae (am (Bs++[⟨mm,b⟩])) (nb+1))::(((mm,moO dd [.int b.1 v1,.int b.2.1 v2,.int b.2.2 v3])::X)++T)) (by
   have e1:am (Bs++[⟨mm,b⟩])=am Bs++[.ref mm]:=by simp[am]
   rw[e1]
   exact (List.perm_append_comm (l₁:=[(mm,moO dd [.int b.1 v1,.int b.2.1 v2,.int b.2.2 v3])]) (l₂:=[(q,ae (be Qs) nq'),(mbl,ae (am Bs++[.ref mm]) (nb+1))])).append_right (X++T))
  have hX:∀ p∈X,p∈(mm,moO dd [.int b.1 v1,.int b.2.1 v2,.int b.2.2 v3])::X:=fun p hp=>.tail _ hp
  have hBn:BOk ((mm,moO dd [.int b.1 v1,.int b.2.1 v2,.int b.2.2 v3])::X) (Bs++[⟨mm,b⟩]):=fun e' he'=>by
   rcases List.mem_append.mp he' with z | z
   ·exact (hB.mono hX) e' z
   ·rw[List.mem_singleton] at z
    subst z
    exact⟨⟨dd,v1,v2,v3,.head _⟩,by show 0<b.2.2;lia⟩
  have hQn:=hB0.mono hX
  generalize hX0:(mm,moO dd [.int b.1 v1,.int b.2.1 v2,.int b.2.2 v3])::X=X0 at *
  refine az (by exact S14) fun s14 K14 S14=>?_
  replace K14:Kp s s14:=⟨K14.os.trans K13.os,fun z=>K14.gens (K13.gens z)⟩
  refine fU (fun s_2=>Ex3 fun X' nq'' ls=>An5 (Kp s s_2) (St hb tabs L' ((Str.ofString "x", .ref mm)::(Str.ofString "k", .int b.2.2 v3)::(Str.ofString "j", .int b.2.1 v2)::(Str.ofString "i", .int b.1 v1)::(Str.ofString "bhi", .int e.q.2.2.2 u4)::(Str.ofString "blo", .int e.q.2.2.1 u3)::(Str.ofString "ahi", .int e.q.2.1 u2)::(Str.ofString "alo", .int e.q.1 u1)::nmG mbl q n m t1 t2 x)
   ((q,ae (be (Qs++ls)) nq'')::(mbl,ae (am (Bs++[⟨mm,b⟩])) (nb+1))::(X'++T)) s_2.heap) ((∀ p∈X0,p∈X')) (QOk X' (Qs++ls)) (ls.map (·.q)=fG e.q b)) ?_ ?_
  ·have no:¬ (e.q.1<b.1∧e.q.2.2.1<b.2.1)→Ex3 fun X' nq'' ls=>An5 (Kp s s14) (St hb tabs L' ((Str.ofString "x", .ref mm)::(Str.ofString "k", .int b.2.2 v3)::(Str.ofString "j", .int b.2.1 v2)::(Str.ofString "i", .int b.1 v1)::(Str.ofString "bhi", .int e.q.2.2.2 u4)::(Str.ofString "blo", .int e.q.2.2.1 u3)::(Str.ofString "ahi", .int e.q.2.1 u2)::(Str.ofString "alo", .int e.q.1 u1)::nmG mbl q n m t1 t2 x)
     ((q,ae (be (Qs++ls)) nq'')::(mbl,ae (am (Bs++[⟨mm,b⟩])) (nb+1))::(X'++T)) s14.heap) ((∀ p∈X0,p∈X')) (QOk X' (Qs++ls)) (ls.map (·.q)=fG e.q b):=fun hn =>
    ⟨X0,nq',[],K14,by rw[List.append_nil];exact S14,fun p hp=>hp,by rw[List.append_nil];exact hQn,by unfold fG;rw[if_neg hn];rfl⟩
   refine bw ?_
   refine wpAny_isTrue_Compare1 ?_
   refine ac S14 m7 ?_
   refine ac S14 m3 ?_
   refine lt_int ?_
   refine wpAny_truthy_bool ⟨fun hb'=>?_,fun hb'=>⟨nofun,fun _=>?_⟩⟩
   ·have c1:=of_decide_eq_true hb'
    refine bw ?_
    refine wpAny_isTrue_Compare1 ?_
    refine ac S14 m5 ?_
    refine ac S14 m2 ?_
    refine lt_int ?_
    refine wpAny_truthy_bool ⟨fun hb'=>?_,fun hb'=>⟨nofun,fun _=>?_⟩⟩
    ·have c2:=of_decide_eq_true hb'
     refine isTrue_and_nil ⟨fun _=>?_,nofun⟩
     refine aZ ?_
     refine aC ?_
     refine ac S14 m9 ?_
     refine ba S14 m0 PySem.F.slot_list_append type_list_append ?_
     refine ag ?_
     refine args_cons ?_
     refine aX ?_
     refine args_cons ?_
     refine ac S14 m7 ?_
     refine args_cons ?_
     refine ac S14 m3 ?_
     refine args_cons ?_
     refine ac S14 m5 ?_
     refine args_cons ?_
     refine ac S14 m2 ?_
     refine args_nil ?_
     refine⟨rfl,_,_,_,_,_,S14,?_⟩
     intro tt h15 S15
     refine args_nil ?_
     refine aW 1 S15 rfl ?_ (by simp[be];exact up 9000 hlQ)
     intro h16 S16
     refine ax ?_
     refine⟨rfl,(tt,au [.int e.q.1 u1,.int b.1 v1,.int e.q.2.2.1 u3,.int b.2.1 v2])::X0,nq'+1,[⟨tt,(e.q.1,b.1,e.q.2.2.1,b.2.1)⟩],⟨K14.os,K14.gens⟩,?_,fun p hp=>.tail _ hp,?_,?_⟩
     ·refine S16.perm ?_
      have e1:be (Qs++[⟨tt,(e.q.1,b.1,e.q.2.2.1,b.2.1)⟩])=be Qs++[.ref tt]:=by simp[be]
      rw[e1]
      exact (List.perm_append_comm (l₁:=[(tt,au [.int e.q.1 u1,.int b.1 v1,.int e.q.2.2.1 u3,.int b.2.1 v2])]) (l₂:=[(q,ae (be Qs++[.ref tt]) (nq'+1)),(mbl,ae (am (Bs++[⟨mm,b⟩])) (nb+1))])).append_right (X0++T)
     ·intro e' he'
      rcases List.mem_append.mp he' with z | z
      ·exact (hQn.mono fun p hp=>.tail _ hp) e' z
      ·rw[List.mem_singleton] at z
       subst z
       exact⟨_,_,_,_,.head _⟩
     ·unfold fG
      rw[if_pos ⟨by lia,by lia⟩];rfl
    ·have c2:=of_decide_eq_false hb'
     refine ax ?_
     exact⟨rfl,no (by exact z7v hb')⟩
   ·have c1:=of_decide_eq_false hb'
    refine ax ?_
    exact⟨rfl,no (by exact z7w hb')⟩
  ·rintro s15 ⟨X',nq'',ls,K15,S15,hX',hQ',hls⟩
   have hB':=hBn.mono hX'
   have hll:ls.length≤1:=by
    have:=congrArg List.length hls
    rw[List.length_map] at this
    rw[this]
    unfold fG
    split<;> simp
   refine fU (fun s_2=>Ex3 fun X'' nq'' rs=>An5 (Kp s s_2) (St hb tabs L' ((Str.ofString "x", .ref mm)::(Str.ofString "k", .int b.2.2 v3)::(Str.ofString "j", .int b.2.1 v2)::(Str.ofString "i", .int b.1 v1)::(Str.ofString "bhi", .int e.q.2.2.2 u4)::(Str.ofString "blo", .int e.q.2.2.1 u3)::(Str.ofString "ahi", .int e.q.2.1 u2)::(Str.ofString "alo", .int e.q.1 u1)::nmG mbl q n m t1 t2 x)
    ((q,ae (be (Qs++ls++rs)) nq'')::(mbl,ae (am (Bs++[⟨mm,b⟩])) (nb+1))::(X''++T)) s_2.heap) ((∀ p∈X',p∈X'')) (QOk X'' (Qs++ls++rs)) (rs.map (·.q)=fR e.q b)) ?_ ?_
   ·have no:¬ (b.1+b.2.2<e.q.2.1∧b.2.1+b.2.2<e.q.2.2.2)→∀ tk,Ex3 fun X'' nq'' rs=>An5 (Kp s (wt s15 tk)) (St hb tabs L' ((Str.ofString "x", .ref mm)::(Str.ofString "k", .int b.2.2 v3)::(Str.ofString "j", .int b.2.1 v2)::(Str.ofString "i", .int b.1 v1)::(Str.ofString "bhi", .int e.q.2.2.2 u4)::(Str.ofString "blo", .int e.q.2.2.1 u3)::(Str.ofString "ahi", .int e.q.2.1 u2)::(Str.ofString "alo", .int e.q.1 u1)::nmG mbl q n m t1 t2 x)
      ((q,ae (be (Qs++ls++rs)) nq'')::(mbl,ae (am (Bs++[⟨mm,b⟩])) (nb+1))::(X''++T)) s15.heap) ((∀ p∈X',p∈X'')) (QOk X'' (Qs++ls++rs)) (rs.map (·.q)=fR e.q b):=fun hn tk =>
     ⟨X',nq'',[],⟨K15.os,K15.gens⟩,by rw[List.append_nil];exact S15,fun p hp=>hp,by rw[List.append_nil];exact hQ',by unfold fR;rw[if_neg hn];rfl⟩
    refine bw ?_
    refine wpAny_isTrue_Compare1 ?_
    refine wpAny_BinOp ?_
    refine ac S15 m3 ?_
    refine ac S15 m1 ?_
    refine add_int ?_
    refine ac S15 m6 ?_
    refine lt_int ?_
    refine wpAny_truthy_bool ⟨fun hb'=>?_,fun hb'=>⟨nofun,fun _=>?_⟩⟩
    ·have c1:=of_decide_eq_true hb'
     refine bw ?_
     refine wpAny_isTrue_Compare1 ?_
     refine wpAny_BinOp ?_
     refine ac S15 m2 ?_
     refine ac S15 m1 ?_
     refine add_int ?_
     refine ac S15 m4 ?_
     refine lt_int ?_
     refine wpAny_truthy_bool ⟨fun hb'=>?_,fun hb'=>⟨nofun,fun _=>?_⟩⟩
     ·have c2:=of_decide_eq_true hb'
      refine isTrue_and_nil ⟨fun _=>?_,nofun⟩
      have ea:((b.1:Int)+(b.2.2:Int))=((b.1+b.2.2:Nat):Int):=by exact z0x
      have eb:((b.2.1:Int)+(b.2.2:Int))=((b.2.1+b.2.2:Nat):Int):=by exact z0x
      refine aZ ?_
      refine aC ?_
      refine ac S15 m9 ?_
      refine ba S15 m0 PySem.F.slot_list_append type_list_append ?_
      refine ag ?_
      refine args_cons ?_
      refine aX ?_
      refine args_cons ?_
      refine wpAny_BinOp ?_
      refine ac S15 m3 ?_
      refine ac S15 m1 ?_
      refine add_int ?_
      rw[ea]
      refine args_cons ?_
      refine ac S15 m6 ?_
      refine args_cons ?_
      refine wpAny_BinOp ?_
      refine ac S15 m2 ?_
      refine ac S15 m1 ?_
      refine add_int ?_
      rw[eb]
      refine args_cons ?_
      refine ac S15 m4 ?_
      refine args_nil ?_
      refine⟨rfl,_,_,_,_,_,S15,?_⟩
      intro tt h16 S16
      obtain⟨w1,w2,S16⟩:Ex2 fun w1 w2=>St hb tabs L' _ ((tt,au [.int (b.1+b.2.2:Nat) w1,.int e.q.2.1 u2,.int (b.2.1+b.2.2:Nat) w2,.int e.q.2.2.2 u4])::(q,ae (be (Qs++ls)) nq'')::(mbl,ae (am (Bs++[⟨mm,b⟩])) (nb+1))::(X'++T)) h16:=⟨_,_,S16⟩
      refine args_nil ?_
      refine aW 1 S16 rfl ?_ (by simp[be];exact z7x hlQ hll)
      intro h17 S17
      refine ax ?_
      refine⟨rfl,(tt,au [.int (b.1+b.2.2:Nat) w1,.int e.q.2.1 u2,.int (b.2.1+b.2.2:Nat) w2,.int e.q.2.2.2 u4])::X',nq''+1,[⟨tt,(b.1+b.2.2,e.q.2.1,b.2.1+b.2.2,e.q.2.2.2)⟩],⟨K15.os,K15.gens⟩,?_,fun p hp=>.tail _ hp,?_,?_⟩
      ·refine S17.perm ?_
       have e1:be (Qs++ls++[⟨tt,(b.1+b.2.2,e.q.2.1,b.2.1+b.2.2,e.q.2.2.2)⟩])=be (Qs++ls)++[.ref tt]:=by simp[be]
       rw[e1]
       exact (List.perm_append_comm (l₁:=[(tt,au [.int (b.1+b.2.2:Nat) w1,.int e.q.2.1 u2,.int (b.2.1+b.2.2:Nat) w2,.int e.q.2.2.2 u4])]) (l₂:=[(q,ae (be (Qs++ls)++[.ref tt]) (nq''+1)),(mbl,ae (am (Bs++[⟨mm,b⟩])) (nb+1))])).append_right (X'++T)
      ·intro e' he'
       rcases List.mem_append.mp he' with z | z
       ·exact (hQ'.mono fun p hp=>.tail _ hp) e' z
       ·rw[List.mem_singleton] at z
        subst z
        exact⟨_,_,_,_,.head _⟩
      ·unfold fR
       rw[if_pos ⟨by lia,by lia⟩];rfl
     ·have c2:=of_decide_eq_false hb'
      refine ax ?_
      exact⟨rfl,no (by exact z7y hb') _⟩
    ·have c1:=of_decide_eq_false hb'
     refine ax ?_
     exact⟨rfl,no (by exact z7z hb') _⟩
   ·rintro s16 ⟨X'',nq3,rs,K16,S16,hX'',hQ'',hrs⟩
    refine ax ?_
    refine ax ?_
    refine k1 hk s16 X'' nq3 (nb+1) mm ls rs K16 ?_ hQ'' (hB'.mono hX'') hls hrs
    exact S16.forget (.cons _ (.cons _ (.cons _ (.cons _ (.cons _ (.cons _ (.cons _ (.cons _ (List.Sublist.refl _)))))))))
 ·have hk:b.2.2=0:=by simpa using hk
  refine ax ?_
  refine ax ?_
  refine k0 hk s13 ((mm,moO dd [.int b.1 v1,.int b.2.1 v2,.int b.2.2 v3])::X) nq' K13 ?_ (hB0.mono fun p hp=>.tail _ hp) (hB.mono fun p hp=>.tail _ hp)
  refine (S13.forget (.cons _ (.cons _ (.cons _ (.cons _ (.cons _ (.cons _ (.cons _ (.cons _ (List.Sublist.refl _)))))))))).perm ?_
  exact (List.perm_append_comm (l₁:=[(mm,moO dd [.int b.1 v1,.int b.2.1 v2,.int b.2.2 v3])]) (l₂:=[(q,ae (be Qs) nq'),(mbl,ae (am Bs) nb)])).append_right (X++T)
end
end
section
def b5(Bs:List Bk):Nat:=ci (Bs.map fun e=>e.b.2.2)
def qs(Qs:List Wn):List (Nat×Nat×Nat×Nat):=Qs.map (·.q)
section
variable{w:World}{A:Around}{E:VP}{s:Shared}{hb:Heap}{L' x dx q mbl d2 sj:Addr}{T X:List (Addr×Obj)}{od o2:Obj}{va vb mb fc sp:Value}{la lb:List Str}{Ra Rb:List (Addr×Obj)}{led:Bool}{rows:List aM}{n m nq nb M:Nat}{t1 t2:Tok}{Qs:List Wn}{Bs:List Bk}{e:Wn}
theorem jX(G:Gd (KN w.params) tabs hb)(hd:A.depth+3<recursionLimit)(hh:A.handled=none)
  (hx:(x,smO dx)∈T) (hdx:(dx,od)∈T) (hf:aY od (mf va vb mb fc (.ref d2) (.ref sj) sp))
  (hd2:(d2,o2)∈T) (ho2:o2.IsDictOf (PySem.strKind pw w) (rows.map aM.kv)) (hrows:bB lb rows) (hob:∀ r∈rows,r.ob∈T) (hsj:(sj,bz led)∈T)
  (Va:SqV pw w hb tabs Ra va la) (Vb:SqV pw w hb tabs Rb vb lb) (hRa:∀ p∈Ra,p∈T) (hRb:∀ p∈Rb,p∈T)
  (S:St hb tabs L' (nmG mbl q n m t1 t2 x) ((q,ae (be [e]) nq)::(mbl,ae (am []) nb)::(X++T)) s.heap) (hQ:QOk X [e]) (he:gT la lb e.q) {Q:FP}
  (k:∀ s' X' Bs' nq' nb',Kp s s'→St hb tabs L' (nmG mbl q n m t1 t2 x) ((q,ae [] nq')::(mbl,ae (am Bs') nb')::(X'++T)) s'.heap→BOk X' Bs'→b5 Bs'=mt la lb e.q→Bs'.length≤la.length →
   wpAny (model pw w) (A.deeper (dg w L')) (execs ((ao (st2 pw 6 7)).drop 6) (dg w L')) Q E s') :
  wpAny (model pw w) (A.deeper (dg w L')) (execs ((ao (st2 pw 6 7)).drop 5) (dg w L')) Q E s:=by
 have hsa:=Va.small
 refine jD (fun s'=>Ex4 fun X' Bs' nq' nb'=>An5 (Kp s s') (St hb tabs L' (nmG mbl q n m t1 t2 x) ((q,ae [] nq')::(mbl,ae (am Bs') nb')::(X'++T)) s'.heap) (BOk X' Bs') (b5 Bs'=mt la lb e.q) (Bs'.length≤la.length))
  (fun N s'=>Ex5 fun Qs Bs X nq nb=>An9 (N=ci ((qs Qs).map fun q=>2 * wd q+1)) (Kp s s') (St hb tabs L' (nmG mbl q n m t1 t2 x) ((q,ae (be Qs) nq)::(mbl,ae (am Bs) nb)::(X++T)) s'.heap) (QOk X Qs) (BOk X Bs) ((∀ p∈qs Qs,gT la lb p)) (b5 Bs+ci ((qs Qs).map (mt la lb))=mt la lb e.q) (b5 Bs+ci ((qs Qs).map wd)≤la.length) (((∀ p∈qs Qs,1≤wd p)∨Qs.length≤1)))
  _ ⟨[e],[],X,nq,nb,rfl,⟨rfl,id⟩,S,hQ,fun e he=>(by cases he),fun p hp=>?_,?_,?_,.inr (Nat.le_refl _)⟩ ?_ ?_
 ·rw[show p=e.q by simpa [qs] using hp];exact he
 ·show 0+(mt la lb e.q+0)=_;exact z80
 ·show 0+(wd e.q+0)≤_
  have:=he.a2
  unfold wd;exact z81 this
 ·rintro E' N s' ⟨Qs,Bs,X,nq,nb,rfl,hKp,S,hQ,hB,hW,hM,hL,hlen⟩
  have hBl:Bs.length≤b5 Bs:=gx (fun e:Bk=>e.b.2.2) Bs fun b hb'=>(hB b hb').2
  have hQl:Qs.length≤61:=by
   rcases hlen with q | q
   ·have:=gx wd (qs Qs) q
    have e2:(qs Qs).length=Qs.length:=by simp[qs]
    exact z82 hsa hL this e2
   ·exact up 60 q
  refine isTrue_plain ?_
  refine ac S m1 ?_
  refine g8 S m0 (by simp[be];exact up 939 hQl) fun tk=>⟨fun hb'=>?_,fun hb'=>?_⟩
  ·have hne:Qs≠[]:=fun q=>by rw[q] at hb';exact absurd hb' (by decide)
   obtain⟨Qs',e',rfl⟩:Ex2 fun Qs' e'=>Qs=Qs'++[e']:=⟨Qs.dropLast,Qs.getLast hne,(List.dropLast_concat_getLast hne).symm⟩
   have eq:qs (Qs'++[e'])=qs Qs'++[e'.q]:=by simp[qs]
   rw[eq] at hW hM hL hlen
   have hWe:=hW e'.q (List.mem_append_right _ (.head _))
   rw[List.map_append,aF] at hM hL
   have e1:ci ([e'.q].map (mt la lb))=mt la lb e'.q:=rfl
   have e2:ci ([e'.q].map wd)=wd e'.q:=rfl
   rw[e1] at hM
   rw[e2] at hL
   simp only[List.length_append,List.length_singleton] at hQl
   refine lp (X:=X) G hd hh hx hdx hf hd2 ho2 hrows hob hsj Va Vb hRa hRb (by exact S) hQ hB hWe (by exact z85 hQl) (by exact z86 hsa hBl hL) ?_ ?_
   ·intro hz s_2 X' nq' K2 S_2 hQ2 hB2
    refine⟨_,?_,Qs',Bs,X',nq',nb,rfl,⟨K2.os.trans hKp.os,fun z=>K2.gens (hKp.gens z)⟩,S_2,hQ2,hB2,fun p hp=>hW p (List.mem_append_left _ hp),?_,by exact z87 hL,?_⟩
    ·rw[eq,List.map_append,aF]
     show _<_+(2 * wd e'.q+1+0)
     exact z88
    ·rw[nh hz] at hM;exact hM
    ·rcases hlen with q | q
     ·exact .inl fun p hp=>q p (List.mem_append_left _ hp)
     ·right
      have:Qs'=[]:=by simpa using q
      rw[this];simp
   ·intro hz s_2 X' nq' nb' mm ls rs K2 S_2 hQ2 hB2 hls hrs
    obtain⟨hs1,hs2,hs3⟩:=my hWe hz
    have hst:=nk hWe hz
    have eq2:qs (Qs'++ls++rs)=qs Qs'++fG e'.q (flm la lb e'.q.1 e'.q.2.1 e'.q.2.2.1 e'.q.2.2.2)++fR e'.q (flm la lb e'.q.1 e'.q.2.1 e'.q.2.2.1 e'.q.2.2.2):=by
     rw[← hls,← hrs];simp[qs]
    have hsB:b5 (Bs++[⟨mm,flm la lb e'.q.1 e'.q.2.1 e'.q.2.2.1 e'.q.2.2.2⟩])=b5 Bs+(flm la lb e'.q.1 e'.q.2.1 e'.q.2.2.1 e'.q.2.2.2).2.2:=by
     unfold b5;rw[List.map_append,aF];rfl
    refine⟨_,?_,Qs'++ls++rs,_,X',nq',nb',rfl,⟨K2.os.trans hKp.os,fun z=>K2.gens (hKp.gens z)⟩,S_2,hQ2,hB2,fun p hp=>?_,?_,?_,?_⟩
    ·have hl1:ls.length≤1:=by
      have:=congrArg List.length hls
      rw[List.length_map] at this
      rw[this];unfold fG;split<;> simp
     have hr1:rs.length≤1:=by
      have:=congrArg List.length hrs
      rw[List.length_map] at this
      rw[this];unfold fR;split<;> simp
     rw[eq,gX,gX,eq2,List.map_append,List.map_append,List.map_append,aF,aF,aF,e2]
     have hl2:=congrArg List.length hls
     have hr2:=congrArg List.length hrs
     rw[List.length_map] at hl2 hr2
     simp only[List.length_append,List.length_singleton]
     exact z8a hz hs3 hl1 hr1 hl2 hr2
    ·rw[eq2] at hp
     rcases List.mem_append.mp hp with z | z
     ·rcases List.mem_append.mp z with z | z
      ·exact hW p (List.mem_append_left _ z)
      ·exact hs1 p z
     ·exact hs2 p z
    ·rw[hsB,eq2,List.map_append,List.map_append,aF,aF];exact z8b hM hst
    ·rw[hsB,eq2,List.map_append,List.map_append,aF,aF];exact z8c hL hs3
    ·left
     intro p hp
     rw[eq2] at hp
     rcases List.mem_append.mp hp with z | z
     ·rcases List.mem_append.mp z with z | z
      ·rcases hlen with q | q
       ·exact q p (List.mem_append_left _ z)
       ·rw[List.length_append] at q
        have:Qs'=[]:=by simpa using q
        rw[this] at z;cases z
      ·exact qV p z
     ·exact o7 p z
  ·have hne:Qs=[]:=by
    cases Qs with
    | nil=>rfl
    | cons a l=>exact absurd hb' (by simp[be])
   subst hne
   refine⟨X,Bs,nq,nb,⟨hKp.os,hKp.gens⟩,S,hB,z8d hM (show ci ((qs []).map (mt la lb))=0 from rfl),by exact z8e hBl hL⟩
 ·rintro s' ⟨X',Bs',nq',nb',K',S',hB',hM,hl⟩
  exact k s' X' Bs' nq' nb' K' S' hB' hM hl
end
end
section
section
variable{w:World}{A:Around}{E:VP}{s:Shared}{hb:Heap}{L m dd t:Addr}{l:List (Str×Value)}{T:List (Addr×Obj)}{vs:List Value}{env:Env}{R:Result→Shared→Prop}
theorem qR (w:World):findIn (KN w.params) (.ref 163) "__len__" = some (some (.builtin "tuple.__len__")):=by kernel_rfl
theorem iI (w:World):findIn (KN w.params) (.ref 163) "__getitem__" = some (some (.builtin "tuple.__getitem__")):=by kernel_rfl
theorem kr:plainId "tuple.__len__" = true:=by decide +kernel
theorem mi:builtinKind "tuple.__len__" = some .slot:=by decide +kernel
theorem kq:splitId "tuple.__len__" = some ("tuple", "__len__"):=by decide +kernel
theorem kA:plainId "tuple.__getitem__" = true:=by decide +kernel
theorem mr:builtinKind "tuple.__getitem__" = some .slot:=by decide +kernel
theorem kz:splitId "tuple.__getitem__" = some ("tuple", "__getitem__"):=by decide +kernel
theorem nu:findCls (KN w.params) (.ref 163) (.type "type") (Str.ofString "_make")=some (.get (.builtin "classmethod.__get__") (.ref 119) .none (.ref 163)):=by kernel_rfl
theorem o9:recIn (KN w.params) 119 "classmethod" = some [.ref 117,.bool false]:=by kernel_rfl
theorem pe{Q:VP}(G:Gd (KN w.params) tabs hb)(S:St hb tabs L l T s.heap)(h:∀ u h',St hb tabs L l ((u,methodObj (.ref 117) (.ref 163))::T) h'→Q (.ref u) (wht s h' (s.toks+1))) :
  wpAny (model pw w) A (getAttr (.ref 163) (Str.ofString "_make") true) Q E s:=by
 have X:=S.kin G
 refine cls_bind X lR nu (wpAny_call (cm_get (s:=(wt s (s.toks+1))) X o9 ?_))
 exact handed_on rfl (h _ _ (S.push _))
theorem jT{Q:VP}(G:Gd (KN w.params) tabs hb)(S:St hb tabs L l T s.heap)(hm:(m,moO dd vs)∈T)(hz:vs.length≤1000)(h:∀ t tk,Q (.int vs.length t) (wt s tk)) :
  wpAny (model pw w) A (call (.builtin "len") [.ref m]) Q E s:=by
 have X:=S.kin G
 have t1:Looks (model pw w) s.heap (typeOf (.ref m)) (.ref 163):=(Looks.ld (S.obj _ hm)).andThen .now
 have t2:Looks (model pw w) s.heap (isInstance (.ref m) (.type "tuple")) true:=t1.andThen (eD X)
 have t3:Looks (model pw w) s.heap (specialOf (.ref m) "__len__") (some (.builtin "tuple.__len__")):=t1.andThen (looks_findIn X (qR w))
 refine Calls.call_function_entry kind_len plain_len entry_len (args_len1 _) ?_
 unfold Builtin.«len»
 refine wpAny_bind (m:=oneArg "len" _) (wpAny_pure ?_)
 refine wpAny_bind (m:=callSpecial? (.ref m) (Str.ofString "__len__")) ?_
 simp only[callSpecial?]
 refine wpAny_bind (t3.here (wpAny_holding ?_))
 rw[PySem.F.slot_tuple_len.bind]
 refine wpAny_bind (wpAny_pure ?_)
 refine wpAny_bind (wpAny_call (codeAny_call_builtin kr PySem.F.entry_tuple_len (@check_slot (model pw w) _ _ _ "tuple.__len__" "tuple" "__len__" (.ref m) [] [] _ mi kq t2 (PySem.F.args_tuple_len_1 _) ?_)))
 show wpAny _ _ (Builtin.Tuple.tupleItemsOf (.ref m) >>= _) _ _ s
 refine wpAny_bind (wpAny_bind (wpAny_seqItems (S.obj _ hm) rfl (wpAny_pure ?_)))
 refine wpAny_bind (wpAny_mkInt (wpAny_pure ?_))
 refine wpAny_pure ?_
 refine wpAny_bind (wpAny_holding (wpAny_pure ?_))
 refine wpAny_bind (wpAny_letGo ?_)
 have e:((vs.toArray.size:Nat):Int)=(vs.length:Int):=by rw[List.size_toArray]
 refine wpAny_ite_split (fun hab=>absurd hab (by exact zbg)) (fun _=>?_)
 refine wpAny_ite_split (fun hab=>absurd hab (by rw[e];lia)) (fun _=>?_)
 rw[e]
 exact wpAny_bind (wpAny_mkInt (wpAny_pure ⟨_,rfl,h _ _⟩))
theorem qS{a b c:Value}(G:Gd (KN w.params) tabs hb)(S:St hb tabs L l T s.heap)(hd:A.depth<recursionLimit)(ht:(t,au [a,b,c])∈T)
  (k:∀ m dd s',Kp s s'→St hb tabs L l ((m,moO dd [a,b,c])::T) s'.heap→R (.ok (.ret (.ref m))) s') :
  codeAny (model pw w) A (.call (.ref 117) ⟨[.ref 163,.ref t],[]⟩) R s:=by
 refine cc G S (lk117 _) (by exact hd) (binds:=[(Str.ofString "cls", .ref 163),(Str.ofString "iterable", .ref t)]) (body:=ao (st2 pw 4 5)) (BindsTo.of_eq (by kernel_rfl)) ?_
 intro L' h_1 oL r S'
 refine c8 ?_
 refine ak ?_
 refine aC ?_
 refine ai G S' eJ ?_
 refine ia (S'.kin G) ?_
 refine ag ?_
 refine args_cons ?_
 refine ac S' m0 ?_
 refine args_cons ?_
 refine ac S' m1 ?_
 refine args_nil ?_
 refine wpAny_call (io G S' (.tail _ ht) (by simp) ?_)
 intro m dd h_3 S_3
 refine af S_3 (.new (by kernel_rfl)) ?_
 intro h_4 S4
 refine cP ?_
 refine wpAny_isTrue_Compare1 ?_
 refine ap ?_
 refine ai G S4 boot_len ?_
 refine ag ?_
 refine args_cons ?_
 refine ac S4 m0 ?_
 refine args_nil ?_
 refine jT G S4 m0 (by simp) ?_
 intro t_1 tk_1
 refine wpAny_Constant_int ?_
 refine ne_int ?_
 refine wpAny_truthy_bool ⟨nofun,fun _=>?_⟩
 refine ax ?_
 refine b7 ?_
 refine ac S4 m0 ?_
 exact k _ _ _ ⟨rfl,id⟩ (S4.leave 1 rfl r)
end
end
section
def NOk(X:List (Addr×Obj))(Ns:List Bk):Prop:=∀ e∈Ns,Ex3 fun t1 t2 t3=>(e.a,au [.int e.b.1 t1,.int e.b.2.1 t2,.int e.b.2.2 t3])∈X
def MOk(X:List (Addr×Obj))(Ms:List Bk):Prop:=∀ e∈Ms,Ex4 fun dd t1 t2 t3=>(e.a,moO dd [.int e.b.1 t1,.int e.b.2.1 t2,.int e.b.2.2 t3])∈X
theorem NOk.mono{X X':List (Addr×Obj)}{Qs:List Bk}(h:NOk X Qs)(hs:∀ p∈X,p∈X'):NOk X' Qs:=fun e he=>let ⟨a,b,c,m⟩:=h e he;⟨a,b,c,hs _ m⟩
theorem MOk.mono{X X':List (Addr×Obj)}{Qs:List Bk}(h:MOk X Qs)(hs:∀ p∈X,p∈X'):MOk X' Qs:=fun e he=>let ⟨a,b,c,d,m⟩:=h e he;⟨a,b,c,d,hs _ m⟩
theorem BOk.toM{X:List (Addr×Obj)}{Bs:List Bk}(h:BOk X Bs):MOk X Bs:=fun e he=>(h e he).1
theorem bM(l:List Bk)(e:Bk):b5 (l++[e])=b5 l+e.b.2.2:=by unfold b5;rw[List.map_append,aF];rfl
theorem cp(l:List Bk)(e:Bk):am (l++[e])=am l++[.ref e.a]:=by simp[am]
theorem aP(l:List Bk):(am l).length=l.length:=by simp[am]
abbrev nmM (na:Addr) (b:Nat×Nat×Nat) (ti tj tk:Tok) (l:List (Str×Value)):List (Str×Value):=(Str.ofString "non_adjacent", .ref na)::(Str.ofString "k1", .int b.2.2 tk)::(Str.ofString "j1", .int b.2.1 tj)::(Str.ofString "i1", .int b.1 ti)::l
abbrev lU:List Stmt:=d5 (((ao (st2 pw 6 7))[9]?).getD default)
def mrT:Expr:=match ((ao (st2 pw 6 7))[9]?).getD default with | .For t _ _ _ _=>t | _=>default
def mrO:List Stmt:=match (lU[0]?).getD default with | .If _ _ o _=>o | _=>[]
section
variable{w:World}{A:Around}{E:VP}{s:Shared}{hb:Heap}{L' x dx q mbl na:Addr}{T X:List (Addr×Obj)}{la lb:List Str}{n m nn:Nat}{t1 t2 ti tj tk:Tok}{Ns:List Bk}{b:Nat×Nat×Nat}{e:Bk}
theorem iJ(G:Gd (KN w.params) tabs hb)(hh:A.handled=none)
  (S:St hb tabs L' (nmM na b ti tj tk (nmG mbl q n m t1 t2 x)) ((na,ae (am Ns) nn)::(X++T)) s.heap) (hN:NOk X Ns) (he:MOk T [e]) (hl:Ns.length≤1000) {Q:FP}
  (k:∀ s' X' nn' Ns' b' ti tj tk,Kp s s'→St hb tabs L' (nmM na b' ti tj tk (nmG mbl q n m t1 t2 x)) ((na,ae (am Ns') nn')::(X'++T)) s'.heap→NOk X' Ns'→b5 Ns'+b'.2.2=b5 Ns+b.2.2+e.b.2.2→Ns'.length≤Ns.length+1→Q .next s')
  {tgt:Expr} (htg:tgt=mrT) :
  wpAny (model pw w) (A.deeper (dg w L')) (assign tgt (dg w L') (.ref e.a)) (fun _ s_2=>wpAny (model pw w) (A.deeper (dg w L')) (execs lU (dg w L')) Q E s_2) E s:=by
 obtain⟨dd,u1,u2,u3,hem⟩:=he e (.head _)
 subst htg
 refine iy hh G S (.tail _ (List.mem_append_right _ hem)) ?_
 intro h_2 S_2
 refine aA ?_
 refine af S_2 (.new (by kernel_rfl)) ?_
 intro h_3 S_3
 refine aA ?_
 refine af S_3 (.new (by kernel_rfl)) ?_
 intro h_4 S4
 refine aA ?_
 refine af S4 (.new (by kernel_rfl)) ?_
 intro h_5 S5
 refine bx ?_
 refine az (by exact S5) fun s5 K5 S5=>?_
 replace K5:Kp s s5:=⟨K5.os,K5.gens⟩
 have els:∀ (s6:Shared) {Q':FP}{E':VP},Kp s s6→St hb tabs L' ((Str.ofString "k2", .int e.b.2.2 u3)::(Str.ofString "j2", .int e.b.2.1 u2)::(Str.ofString "i2", .int e.b.1 u1)::nmM na b ti tj tk (nmG mbl q n m t1 t2 x)) ((na,ae (am Ns) nn)::(X++T)) s6.heap →
   (∀ s',(Ex7 fun X' nn' Ns' b' ti tj tk=>An5 (Kp s s') (St hb tabs L' (nmM na b' ti tj tk (nmG mbl q n m t1 t2 x)) ((na,ae (am Ns') nn')::(X'++T)) s'.heap) (NOk X' Ns') (b5 Ns'+b'.2.2=b5 Ns+b.2.2+e.b.2.2) (Ns'.length≤Ns.length+1))→Q' .next s') →
   wpAny (model pw w) (A.deeper (dg w L')) (execs mrO (dg w L')) Q' E' s6:=by
  intro s6 Q' E' K6 S6 hq
  refine fU (fun s7=>Ex3 fun X' nn' Ns'=>An5 (Kp s s7) (St hb tabs L' ((Str.ofString "k2", .int e.b.2.2 u3)::(Str.ofString "j2", .int e.b.2.1 u2)::(Str.ofString "i2", .int e.b.1 u1)::nmM na b ti tj tk (nmG mbl q n m t1 t2 x)) ((na,ae (am Ns') nn')::(X'++T)) s7.heap) (NOk X' Ns') (b5 Ns'=b5 Ns+b.2.2) (Ns'.length≤Ns.length+1)) ?_ ?_
  ·refine isTrue_plain ?_
   refine ac S6 m4 ?_
   refine truthy_int ⟨fun hk=>?_,fun hk=>?_⟩
   ·refine aZ ?_
    refine aC ?_
    refine ac S6 m3 ?_
    refine ba S6 m0 PySem.F.slot_list_append type_list_append ?_
    refine ag ?_
    refine args_cons ?_
    refine aX ?_
    refine args_cons ?_
    refine ac S6 m6 ?_
    refine args_cons ?_
    refine ac S6 m5 ?_
    refine args_cons ?_
    refine ac S6 m4 ?_
    refine args_nil ?_
    refine⟨rfl,_,_,_,_,_,S6,?_⟩
    intro tt h_7 S7
    refine args_nil ?_
    refine aW 1 S7 rfl ?_ (by rw[aP];exact up 9000 hl)
    intro h_8 S8
    refine ax ?_
    refine⟨rfl,(tt,au [.int b.1 ti,.int b.2.1 tj,.int b.2.2 tk])::X,nn+1,Ns++[⟨tt,b⟩],⟨K6.os,K6.gens⟩,?_,?_,bM _ _,by simp⟩
    ·rw[cp]
     refine S8.perm ?_
     exact (List.perm_append_comm (l₁:=[(tt,au [.int b.1 ti,.int b.2.1 tj,.int b.2.2 tk])]) (l₂:=[(na,ae (am Ns++[Value.ref tt]) (nn+1))])).append_right (X++T)
    ·intro e' he'
     rcases List.mem_append.mp he' with z | z
     ·exact (hN.mono fun p hp=>.tail _ hp) e' z
     ·rw[List.mem_singleton] at z
      subst z
      exact⟨_,_,_,.head _⟩
   ·have hk0:b.2.2=0:=by simpa using hk
    refine ax ?_
    exact⟨rfl,X,nn,Ns,K6,S6,hN,by exact z07 hk0,by exact z08⟩
  ·rintro s7 ⟨X',nn',Ns',K7,S7,hN',hs',hl'⟩
   refine dY [Str.ofString "i1", Str.ofString "j1", Str.ofString "k1"] ?_
   refine args_cons ?_
   refine ac S7 m2 ?_
   refine args_cons ?_
   refine ac S7 m1 ?_
   refine args_cons ?_
   refine ac S7 m0 ?_
   refine args_nil ?_
   refine⟨rfl,rfl,hh,_,_,_,_,_,S7,?_⟩
   intro h_8 S8
   refine aU ?_
   refine af S8 (.old (.there (.there (.there (.there .here))))) ?_
   intro h_9 S9
   refine aU ?_
   refine af S9 (.old (.there (.there (.there (.there (.there .here)))))) ?_
   intro h_10 S10
   refine aU ?_
   refine af S10 (.old (.there (.there (.there (.there (.there (.there .here))))))) ?_
   intro h_11 S11
   refine eg ?_
   refine ax ?_
   exact hq _ ⟨X',nn',Ns',e.b,u1,u2,u3,⟨K7.os,K7.gens⟩,S11.forget (.cons _ (.cons _ (.cons _ (List.Sublist.refl _)))),hN',by exact z09 hs',hl'⟩
 refine cP ?_
 refine bw ?_
 refine wpAny_isTrue_Compare1 ?_
 refine wpAny_BinOp ?_
 refine ac S5 m6 ?_
 refine ac S5 m4 ?_
 refine add_int ?_
 refine ac S5 m2 ?_
 refine eq_int ?_
 refine wpAny_truthy_bool ⟨fun hb'=>?_,fun hb'=>⟨nofun,fun _=>?_⟩⟩
 ·refine bw ?_
  refine wpAny_isTrue_Compare1 ?_
  refine wpAny_BinOp ?_
  refine ac S5 m5 ?_
  refine ac S5 m4 ?_
  refine add_int ?_
  refine ac S5 m1 ?_
  refine eq_int ?_
  refine wpAny_truthy_bool ⟨fun hb'=>?_,fun hb'=>⟨nofun,fun _=>?_⟩⟩
  ·refine isTrue_and_nil ⟨fun _=>?_,nofun⟩
   refine pn ?_
   refine pf S5 m4 ?_
   refine ac S5 m0 ?_
   refine iadd_int ?_
   refine af S5 (.old (.there (.there (.there (.there .here))))) ?_
   intro h_6 S6
   refine ax ?_
   refine ax ?_
   have S7:=S6.forget (.cons _ (.cons _ (.cons _ (List.Sublist.refl _))))
   rw[← Int.natCast_add] at S7
   exact k _ X nn Ns (b.1,b.2.1,b.2.2+e.b.2.2) ti tj _ ⟨K5.os,K5.gens⟩ S7 hN (by show b5 Ns+(b.2.2+e.b.2.2)=_;exact z0a) (by exact z08)
  ·refine els _ ⟨K5.os,K5.gens⟩ S5 ?_
   rintro s' ⟨X',nn',Ns',b',ti',tj',tk',K',S',hN',hs',hl'⟩
   refine ax ?_
   exact k s' X' nn' Ns' b' ti' tj' tk' K' S' hN' hs' hl'
 ·refine els _ ⟨K5.os,K5.gens⟩ S5 ?_
  rintro s' ⟨X',nn',Ns',b',ti',tj',tk',K',S',hN',hs',hl'⟩
  refine ax ?_
  exact k s' X' nn' Ns' b' ti' tj' tk' K' S' hN' hs' hl'
end
end
section
theorem iD{α:Type}(l:List α)(d:α):(List.range l.length).map (fun i=>l.getD i d)=l:=by
 apply List.ext_getElem?
 intro i
 rw[List.getElem?_map]
 by_cases h:i<l.length
 ·rw[List.getElem?_range h];simp[h]
 ·rw[List.getElem?_eq_none (by rw[List.length_range];exact z0c h),List.getElem?_eq_none (by exact z0c h)];rfl
theorem jI{α:Type}{l:List α}{d:α}{p:Array Nat}(hp:Pm l.length p):(p.toList.map fun i=>l.getD i d).Perm l:=by
 have h:=(Array.perm_iff_toList_perm.mp hp).map (fun i=>l.getD i d)
 rw[List.toList_toArray,iD] at h
 exact h
theorem jH{α:Type}(f:α→Value){l:List α}{d:α}{v:Value}{p:Array Nat}(hp:Pm l.length p):(p.toList.map fun i=>(l.map f).getD i v)=(p.toList.map fun i=>l.getD i d).map f:=by
 rw[List.map_map]
 apply List.map_congr_left
 intro i hi
 have hlt:i<l.length:=by
  have:=(Array.perm_iff_toList_perm.mp hp).mem_iff.mp hi
  simpa using this
 simp[hlt]
theorem i7{l r:List Nat}(h:l.Perm r):ci l=ci r:=by
 induction h with
 | nil=>rfl
 | cons a _ ih=>show a+ci _=a+ci _;rw[ih]
 | swap a b l=>show b+(a+ci l)=a+(b+ci l);exact z0b
 | trans _ _ ih1 ih2=>rw[ih1,ih2]
section
variable{w:World}{A:Around}{E:VP}{s:Shared}{hb:Heap}{L' x dx q mbl na u:Addr}{T X:List (Addr×Obj)}{la lb:List Str}{nb nn:Nat}{Bs Ns:List Bk}{oq:Obj}{l:List (Str×Value)}
theorem lq(G:Gd (KN w.params) tabs hb)(hu:A.units+1<cLine)(S:St hb tabs L' l ((q,oq)::(mbl,ae (am Bs) nb)::T) s.heap)(hB:MOk T Bs)(h64:Bs.length<64){Q:VP}
  (k:∀ s' Bs' nb',Kp s s'→Bs'.Perm Bs→St hb tabs L' l ((q,oq)::(mbl,ae (am Bs') nb')::T) s'.heap→Q .none s'):wpAny (model pw w) A (call (.builtin "list.sort") [.ref mbl]) Q E s:=by
 by_cases h2:2≤Bs.length
 ·refine pa (pre:=[(q,oq)]) (post:=T) (Tt:=.ref 163) (H:=False) (rk:=fun _=>0) S (by rw[aP];exact h2) (by rw[aP];exact h64) ?_ rfl (by kernel_rfl) ?_ ?_
  ·intro v hv
   obtain⟨e,he,rfl⟩:=List.mem_map.mp hv
   obtain⟨dd,t1,t2,t3,hm⟩:=hB e he
   exact⟨e.a,_,rfl,List.mem_append_right _ hm,rfl⟩
  ·intro s' e1 K' S' i j hi hj C hC
   rw[aP] at hi hj
   have gi:(am Bs).getD i .none=.ref (Bs[i]).a:=by simp[am,hi]
   have gj:(am Bs).getD j .none=.ref (Bs[j]).a:=by simp[am,hj]
   obtain⟨dd,t1,t2,t3,hm⟩:=hB Bs[i] (List.getElem_mem hi)
   obtain⟨dd',u1,u2,u3,hm'⟩:=hB Bs[j] (List.getElem_mem hj)
   rw[gi,gj]
   exact gI hu G S' (List.mem_append_right _ (.tail _ hm)) (List.mem_append_right _ (.tail _ hm')) fun c tk=>hC c tk fun h=>h.elim
  ·intro s' n' p K' hp hs S'
   rw[aP] at hp
   have e:=jH (fun e:Bk=>Value.ref e.a) (d:=⟨0,(0,0,0)⟩) (v:=Value.none) hp
   refine k s' _ n' K' (jI (d:=⟨0,(0,0,0)⟩) hp) ?_
   have e2:(p.toList.map fun i=>(am Bs).getD i .none)=am (p.toList.map fun i=>Bs.getD i ⟨0,(0,0,0)⟩):=e
   rw[← e2];exact S'
 ·refine gD 1 S rfl (by rw[aP];exact z0d h2) fun h' n' S'=>?_
  exact k _ Bs n' ⟨rfl,id⟩ (List.Perm.refl _) S'
theorem nO(G:Gd (KN w.params) tabs hb)(hd:A.depth<recursionLimit)(hh:A.handled=none)(S:St hb tabs L' l T s.heap)(hna:(na,ae (am Ns) nn)∈T)(hN:NOk T Ns)(hl:Ns.length≤1000)(hu:(u,methodObj (.ref 117) (.ref 163))∈T){Q:VP}
  (k:∀ s' X lst Ms nb,Kp s s'→St hb tabs L' l ((lst,ae (am Ms) nb)::(X++T)) s'.heap→MOk X Ms→b5 Ms=b5 Ns→Ms.length=Ns.length→Q (.ref lst) s') :
  wpAny (model pw w) A (call (.type "map") [.ref u,.ref na]) (fun v s₁=>wpAny (model pw w) A (call (.type "list") [v]) Q E s₁) E s:=by
 refine r_map S hna ?_
 intro mp t it h_2 S_2
 have S_3:St hb tabs L' l (((mp,f6 t (.ref u))::(t,au [.ref it])::T)++[(it,gp na 0)]) h_2:=S_2.perm (by
  exact (List.Perm.cons _ (List.Perm.cons _ (List.perm_append_comm (l₁:=[(it,gp na 0)]) (l₂:=T)))))
 have hne:mp≠it:=fun e=>by
  have:=(List.nodup_cons.mp S_2.nd).2
  rw[e] at this
  simp at this
 refine az (by exact S_3) fun s3 K3 S_3=>?_
 replace K3:Kp s s3:=⟨K3.os,K3.gens⟩
 refine jv (n:=Ns.length) (J:=fun i acc T1=>Ex3 fun X Ms o=>An6 (T1=X++(((mp,f6 t (.ref u))::(t,au [.ref it])::T)++[(it,o)])) (bC o na i) (acc=am Ms) (MOk X Ms) (b5 Ms=b5 (Ns.take i)) (Ms.length=i))
  (Je:=fun acc T1=>Ex2 fun X Ms=>An5 (T1=X++((mp,f6 t (.ref u))::(t,au [.ref it])::T)) (acc=am Ms) (MOk X Ms) (b5 Ms=b5 Ns) (Ms.length=Ns.length)) S_3 (.head _) hl ⟨[],[],gp na 0,rfl,⟨rfl,rfl⟩,rfl,(fun e he=>(by cases he)),rfl,rfl⟩ ?_ ?_ ?_
 ·rintro D i acc T1 c s₁ E' hi hacc ⟨X,Ms,o,rfl,ho,rfl,hM,hs,hlen⟩ S4 K4
  have hx:(am Ns)[i]? = some (.ref (Ns[i]).a):=by simp[am,hi]
  obtain⟨v1,v2,v3,hem⟩:=hN Ns[i] (List.getElem_mem hi)
  rw[← List.append_assoc,← List.cons_append] at S4
  have hin:∀ p∈T,p∈((D,ae (am Ms) c)::(X++((mp,f6 t (.ref u))::(t,au [.ref it])::T)))++[(it,o)]:=fun p hp=>List.mem_append_left _ (.tail _ (List.mem_append_right _ (.tail _ (.tail _ hp))))
  refine k7 (mp:=mp) (t:=t) (f:=.ref u) (d:=na) (vs:=am Ns) (n:=nn) ((D,ae (am Ms) c)::(X++((mp,f6 t (.ref u))::(t,au [.ref it])::T))).length S4 (List.mem_append_left _ (.tail _ (List.mem_append_right _ (.head _)))) (List.mem_append_left _ (.tail _ (List.mem_append_right _ (.tail _ (.head _))))) (List.getElem?_concat_length ..) ho (hin _ hna) hx hne ?_
  intro h_5 o' E2 ho' S5
  rw[List.set_append_right _ _ (Nat.le_refl _),Nat.sub_self] at S5
  replace S5:St hb tabs L' l (((D,ae (am Ms) c)::(X++((mp,f6 t (.ref u))::(t,au [.ref it])::T)))++[(it,o')]) h_5:=S5
  rw[List.cons_append,List.append_assoc] at S5
  have hT5:∀ p∈T,p∈(D,ae (am Ms) c)::(X++(((mp,f6 t (.ref u))::(t,au [.ref it])::T)++[(it,o')])):=fun p hp=>.tail _ (List.mem_append_right _ (List.mem_append_left _ (.tail _ (.tail _ hp))))
  refine wpAny_call (method_call (S5.obj _ (hT5 _ hu)) ?_)
  refine qS G S5 hd (hT5 _ hem) ?_
  intro mm dd s6 K6 S6
  refine⟨.ref mm,((mm,moO dd [.int (Ns[i]).b.1 v1,.int (Ns[i]).b.2.1 v2,.int (Ns[i]).b.2.2 v3])::X)++(((mp,f6 t (.ref u))::(t,au [.ref it])::T)++[(it,o')]),rfl,⟨K6.os.trans K4.os,fun z=>K6.gens (K4.gens z)⟩,?_,⟨_,Ms++[⟨mm,(Ns[i]).b⟩],o',rfl,ho',(cp Ms ⟨mm,(Ns[i]).b⟩).symm,?_,?_,?_⟩⟩
  ·exact S6.perm (List.Perm.swap ..)
  ·intro e he
   rcases List.mem_append.mp he with z | z
   ·exact (hM.mono fun p hp=>.tail _ hp) e z
   ·rw[List.mem_singleton] at z
    subst z
    exact⟨_,_,_,_,.head _⟩
  ·rw[bM,List.take_add_one,List.getElem?_eq_getElem hi,hs]
   show _=b5 (Ns.take i++[Ns[i]])
   rw[bM]
  ·rw[List.length_append,hlen];rfl
 ·rintro D acc T1 c s₁ E' hacc ⟨X,Ms,o,rfl,ho,rfl,hM,hs,hlen⟩ S4 K4
  rw[← List.append_assoc,← List.cons_append] at S4
  refine nB (mp:=mp) (t:=t) (f:=.ref u) (d:=na) (vs:=am Ns) (n:=nn) 0 hh S4 (.tail _ (List.mem_append_right _ (.head _))) (.tail _ (List.mem_append_right _ (.tail _ (.head _)))) (by rw[aP];exact ho) (.tail _ (List.mem_append_right _ (.tail _ (.tail _ hna)))) ?_
  intro h_5 S5
  rw[List.take_length] at hs
  exact⟨rfl,⟨K4.os,K4.gens⟩,_,S5,X,Ms,rfl,rfl,hM,hs,hlen⟩
 ·rintro s' D acc T' c K' S' ⟨X,Ms,rfl,rfl,hM,hs,hlen⟩
  refine k s' X D Ms c ⟨K'.os.trans K3.os,fun z=>K'.gens (K3.gens z)⟩ ?_ hM hs hlen
  exact S'.sub (.cons_cons _ ((List.Sublist.refl X).append (.cons _ (List.sublist_cons_self _ _))))
end
end
section
section
variable{w:World}{A:Around}{E:VP}{s:Shared}{hb:Heap}{L L' x dx d2 sj:Addr}{T X:List (Addr×Obj)}{l:List (Str×Value)}{od o2:Obj}{va vb fc sp:Value}{la lb:List Str}{Ra Rb:List (Addr×Obj)}{led:Bool}{rows:List aM}{R:Result→Shared→Prop}{lst:Addr}
def mall(la lb:List Str):Nat:=mt la lb (0,la.length,0,lb.length)
theorem nC(la lb:List Str):mall la lb≤la.length:=by
 have:∀ f alo ahi blo bhi,gH la lb f alo ahi blo bhi≤ahi - alo:=by
  intro f
  induction f with
  | zero=>intro _ _ _ _;exact Nat.zero_le _
  | succ f ih =>
   intro alo ahi blo bhi
   rw[gH]
   split
   ·exact Nat.zero_le _
   ·rename_i hz
    have B:=bW la lb alo ahi blo bhi
    have h1:=B.lo
    have h2:=B.hi
    have hlt:alo<ahi:=by
     rcases Nat.lt_or_ge alo ahi with q | q
     ·exact q
     ·exact absurd (d6 (.inl q)) hz
    have h3:=Nat.max_eq_right (Nat.le_of_lt hlt)
    have a:=ih alo (flm la lb alo ahi blo bhi).1 blo (flm la lb alo ahi blo bhi).2.1
    have b:=ih ((flm la lb alo ahi blo bhi).1+(flm la lb alo ahi blo bhi).2.2) ahi ((flm la lb alo ahi blo bhi).2.1+(flm la lb alo ahi blo bhi).2.2) bhi
    exact z0e h1.1 h2.1 a b
 exact this _ _ _ _ _
theorem iO(G:Gd (KN w.params) tabs hb)(S:St hb tabs L l T s.heap)(hd:A.depth<recursionLimit)(hx:(x,smO dx)∈T)(hdx:(dx,od)∈T)(hf:aY od (mf va vb (.ref lst) fc (.ref d2) (.ref sj) sp))
  (k:∀ s',Kp s s'→St hb tabs L l T s'.heap→R (.ok (.ret (.ref lst))) s') :
  codeAny (model pw w) A (.call (.ref 231) ⟨[.ref x],[]⟩) R s:=by
 refine cc G S (qU _) (by exact hd) (binds:=[(Str.ofString "self", .ref x)]) (body:=ao (st2 pw 6 7)) (BindsTo.of_eq (by kernel_rfl)) ?_
 intro L' h_1 oL r S'
 refine c8 ?_
 refine cP ?_
 refine wpAny_isTrue_Compare1 ?_
 refine bg ?_
 refine ac S' m0 ?_
 refine aQ G S' (.tail _ hx) (.tail _ hdx) hf m4 ?_
 refine wpAny_Constant_none ?_
 refine isnot_none_ne (by intro x;cases x) ?_
 refine wpAny_truthy_bool ⟨fun _=>?_,nofun⟩
 refine b7 ?_
 refine bg ?_
 refine ac S' m0 ?_
 refine aQ G S' (.tail _ hx) (.tail _ hdx) hf m4 ?_
 exact k _ ⟨rfl,id⟩ (S'.leave 0 rfl r)
theorem gmb_c(G:Gd (KN w.params) tabs hb)(S:St hb tabs L l ((x,smO dx)::(dx,od)::T) s.heap)(hd:A.depth+4<recursionLimit)(hu:A.units+20<cLine)(hh:A.handled=none)(hf:aY od (mf va vb .none fc (.ref d2) (.ref sj) sp))
  (hd2:(d2,o2)∈T) (ho2:o2.IsDictOf (PySem.strKind pw w) (rows.map aM.kv)) (hrows:bB lb rows) (hob:∀ r∈rows,r.ob∈T) (hsj:(sj,bz led)∈T)
  (Va:SqV pw w hb tabs Ra va la) (Vb:SqV pw w hb tabs Rb vb lb) (hRa:∀ p∈Ra,p∈T) (hRb:∀ p∈Rb,p∈T)
  (k:∀ s' od' X lst Ms nb,Kp s s'→St hb tabs L l ((x,smO dx)::(dx,od')::((lst,ae (am Ms) nb)::X++T)) s'.heap→aY od' (mf va vb (.ref lst) fc (.ref d2) (.ref sj) sp)→MOk X Ms→b5 Ms=mall la lb→Ms.length≤100→R (.ok (.ret (.ref lst))) s') :
  codeAny (model pw w) A (.call (.ref 231) ⟨[.ref x],[]⟩) R s:=by
 have hsa:=Va.small
 have hsb:=Vb.small
 refine cc G S (qU _) (by exact dn 4 hd) (binds:=[(Str.ofString "self", .ref x)]) (body:=ao (st2 pw 6 7)) (BindsTo.of_eq (by kernel_rfl)) ?_
 intro L' h_1 oL r S'
 refine c8 ?_
 refine cP ?_
 refine wpAny_isTrue_Compare1 ?_
 refine bg ?_
 refine ac S' m0 ?_
 refine aQ G S' m1 m2 hf m4 ?_
 refine wpAny_Constant_none ?_
 refine isNot_none ?_
 refine wpAny_truthy_bool ⟨nofun,fun _=>?_⟩
 refine ax ?_
 refine dY [Str.ofString "la", Str.ofString "lb"] ?_
 refine args_cons ?_
 refine ap ?_
 refine ai G S' boot_len ?_
 refine ag ?_
 refine args_cons ?_
 refine bg ?_
 refine ac S' m0 ?_
 refine aQ G S' m1 m2 hf m1 ?_ (hv:=Va.hand)
 refine args_nil ?_
 refine Va.len S' (fun p hp=>.tail _ (.tail _ (.tail _ (hRa p hp)))) ?_
 intro t_1 tk_1
 refine args_cons ?_
 refine ap ?_
 refine ai G S' boot_len ?_
 refine ag ?_
 refine args_cons ?_
 refine bg ?_
 refine ac S' m0 ?_
 refine aQ G S' m1 m2 hf m2 ?_ (hv:=Vb.hand)
 refine args_nil ?_
 refine Vb.len S' (fun p hp=>.tail _ (.tail _ (.tail _ (hRb p hp)))) ?_
 intro t_2 tk_2
 refine args_nil ?_
 refine⟨rfl,rfl,hh,_,_,_,_,_,S',?_⟩
 intro h_2 S_2
 refine aU ?_
 refine af S_2 (.new (by kernel_rfl)) ?_
 intro h_3 S_3
 refine aU ?_
 refine af S_3 (.new (by kernel_rfl)) ?_
 intro h_4 S4
 refine eg ?_
 refine az (by exact S4) fun s4 K4 S4=>?_
 replace K4:Kp s s4:=⟨K4.os,K4.gens⟩
 refine ak ?_
 refine bc ?_
 refine args_cons ?_
 refine aX ?_
 refine args_cons ?_
 refine wpAny_Constant_int ?_
 refine args_cons ?_
 refine ac S4 m0 ?_
 refine args_cons ?_
 refine wpAny_Constant_int ?_
 refine args_cons ?_
 refine ac S4 m1 ?_
 refine args_nil ?_
 refine⟨rfl,_,_,_,_,_,S4,?_⟩
 intro t0 h_5 S5
 obtain⟨w1,w2,S5⟩:Ex2 fun w1 w2=>St hb tabs L' _ ((t0,au [.int 0 w1,.int la.length t_1,.int 0 w2,.int lb.length t_2])::(L,oL)::(x,smO dx)::(dx,od)::T) h_5:=⟨_,_,S5⟩
 refine args_nil ?_
 refine⟨rfl,_,_,_,_,_,S5,?_⟩
 intro q h_6 S6
 refine af S6 (.new (by kernel_rfl)) ?_
 intro h_7 S7
 refine ak ?_
 refine bc ?_
 refine args_nil ?_
 refine⟨rfl,_,_,_,_,_,S7,?_⟩
 intro mbl h_8 S8
 refine af S8 (.new (by kernel_rfl)) ?_
 intro h_9 S9
 refine az (by exact S9) fun s9 K9 S9=>?_
 replace K9:Kp s s9:=⟨K9.os.trans K4.os,fun z=>K9.gens (K4.gens z)⟩
 have S10:St hb tabs L' (nmG mbl q la.length lb.length t_1 t_2 x) ((q,ae (be [⟨t0,(0,la.length,0,lb.length)⟩]) 0)::(mbl,ae (am []) 0)::([(t0,au [.int 0 w1,.int la.length t_1,.int 0 w2,.int lb.length t_2])]++((L,oL)::(x,smO dx)::(dx,od)::T))) s9.heap :=
  S9.perm ((List.perm_append_comm (l₁:=[(mbl,ae [] 0)]) (l₂:=[(q,ae [.ref t0] 0)])).append_right _)
 refine jX (T:=(L,oL)::(x,smO dx)::(dx,od)::T) G (by exact dn 1 hd) hh m1 m2 hf (.tail _ (.tail _ (.tail _ hd2))) ho2 hrows (fun r hr=>.tail _ (.tail _ (.tail _ (hob r hr)))) (.tail _ (.tail _ (.tail _ hsj))) Va Vb (fun p hp=>.tail _ (.tail _ (.tail _ (hRa p hp)))) (fun p hp=>.tail _ (.tail _ (.tail _ (hRb p hp)))) S10 ?_ ⟨Nat.zero_le _,Nat.le_refl _,Nat.zero_le _,Nat.le_refl _⟩ ?_
 ·intro e he
  rw[List.mem_singleton] at he
  subst he
  exact⟨_,_,_,_,.head _⟩
 intro s11 X1 Bs nq nb K11 S11 hB hsum hlen
 replace K11:Kp s s11:=⟨K11.os.trans K9.os,fun z=>K11.gens (K9.gens z)⟩
 refine aZ ?_
 refine aC ?_
 refine ac S11 m0 ?_
 refine ba S11 m1 PySem.F.slot_list_sort PySem.F.type_list_sort ?_
 refine ag ?_
 refine args_nil ?_
 refine lq G (by show A.units+3+1<_;exact dn 16 hu) S11 (hB.toM.mono fun p hp=>List.mem_append_left _ hp) (by exact z0j hsa hlen) ?_
 intro s12 Bs' nb' K12 hperm S12
 replace K12:Kp s s12:=⟨K12.os.trans K11.os,fun z=>K12.gens (K11.gens z)⟩
 have hsum':b5 Bs'=mall la lb:=by
  rw[← show mt la lb (0,la.length,0,lb.length)=mall la lb from rfl,← hsum]
  exact i7 (hperm.map _)
 have hB':MOk X1 Bs':=fun e he=>hB.toM e (hperm.mem_iff.mp he)
 have hlen':Bs'.length≤60:=by rw[hperm.length_eq];exact z0k hsa hlen
 refine mL ?_
 refine wpAny_Constant_int ?_
 refine aT ?_
 refine af S12 (.new (by kernel_rfl)) ?_
 intro h13 S13
 refine aT ?_
 refine af S13 (.new (by kernel_rfl)) ?_
 intro h14 S14
 refine aT ?_
 refine af S14 (.new (by kernel_rfl)) ?_
 intro h15 S15
 refine ak ?_
 refine bc ?_
 refine args_nil ?_
 refine⟨rfl,_,_,_,_,_,S15,?_⟩
 intro na h16 S16
 refine af S16 (.new (by kernel_rfl)) ?_
 intro h17 S17
 rw[← Int.natCast_zero] at S17
 refine az (by exact S17) fun s17 K17 S17=>?_
 replace K17:Kp s s17:=⟨K17.os.trans K12.os,fun z=>K17.gens (K12.gens z)⟩
 refine el ?_
 refine ac S17 m4 ?_
 refine dI S17 m2 ?_
 intro I o Wt fp h_18 IV hown hw S18
 refine jY (own:=[(I,o)]) (Ro:=[(mbl,ae (am Bs') nb')]) (IV.walks (A.deeper _) hh) (fun i s v Q E h1 h2=>hown _ _ _ _ i s v Q E h1 h2) (fun i h hi b hb'=>by rw[List.mem_singleton] at hb';subst hb';exact IV.ex i h hi) rfl IV.ro S18 hw
  (fun t l₁ T1=>Ex7 fun b ti tj tk Ns X nn=>An5 (l₁=nmM na b ti tj tk (nmG mbl q la.length lb.length t_1 t_2 x)) (T1=(na,ae (am Ns) nn)::(X++((q,ae [] nq)::(mbl,ae (am Bs') nb')::(X1++((L,oL)::(x,smO dx)::(dx,od)::T))))) (NOk X Ns) (b5 Ns+b.2.2=b5 (Bs'.take t)) (Ns.length≤t)) ?_ (fun p hp=>by rw[List.mem_singleton] at hp;subst hp;exact m2) ?_ ?_
 ·exact⟨(0,0,0),_,_,_,[],[],0,rfl,rfl,(fun e he=>(by cases he)),rfl,Nat.le_refl _⟩
 ·rintro E1 t v l₁ T1 own1 s₁ ht hv ⟨b,ti,tj,tk,Ns,X,nn,rfl,rfl,hN,hs,hl⟩ S19 hRo hKp
  rw[aP] at ht
  have hv':v=.ref (Bs'[t]).a:=by
   have:(am Bs')[t]? = some (.ref (Bs'[t]).a):=by simp[am,ht]
   rw[this] at hv;exact (Option.some.inj hv).symm
  clear hv
  subst hv'
  refine iJ (b:=b) (ti:=ti) (tj:=tj) (tk:=tk) (nn:=nn) (n:=la.length) (m:=lb.length) (t1:=t_1) (t2:=t_2) (na:=na) (q:=q) (mbl:=mbl) (x:=x) (X:=X) (Ns:=Ns) (e:=Bs'[t]) (T:=((q,ae [] nq)::(mbl,ae (am Bs') nb')::(X1++((L,oL)::(x,smO dx)::(dx,od)::T)))++own1) G hh ?st hN ?he (by exact z0l hlen' ht hl) ?_ rfl
  case st =>
   rw[← List.append_assoc];exact S19
  case he =>
   intro e he
   rw[List.mem_singleton] at he
   subst he
   obtain⟨dd,u1,u2,u3,hm⟩:=hB' Bs'[t] (List.getElem_mem ht)
   exact⟨dd,u1,u2,u3,List.mem_append_left _ (.tail _ (.tail _ (List.mem_append_left _ hm)))⟩
  intro s' X' nn' Ns' b' ti' tj' tk' K' S' hN' hs' hl'
  refine⟨_,(na,ae (am Ns') nn')::(X'++((q,ae [] nq)::(mbl,ae (am Bs') nb')::(X1++((L,oL)::(x,smO dx)::(dx,od)::T)))),?_,⟨b',ti',tj',tk',Ns',X',nn',rfl,rfl,hN',?_,by exact z0m hl hl'⟩,?_,⟨K'.os.trans hKp.os,fun z=>K'.gens (hKp.gens z)⟩⟩
  ·rw[List.cons_append,List.append_assoc];exact S'
  ·rw[List.take_add_one,List.getElem?_eq_getElem ht]
   show _=b5 (Bs'.take t++[Bs'[t]])
   rw[bM];exact z0n hs hs'
  ·intro p hp
   rw[List.mem_singleton] at hp;subst hp
   exact .tail _ (List.mem_append_right _ m1)
 ·rintro s' l' T' hKp S19 ⟨b,ti,tj,tk,Ns,X,nn,rfl,rfl,hN,hs,hl⟩ hRo
  replace hKp:Kp s s':=⟨hKp.os.trans K17.os,fun z=>hKp.gens (K17.gens z)⟩
  rw[aP] at hs hl
  rw[List.take_length,hsum'] at hs
  refine fU (fun s_2=>Ex3 fun Ns X nn=>An5 (Kp s s_2) (St hb tabs L' (nmM na b ti tj tk (nmG mbl q la.length lb.length t_1 t_2 x)) ((na,ae (am Ns) nn)::(X++((q,ae [] nq)::(mbl,ae (am Bs') nb')::(X1++((L,oL)::(x,smO dx)::(dx,od)::T))))) s_2.heap) (NOk X Ns) (b5 Ns=mall la lb) (Ns.length≤61)) ?_ ?_
  ·refine isTrue_plain ?_
   refine ac S19 m1 ?_
   refine truthy_int ⟨fun hk=>?_,fun hk=>?_⟩
   ·refine aZ ?_
    refine aC ?_
    refine ac S19 m0 ?_
    refine ba S19 m0 PySem.F.slot_list_append type_list_append ?_
    refine ag ?_
    refine args_cons ?_
    refine aX ?_
    refine args_cons ?_
    refine ac S19 m3 ?_
    refine args_cons ?_
    refine ac S19 m2 ?_
    refine args_cons ?_
    refine ac S19 m1 ?_
    refine args_nil ?_
    refine⟨rfl,_,_,_,_,_,S19,?_⟩
    intro tt h20 S20
    refine args_nil ?_
    refine aW 1 S20 rfl ?_ (by rw[aP];exact z0o hlen' hl)
    intro h21 S21
    refine ax ?_
    refine⟨rfl,Ns++[⟨tt,b⟩],(tt,au [.int b.1 ti,.int b.2.1 tj,.int b.2.2 tk])::X,nn+1,⟨hKp.os,hKp.gens⟩,?_,?_,by rw[bM];exact hs,by simp;exact z0k hlen' hl⟩
    ·rw[cp]
     refine S21.perm ?_
     exact (List.perm_append_comm (l₁:=[(tt,au [.int b.1 ti,.int b.2.1 tj,.int b.2.2 tk])]) (l₂:=[(na,ae (am Ns++[Value.ref tt]) (nn+1))])).append_right _
    ·intro e' he'
     rcases List.mem_append.mp he' with z | z
     ·exact (hN.mono fun p hp=>.tail _ hp) e' z
     ·rw[List.mem_singleton] at z
      subst z
      exact⟨_,_,_,.head _⟩
   ·have hk0:b.2.2=0:=by simpa using hk
    refine ax ?_
    exact⟨rfl,Ns,X,nn,hKp,S19,hN,by lia,by exact z0q hlen' hl⟩
  ·rintro s_2 ⟨Ns,X,nn,K2,S_2,hN,hs,hl⟩
   refine aZ ?_
   refine aC ?_
   refine ac S_2 m0 ?_
   refine ba S_2 m0 PySem.F.slot_list_append type_list_append ?_
   refine ag ?_
   refine args_cons ?_
   refine aX ?_
   refine args_cons ?_
   refine ac S_2 m6 ?_
   refine args_cons ?_
   refine ac S_2 m7 ?_
   refine args_cons ?_
   refine wpAny_Constant_int ?_
   refine args_nil ?_
   refine⟨rfl,_,_,_,_,_,S_2,?_⟩
   intro tt h20 S20
   rw[← Int.natCast_zero] at S20
   obtain⟨w3,S20⟩:∃ w3,St hb tabs L' _ ((tt,au [.int la.length t_1,.int lb.length t_2,.int ((0:Nat):Int) w3])::(na,ae (am Ns) nn)::(X++((q,ae [] nq)::(mbl,ae (am Bs') nb')::(X1++((L,oL)::(x,smO dx)::(dx,od)::T))))) h20:=⟨_,S20⟩
   refine args_nil ?_
   refine aW 1 S20 rfl ?_ (by rw[aP];exact up 9939 hl)
   intro h21 S21
   have hN3:NOk ((tt,au [.int la.length t_1,.int lb.length t_2,.int ((0:Nat):Int) w3])::X) (Ns++[⟨tt,(la.length,lb.length,0)⟩]):=by
    intro e' he'
    rcases List.mem_append.mp he' with z | z
    ·exact (hN.mono fun p hp=>.tail _ hp) e' z
    ·rw[List.mem_singleton] at z
     subst z
     exact⟨_,_,_,.head _⟩
   have hs3:b5 (Ns++[⟨tt,(la.length,lb.length,0)⟩])=mall la lb:=by rw[bM];exact hs
   have e3:am (Ns++[⟨tt,(la.length,lb.length,0)⟩])=am Ns++[Value.ref tt]:=cp _ _
   have hl3:(Ns++[(⟨tt,(la.length,lb.length,0)⟩:Bk)]).length≤62:=by simp;exact hl
   replace S21:=S21.perm (T':=(na,ae (am Ns++[Value.ref tt]) (nn+1))::((((tt,au [.int la.length t_1,.int lb.length t_2,.int ((0:Nat):Int) w3])::X))++((q,ae [] nq)::(mbl,ae (am Bs') nb')::(X1++((L,oL)::(x,smO dx)::(dx,od)::T))))) (by
    exact (List.perm_append_comm (l₁:=[(tt,au [.int la.length t_1,.int lb.length t_2,.int ((0:Nat):Int) w3])]) (l₂:=[(na,ae (am Ns++[Value.ref tt]) (nn+1))])).append_right _)
   rw[← e3] at S21
   generalize (tt,au [.int la.length t_1,.int lb.length t_2,.int ((0:Nat):Int) w3])::X=X' at *
   generalize Ns++[(⟨tt,(la.length,lb.length,0)⟩:Bk)]=Ns' at *
   refine az (by exact S21) fun s21 K21 S21=>?_
   replace K21:Kp s s21:=⟨K21.os.trans K2.os,fun z=>K21.gens (K2.gens z)⟩
   refine bN ?_
   refine ap ?_
   refine ai G S21 boot_list ?_
   refine bb ?_
   refine args_cons ?_
   refine ap ?_
   refine ai G S21 boot_map ?_
   refine bb ?_
   refine args_cons ?_
   refine bg ?_
   refine aq G S21 (v:=.ref 163) (by kernel_rfl) ?_
   refine pe G S21 ?_
   intro u h22 S22
   refine args_cons ?_
   refine ac S22 m0 ?_
   refine args_nil ?_
   refine az (by exact S22) fun s22 K22 S22=>?_
   replace K22:Kp s s22:=⟨K22.os.trans K21.os,fun z=>K22.gens (K21.gens z)⟩
   refine wpAny_mono (E:=_) ?_ (fun v s' h=>args_nil h) (fun _ _ h=>h)
   refine nO (A:=A.deeper (dg w L')) (Ns:=Ns') (nn:=nn+1) G (by show A.depth+1<recursionLimit;exact dn 3 hd) hh S22 (.tail _ (.head _)) (hN3.mono fun p hp=>.tail _ (.tail _ (List.mem_append_left _ hp))) (by exact up 938 hl3) (.head _) ?_
   intro s23 X2 lst Ms nb2 K23 S23 hM hMs hMl
   replace K23:Kp s s23:=⟨K23.os.trans K22.os,fun z=>K23.gens (K22.gens z)⟩
   have S24:=S23.perm (T':=(x,smO dx)::(dx,od)::((L,oL)::(lst,ae (am Ms) nb2)::((X2++((u,methodObj (.ref 117) (.ref 163))::(na,ae (am Ns') (nn+1))::(X'++((q,ae [] nq)::(mbl,ae (am Bs') nb')::X1))))++T))) (by
    have e:((lst,ae (am Ms) nb2)::(X2++(u,methodObj (.ref 117) (.ref 163))::(na,ae (am Ns') (nn+1))::(X'++((q,ae [] nq)::(mbl,ae (am Bs') nb')::(X1++((L,oL)::(x,smO dx)::(dx,od)::T)))))) =
      ((lst,ae (am Ms) nb2)::(X2++(u,methodObj (.ref 117) (.ref 163))::(na,ae (am Ns') (nn+1))::(X'++((q,ae [] nq)::(mbl,ae (am Bs') nb')::X1))))++([(L,oL),(x,smO dx),(dx,od)]++T):=by
     simp only[List.append_assoc,List.cons_append,List.nil_append]
    rw[e]
    have e2:((x,smO dx)::(dx,od)::((L,oL)::(lst,ae (am Ms) nb2)::((X2++((u,methodObj (.ref 117) (.ref 163))::(na,ae (am Ns') (nn+1))::(X'++((q,ae [] nq)::(mbl,ae (am Bs') nb')::X1))))++T))) =
      ([(x,smO dx),(dx,od),(L,oL)]++((lst,ae (am Ms) nb2)::(X2++(u,methodObj (.ref 117) (.ref 163))::(na,ae (am Ns') (nn+1))::(X'++((q,ae [] nq)::(mbl,ae (am Bs') nb')::X1)))))++T:=by
     simp only[List.append_assoc,List.cons_append,List.nil_append]
    rw[e2,← List.append_assoc]
    refine List.Perm.append_right T ?_
    refine List.perm_append_comm.trans (List.Perm.append_right _ ?_)
    exact (List.perm_append_comm (l₁:=[(L,oL)]) (l₂:=[(x,smO dx),(dx,od)])))
   refine ac S24 m8 ?_
   refine aD (fl':=mf va vb (.ref lst) fc (.ref d2) (.ref sj) sp) 1 G S24 m0 rfl hf (.there (by kernel_rfl) (.there (by kernel_rfl) (.there (by kernel_rfl) (.there (by kernel_rfl) .here)))) ?_
   intro h25 od' S25 hf'
   refine b7 ?_
   refine bg ?_
   refine ac S25 m8 ?_
   refine aQ G S25 m0 m1 hf' m4 ?_
   refine k _ od' (X2++((u,methodObj (.ref 117) (.ref 163))::(na,ae (am Ns') (nn+1))::(X'++((q,ae [] nq)::(mbl,ae (am Bs') nb')::X1)))) lst Ms nb2 ⟨K23.os,K23.gens⟩ (S25.leave 2 rfl r) hf' ?_ (by exact z0v hs3 hMs) (by exact z0w hl3 hMl)
   intro e he
   obtain⟨dd,a,b,c,m⟩:=hM e he
   exact⟨dd,a,b,c,List.mem_append_left _ m⟩
end
end
section
def BM(hb:Heap):Prop:=Ex3 fun mg bm ob=>BMod hb mainGlobals mg bm ob
section
variable{hb h h':Heap}{tabs:List Addr}{L P:Addr}{l:List (Str×Value)}{T:List (Addr×Obj)}{wr:List Addr}
theorem St.tabGrown(S:St hb tabs L l T h)(hk:∀ b o,b≠P→h.get? b=some o→h'.get? b=some o)(hP:P∈tabs)
  (ht:Ex2 fun ps more=>An3 (hb.get? P=some (tableObj ps)) (h'.get? P=some (tableObj (ps++more))) (TriplesOk (ps++more).toList)):St hb tabs L l T h':=by
 have hlt:=S.tabLt hP
 obtain⟨oL,e,r⟩:=S.fm
 refine⟨⟨oL,hk _ _ (Nat.ne_of_gt (Nat.lt_of_lt_of_le hlt S.lnew)) e,r⟩,S.lnew,fun b o e hn=>hk b o (fun q=>hn (q▸hP)) (S.keep b o e hn),fun t htt=>?_,fun p hp=>hk _ _ (Nat.ne_of_gt (Nat.lt_of_lt_of_le hlt (S.new p hp))) (S.obj p hp),S.new,S.nd⟩
 by_cases q:t=P
 ·rw[q];exact ht
 ·obtain⟨ps,more,e1,e2,e3⟩:=S.tab t htt
  exact⟨ps,more,e1,hk _ _ q e2,e3⟩
theorem St.off(S:St hb tabs L l T h)(hw:∀ b∈wr,hb.objs.size≤b∧b∉L::T.map (·.1))(hk:∀ b o,b∉wr→h.get? b=some o→h'.get? b=some o):St hb tabs L l T h':=by
 obtain⟨oL,e,r⟩:=S.fm
 have gq:∀ b o,hb.get? b=some o→b∉wr:=fun b o e q=>absurd (Heap.lt_size e) (Nat.not_lt.mpr (hw b q).1)
 refine⟨⟨oL,hk _ _ (fun q=>(hw _ q).2 (.head _)) e,r⟩,S.lnew,fun b o e hn=>hk b o (gq b o e) (S.keep b o e hn),fun t ht=>?_,fun p hp=>hk _ _ (fun q=>(hw _ q).2 (.tail _ (List.mem_map.mpr ⟨p,hp,rfl⟩))) (S.obj p hp),S.new,S.nd⟩
 obtain⟨ps,more,e1,e2,e3⟩:=S.tab t ht
 exact⟨ps,more,e1,hk _ _ (gq _ _ e1) e2,e3⟩
end
section
variable{prog:Program}{w:World}{A:Around}{E:VP}{s:Shared}{K:Frag}{hb:Heap}{tabs:List Addr}{L c P:Addr}{l:List (Str×Value)}{T:List (Addr×Obj)}{env:Env}{oc:Obj}{vsc:Array Value}
theorem St.notTab(S:St hb tabs L l T s.heap){b:Addr}{o:Obj}(e:hb.get? b=some o)(hc:o.cls≠.none):b∉tabs:=fun q=>by
 obtain⟨ps,more,e1,_⟩:=S.tab b q
 rw[e] at e1
 cases e1
 exact hc rfl
theorem pk{Q:Addr→Shared→Prop}{r:Addr}(G:Gd K tabs hb)(B:BM hb)(S:St hb tabs L l T s.heap)(hg:env.globals=mainGlobals)(h:Q builtinsNs s):wpAny (model prog w) A (builtinsFor env.globals r) Q E s:=by
 obtain⟨mg,bm,ob,M⟩:=B
 rw[hg]
 exact wpAny_builtinsFor (S.oldNs M.ns G.n1) M.name M.ne (S.old M.obj (S.notTab M.obj (by rw[M.cls];exact nofun))) M.cls M.dict M.data h
def l8(vs:Array Value)(P:Addr):Prop :=
 Ex7 fun file tf flags tg inF text tt=>An6 (vs.getD 18 .none=.str file tf) (vs.getD 7 .none=.int flags tg) (vs.getD 9 .none=.bool inF) (vs.getD 10 .none=.int text tt) (vs.getD 11 .none=.ref P) (vs[11]? = some (.ref P))
theorem mI {Q:VP}{pos:Pos}{qualname:Str}{scope:Scope} (G:Gd K tabs hb) (S:St hb tabs L l T s.heap) (hcode:env.code=.ref c) (hK:K.lookup c=some oc) (hcls:oc.cls=.type "code") (hd:oc.data=.fields vsc) (hsh:l8 vsc P) (hP:P∈tabs)
  (h:∀ code h' tk,St hb tabs L l T h'→(∀ b o,b≠P→s.heap.get? b=some o→h'.get? b=some o)→s.heap.objs.size≤h'.objs.size→Q code (wht s h' tk)) :
  wpAny (model prog w) A (genexprCode env pos qualname scope) Q E s:=by
 obtain⟨ps,more,e1,e2,e3⟩:=S.tab P hP
 obtain⟨file,tf,flags,tg,inF,text,tt,h18,h7,h9,h10,h11,h11'⟩:=hsh
 have ho:=S.kin G c oc hK
 have hne:c≠P:=fun q=>by
  rw[q,e2] at ho
  cases ho
  cases hcls
 have hok:s.heap.IsCode c P (ps++more):=⟨oc,vsc,file,tf,flags,tg,inF,text,tt,_,ho,hd,h11,h18,h7,h9,h10,e2,rfl,e3,hne⟩
 cases hnf:codeAmong pos (ps++more).toList with
 | some cv =>
  unfold genexprCode codeAt
  rw[hcode,if_neg (show ¬ ((Value.ref c == Value.none)=true) from Bool.false_ne_true)]
  refine wpAny_bind (wpAny_fieldsOf ho hd ?_)
  rw[h11]
  refine wpAny_bind (wpAny_fieldsOf e2 rfl ?_)
  rw[hnf]
  exact wpAny_pure (h cv s.heap s.toks S (fun _ _ _ e=>e) (Nat.le_refl _))
 | none =>
  refine wpAny_genexprCodeX hcode hok ⟨⟨oc,vsc,ho,hcls,hd,h11'⟩,e2⟩ hnf fun c' h' tk hx hge hlt hok' _ htab' _=>?_
  refine h _ h' tk (S.tabGrown (P:=P) (fun b o hb' e=>hx b o hb' e) hP ⟨ps,more++#[rawInt pos.line,rawInt pos.col,.ref c'],e1,?_,?_⟩) (fun b o hb' e=>hx b o hb' e) (Nat.le_trans hge (Nat.le_of_lt hlt))
  ·rw[← Array.append_assoc];exact htab'.2
  ·rw[← Array.append_assoc,Array.toList_append]
   exact TriplesOk_snoc _ _ _ _ e3
end
section
variable{prog:Program}{w:World}{A:Around}{E:VP}{s:Shared}{K:Frag}{hb:Heap}{tabs:List Addr}{c P:Addr}{env:Env}{oc:Obj}{vsc:Array Value}
theorem d0(n:Nat):passing (fun _=>true) n 0=List.range n:=by
 unfold passing;rw[List.drop_zero];exact List.filter_eq_self.mpr fun _ _=>rfl
theorem kJ{elt iter:Expr}{x:Str}{px:Pos}{scope:Scope}{cl:List (Str×Addr)}{pos:Pos}{Q:VP}
  (G:Gd K tabs hb) (B:BM hb) (hh:A.handled=none) (hroom:A.depth<recursionLimit) (hcode:env.code=.ref c) (hK:K.lookup c=some oc) (hcls:oc.cls=.type "code") (hd:oc.data=.fields vsc) (hsh:l8 vsc P) (hP:P∈tabs) (hg:env.globals=mainGlobals)
  (h:wpAny (model prog w) A (eval iter env) (fun xv s₁=>Ex6 fun L l T d vs n=>∃ val:Nat→Int,An5 (xv=.ref d) (St hb tabs L l T s₁.heap) ((d,ae vs n)∈T) ((∀ (A':Around) E' i v C code bi (s_2:Shared) m_2,A'.handled=none→vs[i]? = some v→K.In s_2.heap→(∀ p∈T,s_2.heap.get? p.1=some p.2)→s_2.heap.Ns C m_2→m_2 x=some v →
    wpAny (model prog w) A' (eval elt (genEnv scope cl C code bi env)) (fun y s3=>(∃ t,y=.int (val i) t)∧Keeps s_2 s3) E' s_2)) ((∀ s' t',Kp s₁ s'→St hb tabs L l T s'.heap→Q (.int (preSum val vs.length) t') s'))) E s)
  (hco:scope.isCoroutine=false) (hclos:closureFor scope env=pure cl) (hcell:∀ y∈scope.names,y.2≠.cell) (h0:scope.names.lookup (".0" : Str)=some NameKind.local)
  (hx:scope.names.lookup x=some .local) (hkind:scope.kind=.function) (hs:∀ x,genFold iter env x=pure x) :
  wpAny (model prog w) A (eval (.GeneratorExp elt [⟨.Name x px,iter,[],0⟩] scope pos) env) (fun v s₁=>wpAny (model prog w) A (call (.builtin "sum") [v]) Q E s₁) E s:=by
 refine wpAny_GeneratorExp_walksQ hh hco hclos hcell h0 hx hkind hroom (wpAny_mono h (fun xv s₁ z=>?_) fun _ _ e=>e) hs
 obtain⟨L,l,T,d,vs,n,val,rfl,S,hm,hel,hQ⟩:=z
 have hl:s₁.heap.IsList d vs.toArray:=⟨_,S.obj _ hm,rfl,n,rfl⟩
 have hlt:d<s₁.heap.objs.size:=S.lt hm
 have S_1:=S.push { cls:=.type "list_iterator", data:=.fields #[.ref d,.int 0 0] }
 refine wpAny_pyIter_list hl ⟨St.lim (s:={ s₁ with heap:=s₁.heap.push { cls:=.type "list_iterator", data:=.fields #[.ref d,.int 0 0] } }) S_1 G,?_⟩
 refine mI (s:={ s₁ with heap:=s₁.heap.push { cls:=.type "list_iterator", data:=.fields #[.ref d,.int 0 0] } }) G S_1 hcode hK hcls hd hsh hP fun code h_3 tk_3 S_3 hk3 hsz3=>?_
 refine pk (s:=(wht s₁ h_3 tk_3)) G B S_3 hg ?_
 have hIlt:s₁.heap.objs.size<h_3.objs.size:=S_3.lt (.head _)
 have hdlt:d<h_3.objs.size:=Nat.lt_trans hlt hIlt
 have hI:hb.objs.size≤s₁.heap.objs.size:=S_3.new _ (.head _)
 have ndI:=(List.nodup_cons.mp (List.nodup_cons.mp S_3.nd).2).1
 have hLI:L≠s₁.heap.objs.size:=fun q=>(List.nodup_cons.mp S_3.nd).1 (by rw[q];exact .head _)
 have hTI:∀ p∈T,p.1≠s₁.heap.objs.size:=fun p hp q=>ndI (List.mem_map.mpr ⟨p,hp,q⟩)
 refine⟨s₁.heap.objs.size,[s₁.heap.objs.size,d],[s₁.heap.objs.size],vs.toArray.size,_,_,fun _=>true,fun i v=>∃ t,v=.int (val i) t,rfl,
  (fun A' hA=>Walks.list hA _ _ (Nat.ne_of_lt hlt) vs.toArray),⟨⟨_,S_3.obj _ (.head _),rfl,rfl⟩,⟨_,S_3.obj _ (.tail _ hm),rfl,n,rfl⟩⟩,?_,St.lim (s:=(wht s₁ h_3 tk_3)) S_3 G,?_,?_,?_⟩
 ·intro b hb'
  rcases List.mem_cons.mp hb' with rfl | hb'
  ·exact hIlt
  ·rw[List.mem_singleton] at hb';subst hb';exact hdlt
 ·intro q
  rw[List.mem_singleton] at q
  obtain⟨_,hn,_⟩:=G.lim
  exact Nat.lt_irrefl _ (Nat.lt_of_lt_of_le (q▸hn.lt) hI)
 ·intro href hhref
  refine⟨fun A' E' i v s_2 m_2 hA hPi hn hm' hk=>?_,fun A' E' i v s_2 m_2 hA hPi hpz hn hm' hk=>?_⟩
  ·rw[List.forIn_nil]
   exact wpAny_pure ⟨rfl,_,_,rfl,fun _ _ e=>e⟩
  ·refine hel A' E' i v _ code _ s_2 m_2 hA (by simpa using hPi) (fun a o e=>?_) (fun p hp=>?_) hn hm'
   ·have e1:=S_3.kin (s:=(wht s₁ h_3 tk_3)) G a o e
    have:a<hb.objs.size:=Heap.lt_size (G.k a o e)
    exact hk a (List.mem_range.mpr (Heap.lt_size e1)) (fun q=>by rw[List.mem_singleton] at q;exact Nat.lt_irrefl _ (Nat.lt_of_lt_of_le (q▸this) hI)) o (hhref a o e1)
   ·have e1:=S_3.obj p (.tail _ hp)
    exact hk p.1 (List.mem_range.mpr (Heap.lt_size e1)) (fun q=>by rw[List.mem_singleton] at q;exact hTI p hp q) _ (hhref _ _ e1)
 ·intro a h_5 tk gs hgb hag hsz5 hk5 W hat
  have W1:=W.in4_1
  have S5:St hb tabs L l T h_5:=(S_3.sub (List.sublist_cons_self _ _)).off (wr:=[]) (fun b q=>by cases q) (fun b o _ e=>hk5 b o e)
  refine call_sum_walkAnyS (W1.self 0 _ _ _ hat ⟨a,_,_,_,_,_,_,val,rfl,W1,hat,?_,?_,fun s' t' hmv=>?_⟩)
  ·intro b hb'
   show b<h_5.objs.size
   rw[hsz5]
   rcases List.mem_cons.mp hb' with rfl | hb'
   ·exact Nat.lt_succ_self _
   ·rcases List.mem_cons.mp hb' with rfl | hb'
    ·exact Nat.lt_succ_of_lt hag
    ·exact Nat.lt_succ_of_lt (Nat.lt_trans (List.mem_range.mp hb') hag)
  ·rintro j v ⟨i,hi,t,rfl⟩
   rw[d0,List.getElem?_eq_some_iff] at hi
   obtain⟨hj,e⟩:=hi
   rw[List.getElem_range] at e
   subst e
   exact⟨t,rfl⟩
  ·rw[d0,List.length_range,List.size_toArray]
   refine hQ s' t' ⟨hmv.os,fun z=>(AllBare.push z hgb).moved hmv.gens⟩ (S5.off (wr:=[h_3.objs.size,s₁.heap.objs.size]) (fun b hb'=>?_) (fun b o hb' e=>hmv.heap b o hb' e))
   rcases List.mem_cons.mp hb' with rfl | hb'
   ·refine⟨Nat.le_trans hI (Nat.le_of_lt hIlt),fun q=>?_⟩
    rcases List.mem_cons.mp q with q | q
    ·have:=S_3.fm.lt;exact Nat.lt_irrefl _ (q▸this)
    ·obtain⟨p,hp,e⟩:=List.mem_map.mp q
     have:=S_3.lt (p:=p) (.tail _ hp)
     exact Nat.lt_irrefl _ (e▸this)
   ·rw[List.mem_singleton] at hb'
    subst hb'
    refine⟨hI,fun q=>?_⟩
    rcases List.mem_cons.mp q with q | q
    ·exact hLI q.symm
    ·obtain⟨p,hp,e⟩:=List.mem_map.mp q
     exact hTI p hp e
end
end
section
end
section
theorem lz:bootBuiltins (Str.ofString "sum")=some (.builtin "sum"):=by decide +kernel
theorem sumI(l:List Bk):(l.map fun e=>(e.b.2.2:Int)).sum=(b5 l:Int):=by
 induction l with
 | nil=>rfl
 | cons e l ih =>
  rw[List.map_cons,List.sum_cons,ih]
  show _=((e.b.2.2+b5 l:Nat):Int)
  exact z0x
theorem kX {M:Model}{h:Heap}{w:World} (X:(KN w.params).In h):Looks M h (isSubtype (.ref 163) (.type "collections.deque")) false:=looks_mroIn X (by kernel_rfl)
theorem nx{w:World}{A:Around}{E:VP}{s:Shared}{m dd:Addr}{a b c:Value}{t:Tok}{Q:VP}{value slice:Expr}(X:(KN w.params).In s.heap)(hm:s.heap.get? m=some (moO dd [a,b,c]))(h:Q c s)
  (hs:subscripted slice false (.ref m) (.int (-1) t)=operate [.ref m,.int (-1) t] (getItem (.ref m) (.int (-1) t)):=by with_unfolding_all rfl):wpAny (model pw w) A (subscriptTail value slice (.ref m) (.int (-1) t)) Q E s:=by
 have t1:Looks (model pw w) s.heap (typeOf (.ref m)) (.ref 163):=(Looks.ld hm).andThen .now
 have t2:Looks (model pw w) s.heap (isInstance (.ref m) (.type "tuple")) true:=t1.andThen (eD X)
 have t3:Looks (model pw w) s.heap (specialOf (.ref m) "__getitem__") (some (.builtin "tuple.__getitem__")):=t1.andThen (looks_findIn X (iI w))
 have hg:wpAny (model pw w) A (getItem (.ref m) (.int (-1) t)) Q E s:=by
  unfold getItem
  try with_reducible refine wpAny_holding ?_
  first | refine wpAny_bind (wpAny_pure ?_) | skip
  refine wpAny_bind (m:=sequenceKey _ _ _) ?_
  unfold sequenceKey
  refine wpAny_bind (t1.here ?_)
  show wpAny _ _ (seqItemTypes.anyM (fun n=>isSubtype (.ref 163) (.type n)) >>= _) _ _ s
  refine wpAny_bind ?_
  show wpAny _ _ (isSubtype (.ref 163) (.type "collections.deque") >>= _) _ _ s
  refine wpAny_bind ((kX X).here ?_)
  refine wpAny_pure ?_
  refine wpAny_pure ?_
  refine wpAny_bind (m:=callSpecial? (.ref m) (Str.ofString "__getitem__") _ _) ?_
  simp only[callSpecial?]
  refine wpAny_bind (t3.here (wpAny_holding ?_))
  rw[PySem.F.slot_tuple_getitem.bind]
  refine wpAny_bind (wpAny_pure ?_)
  refine wpAny_bind (wpAny_call (codeAny_call_builtin kA PySem.F.entry_tuple_getitem (@check_slot (model pw w) _ _ _ "tuple.__getitem__" "tuple" "__getitem__" (.ref m) [.int (-1) t] [] _ mr kz t2 (PySem.F.args_tuple_getitem_2 _ _) ?_)))
  show wpAny _ _ (Builtin.Tuple.tupleItemsOf (.ref m) >>= _) _ _ s
  refine wpAny_bind (wpAny_bind (wpAny_seqItems hm rfl (wpAny_pure ?_)))
  refine wpAny_bind (wpAny_typeOf (typeIs_int s _ _) ?_)
  rw[if_neg (by decide)]
  refine wpAny_bind (wpAny_specialOf (T := "int") (typeIs_int s _ _) int_index ?_)
  rw[if_neg (by simp)]
  refine wpAny_bind (wpAny_of_eq (a:=(-1:Int)) rfl ?_)
  rw[if_neg (by decide)]
  refine wpAny_pure (wpAny_pure ?_)
  exact wpAny_pure h
 unfold subscriptTail
 refine wpAny_bind ?_
 unfold getitemInPython
 refine wpAny_bind (t3.here ?_)
 refine wpAny_pure ?_
 refine wpAny_bind ?_
 rw[hs]
 exact wpAny_operating (wpAny_mono hg (fun r s3 h_3=>wpAny_bind (wpAny_letTemporaryGo (wpAny_pure h_3))) fun _ _ x=>x)
section
variable{w:World}{A:Around}{E:VP}{s:Shared}{hb:Heap}{L x dx d2 sj:Addr}{T:List (Addr×Obj)}{l:List (Str×Value)}{va vb fc sp:Value}{la lb:List Str}{Ra Rb:List (Addr×Obj)}{R:Result→Shared→Prop}
theorem bD{α:Type}{M:Model}{A:Around}{E:VP}{s:Shared}{hb:Heap}{tabs:List Addr}{L:Addr}{l:List (Str×Value)}{T:List (Addr×Obj)}{t:Sem α}{Q:α→Shared→Prop}(S:St hb tabs L l T s.heap)(h:∀ s',Kp s s'→s.toks≤s'.toks→St hb tabs L l T s'.heap→wpAny M A t Q E s'):wpAny M A t Q E s:=h s Kp.refl (Nat.le_refl _) S
theorem jq{P:List (Addr×Obj)→Obj→Addr→Prop}(G:Gd (KN w.params) tabs hb)(B:BM hb)(S:St hb tabs L l T s.heap)(hd:A.depth+2<recursionLimit)(hh:A.handled=none)(hx:(x,smO dx)∈T){od:Obj}{mb:Value}(hdx:(dx,od)∈T)(hf:aY od (mf va vb mb fc (.ref d2) (.ref sj) sp))
  (Va:SqV pw w hb tabs Ra va la) (Vb:SqV pw w hb tabs Rb vb lb)
  (hcall:∀ (A':Around) s₁ L' l' oL (R':Result→Shared→Prop),A'.depth=A.depth+1→A'.units≤A.units+10→A'.handled=none→St hb tabs L' l' ((L,oL)::T) s₁.heap →
   (∀ s' T' lst od',Kp s₁ s'→St hb tabs L' l' ((L,oL)::T') s'.heap→P T' od' lst→R' (.ok (.ret (.ref lst))) s')→codeAny (model pw w) A' (.call (.ref 231) ⟨[.ref x],[]⟩) R' s₁)
  (hP:∀ T' od' lst,P T' od' lst→Ex2 fun Ms nb=>An9 ((x,smO dx)∈T') ((dx,od')∈T') (aY od' (mf va vb (.ref lst) fc (.ref d2) (.ref sj) sp)) ((lst,ae (am Ms) nb)∈T') (MOk T' Ms) (b5 Ms=mall la lb) (Ms.length≤100) ((∀ p∈Ra,p∈T')) (∀ p∈Rb,p∈T'))
  (k:∀ s' T' od' lst t,s.toks≤t→t<s'.toks→Kp s s'→St hb tabs L l T' s'.heap→P T' od' lst→R (.ok (.ret (.float (share (mall la lb) (la.length+lb.length)) t))) s') :
  codeAny (model pw w) A (.call (.ref 253) ⟨[.ref x],[]⟩) R s:=by
 refine cc G S (lk253 _) (by exact dn 2 hd) (binds:=[(Str.ofString "self", .ref x)]) (body:=ao (st2 pw 6 10)) (BindsTo.of_eq (by kernel_rfl)) ?_
 intro L' h_1 oL r S'
 refine c8 ?_
 refine ak ?_
 refine wpAny_with_toks (n:=s.toks) (by simp only[List.length_cons,List.length_nil];exact z0z) ?_
 refine ap ?_
 refine ai G S' lz ?_
 refine ag ?_
 refine args_cons ?_
 refine wpAny_mono (E:=_) ?_ (fun v s' h=>args_nil h) (fun _ _ h=>h)
 refine kJ (cl:=[]) G B hh (by show A.depth+1<_;exact dn 1 hd) (c:=252) rfl (oc:=mV w.params) (by kernel_rfl) rfl rfl ⟨_,_,_,_,_,_,_,rfl,rfl,rfl,rfl,rfl,rfl⟩ (.head _) rfl ?_ rfl rfl (by decide) rfl rfl rfl (fun _=>rfl)
 refine aC ?_
 refine ac S' m0 ?_
 refine bA (f:=231) G S' (.tail _ hx) (.tail _ hdx) hf ?_
 refine aN G ?_
 refine args_nil ?_
 refine⟨⟨_,_,_,S'⟩,?_⟩
 refine hcall _ _ L' _ oL _ rfl (by show A.units+3≤_;exact z11) hh (by exact S') ?_
 intro s_2 T' lst od' K2 S_2 hPT
 obtain⟨Ms,nb,hx',hdx',hf',hl',hM,hsum,hlen,hRa,hRb⟩:=hP _ _ _ hPT
 refine⟨L',_,(L,oL)::T',lst,am Ms,nb,fun i=>(Ms.map fun e=>(e.b.2.2:Int)).getD i 0,rfl,S_2,.tail _ hl',?_,?_⟩
 ·intro A' E' i v C code bi s3 m_2 hA' hi X hT hn hm
  refine Subscript_ ?_
  refine wpAny_Name (wpAny_loadName_local rfl rfl hn hm ?_) rfl
  refine wpAny_UnaryOp ?_
  refine wpAny_Constant_int ?_
  refine neg_int ?_
  have hv:∃ e,Ms[i]? = some e∧v=.ref e.a:=by
   rw[am,List.getElem?_map] at hi
   obtain⟨e,h1,h2⟩:=Option.map_eq_some_iff.mp hi
   exact⟨e,h1,h2.symm⟩
  obtain⟨e,he,rfl⟩:=hv
  obtain⟨dd,u1,u2,u3,hme⟩:=hM e (List.mem_of_getElem? he)
  refine nx X (hT _ (.tail _ hme)) ⟨⟨u3,?_⟩,_,_,rfl,fun _ _ e=>e⟩
  simp[he]
 intro s3 t_3 K3 S_3
 rw[preSum_getD,aP,show Ms.length=(Ms.map fun e=>(e.b.2.2:Int)).length from (List.length_map ..).symm,List.take_length,sumI,hsum] at *
 replace K3:Kp s s3:=⟨K3.os.trans K2.os,fun z=>K3.gens (K2.gens z)⟩
 intro hk3
 refine af S_3 (.new (by kernel_rfl)) ?_
 intro h_4 S4
 refine bD (by exact S4) fun s4 K4 hk4 S4=>?_
 replace K4:Kp s s4:=⟨K4.os.trans K3.os,fun z=>K4.gens (K3.gens z)⟩
 refine b7 ?_
 refine ap ?_
 refine aq G S4 (v:=.ref 173) (by kernel_rfl) ?_
 refine aN G ?_
 refine wpAny_with_toks (n:=s.toks) (by simp only at hk4;exact z12 hk3 hk4) ?_
 refine args_cons ?_
 refine ac S4 m0 ?_
 refine args_cons ?_
 refine wpAny_BinOp ?_
 refine ap ?_
 refine ai G S4 boot_len ?_
 refine ag ?_
 refine args_cons ?_
 refine bg ?_
 refine ac S4 m1 ?_
 refine aQ G S4 (.tail _ hx') (.tail _ hdx') hf' m1 ?_ (hv:=Va.hand)
 refine args_nil ?_
 refine Va.len S4 (fun p hp=>.tail _ (hRa p hp)) ?_
 intro t_5 tk5
 refine ap ?_
 refine ai G S4 boot_len ?_
 refine ag ?_
 refine args_cons ?_
 refine bg ?_
 refine ac S4 m1 ?_
 refine aQ G S4 (.tail _ hx') (.tail _ hdx') hf' m2 ?_ (hv:=Vb.hand)
 refine args_nil ?_
 refine Vb.len S4 (fun p hp=>.tail _ (hRb p hp)) ?_
 intro t_6 tk6
 refine add_int ?_
 refine args_nil ?_
 intro hk5
 refine⟨⟨_,_,_,S4⟩,?_⟩
 have ha:=Va.small
 have hb':=Vb.small
 have hm:=nC la lb
 refine ee (A:=A.deeper (callEnv (rv w.params) L' 253)) (m:=(mall la lb:Int)) (n:=(la.length:Int)+(lb.length:Int)) G (by exact S4) (by show A.depth+1<_;exact dn 1 hd) (by exact z13) (by exact z14 ha hm) (by exact z15) (by exact z16 ha hb') ?_
 intro h_7 tk7 t_7 ht1 ht2 S7
 exact k _ T' od' lst _ (Nat.le_trans hk5 ht1) ht2 ⟨K4.os,K4.gens⟩ (S7.leave 0 rfl r) hPT
end
end
section
section
variable{w:World}{A:Around}{E:VP}{s:Shared}{hb:Heap}{L x dx d2 sj:Addr}{T:List (Addr×Obj)}{l:List (Str×Value)}{va vb fc sp mb:Value}{la lb:List Str}{Ra Rb:List (Addr×Obj)}{R:Result→Shared→Prop}{od o2:Obj}{rows:List aM}{led:Bool}
def kj(T:List (Addr×Obj))(mb:Value)(la lb:List Str):Prop:=mb=.none∨Ex3 fun lst Ms nb=>An5 (mb=.ref lst) ((lst,ae (am Ms) nb)∈T) (MOk T Ms) (b5 Ms=mall la lb) (Ms.length≤100)
theorem kj.mono{T T':List (Addr×Obj)}{mb:Value}(h:kj T mb la lb)(hs:∀ p∈T,p∈T'):kj T' mb la lb:=by
 rcases h with h | ⟨lst,Ms,nb,a,b,c,d,e⟩
 ·exact .inl h
 ·exact .inr ⟨lst,Ms,nb,a,hs _ b,c.mono hs,d,e⟩
theorem eR{T₀:List (Addr×Obj)}(hT0:∀ p∈T₀,p∈T){r:Addr×Obj}(G:Gd (KN w.params) tabs hb)(B:BM hb)(S:St hb tabs L l ((x,smO dx)::(dx,od)::r::T) s.heap)(hd:A.depth+6<recursionLimit)(hu:A.units+40<cLine)(hh:A.handled=none)(hf:aY od (mf va vb mb fc (.ref d2) (.ref sj) sp))(hmb:kj T₀ mb la lb)
  (hd2:(d2,o2)∈T) (ho2:o2.IsDictOf (PySem.strKind pw w) (rows.map aM.kv)) (hrows:bB lb rows) (hob:∀ r∈rows,r.ob∈T) (hsj:(sj,bz led)∈T)
  (Va:SqV pw w hb tabs Ra va la) (Vb:SqV pw w hb tabs Rb vb lb) (hRa:∀ p∈Ra,p∈T) (hRb:∀ p∈Rb,p∈T)
  (k:∀ s' od' X mb' t,s.toks≤t→t<s'.toks→Kp s s'→St hb tabs L l ((x,smO dx)::(dx,od')::r::(X++T)) s'.heap→aY od' (mf va vb mb' fc (.ref d2) (.ref sj) sp)→kj (X++T₀) mb' la lb→R (.ok (.ret (.float (share (mall la lb) (la.length+lb.length)) t))) s') :
  codeAny (model pw w) A (.call (.ref 253) ⟨[.ref x],[]⟩) R s:=by
 refine jq (Ra:=Ra) (Rb:=Rb) (P:=fun T' od' lst=>Ex3 fun X Ms nb=>An6 (T'=(x,smO dx)::(dx,od')::r::(X++T)) (aY od' (mf va vb (.ref lst) fc (.ref d2) (.ref sj) sp)) ((lst,ae (am Ms) nb)∈X++T₀) (MOk (X++T₀) Ms) (b5 Ms=mall la lb) (Ms.length≤100)) G B S (by exact dn 4 hd) hh m0 m1 hf Va Vb ?_ ?_ ?_
 ·intro A' s₁ L' l' oL R' hd' hu' hh' S_1 k'
  have S_2:=S_1.perm (T':=(x,smO dx)::(dx,od)::((L,oL)::r::T)) ((List.perm_append_comm (l₁:=[(L,oL)]) (l₂:=[(x,smO dx),(dx,od)])).append_right (r::T))
  rcases hmb with rfl | ⟨lst,Ms,nb,rfl,h1,h2,h3,h4⟩
  ·refine gmb_c G S_2 (by exact z18 hd hd') (by exact z19 hu hu') hh' hf (.tail _ (.tail _ hd2)) ho2 hrows (fun r hr=>.tail _ (.tail _ (hob r hr))) (.tail _ (.tail _ hsj)) Va Vb (fun p hp=>.tail _ (.tail _ (hRa p hp))) (fun p hp=>.tail _ (.tail _ (hRb p hp))) ?_
   intro s' od' X lst Ms nb K S_3 hf' hM hs hl
   have S4:=S_3.perm (T':=(L,oL)::((x,smO dx)::(dx,od')::r::(((lst,ae (am Ms) nb)::X)++T))) (by
    have e:(x,smO dx)::(dx,od')::((lst,ae (am Ms) nb)::X++((L,oL)::r::T))=((x,smO dx)::(dx,od')::(lst,ae (am Ms) nb)::X)++((L,oL)::r::T):=by simp
    rw[e]
    exact List.perm_middle.trans (List.Perm.cons _ (List.Perm.cons _ (List.Perm.cons _ List.perm_middle))))
   exact k' s' _ lst od' K S4 ⟨(lst,ae (am Ms) nb)::X,Ms,nb,rfl,hf',.head _,hM.mono fun p hp=>.tail _ (List.mem_append_left _ hp),hs,hl⟩
  ·refine iO (va:=va) (vb:=vb) (fc:=fc) (d2:=d2) (sj:=sj) (sp:=sp) (lst:=lst) G S_2 (by exact z1a hd hd') m0 m1 hf ?_
   intro s' K S_3
   have S4:=S_3.perm (T':=(L,oL)::((x,smO dx)::(dx,od)::r::([]++T))) (by
    rw[List.nil_append]
    exact (List.perm_append_comm (l₁:=[(x,smO dx),(dx,od)]) (l₂:=[(L,oL)])).append_right (r::T))
   exact k' s' _ lst od K S4 ⟨[],Ms,nb,rfl,hf,h1,h2,h3,h4⟩
 ·rintro T' od' lst ⟨X,Ms,nb,rfl,hf',h1,h2,h3,h4⟩
  have up:∀ p,p∈X++T₀→p∈X++T:=fun p hp=>by
   rcases List.mem_append.mp hp with q | q
   ·exact List.mem_append_left _ q
   ·exact List.mem_append_right _ (hT0 _ q)
  replace h1:=up _ h1
  replace h2:=h2.mono up
  exact⟨Ms,nb,m0,m1,hf',.tail _ (.tail _ (.tail _ h1)),h2.mono fun p hp=>.tail _ (.tail _ (.tail _ hp)),h3,h4,fun p hp=>.tail _ (.tail _ (.tail _ (List.mem_append_right _ (hRa p hp)))),fun p hp=>.tail _ (.tail _ (.tail _ (List.mem_append_right _ (hRb p hp))))⟩
 ·rintro s' T' od' lst t ht1 ht2 K S' ⟨X,Ms,nb,rfl,hf',h1,h2,h3,h4⟩
  exact k s' od' X (.ref lst) t ht1 ht2 K S' hf' (.inr ⟨lst,Ms,nb,rfl,h1,h2,h3,h4⟩)
end
end
section
abbrev aj(p:Str×Tok):Value:=.str p.1 p.2
structure Sc where
 a:Addr
 f:UInt64
 ft:Tok
 x:Str×Tok
def ay(l:List Sc):List Value:=l.map fun e=>.ref e.a
def SOk(T:List (Addr×Obj))(l:List Sc):Prop:=∀ e∈l,(e.a,au [.float e.f e.ft,aj e.x])∈T
theorem SOk.mono{T T':List (Addr×Obj)}{l:List Sc}(h:SOk T l)(hs:∀ p∈T,p∈T'):SOk T' l:=fun e he=>hs _ (h e he)
theorem iC(l:List Sc)(e:Sc):ay (l++[e])=ay l++[.ref e.a]:=by simp[ay]
theorem aH(l:List Sc):(ay l).length=l.length:=by simp[ay]
structure rL(w:World)(cut:Value)(g:UInt64→Bool):Prop where
 ge:∀ {A:Around}{E:VP}{s:Shared}{f:UInt64}{t:Tok}{Q:VP},Q (.bool (g f)) s→wpAny (model pw w) A (compareOp .GtE (.float f t) cut) Q E s
 lo:∀ {A:Around}{E:VP}{s:Shared}{t:Tok}{Q:VP},Q (.bool true) s→wpAny (model pw w) A (compareOp .LtE (.float 0 t) cut) Q E s
 hi:∀ {A:Around}{E:VP}{s:Shared}{t:Tok}{Q:VP},Q (.bool true) s→wpAny (model pw w) A (compareOp .LtE cut (.float 4607182418800017408 t)) Q E s
def scr(x wd:Str):UInt64:=share (mall (ah x) (ah wd)) ((ah x).length+(ah wd).length)
def dq(g:UInt64→Bool)(x wd:Str):Bool :=
 g (share (min (ah x).length (ah wd).length) ((ah x).length+(ah wd).length)) && (g (share (qp (ah wd) (ah x)) ((ah x).length+(ah wd).length)) && g (scr x wd))
theorem pswap{α:Type}{t a b r:α}{Z:List α}:(t::a::b::r::Z).Perm (r::a::b::t::Z) :=
 ((List.perm_append_comm (l₁:=[t,a,b]) (l₂:=[r])).append_right Z).trans ((List.Perm.cons r (List.perm_append_comm (l₁:=[t]) (l₂:=[a,b]))).append_right Z)
theorem mQ{α:Type}{a b r:α}{Z:List α}:(a::b::r::Z).Perm (r::a::b::Z):=(List.perm_append_comm (l₁:=[a,b]) (l₂:=[r])).append_right Z
section
variable{w:World}{A:Around}{E:VP}{s:Shared}{hb:Heap}{L L' x dx d2 sj sm res pd:Addr}{T X own:List (Addr×Obj)}{l:List (Str×Value)}{fc sp mb cut nv:Value}{R:Result→Shared→Prop}{od o2:Obj}{rows:List aM}{led:Bool}{wd p xv:Str×Tok}{Es:List Sc}{nr:Nat}{g:UInt64→Bool}
abbrev nmC (sm res pd:Addr) (wd:Str×Tok) (nv cut:Value):List (Str×Value):=[(Str.ofString "s", .ref sm),(Str.ofString "result", .ref res),(Str.ofString "word", aj wd),(Str.ofString "possibilities", .ref pd),(Str.ofString "n", nv),(Str.ofString "cutoff", cut)]
abbrev iT(w:World)(L':Addr):Env:=callEnv (gN w.params) L' 286
abbrev gcmB:List Stmt:=d5 (((ao (st1 pw 10))[6]?).getD default)
theorem lu(G:Gd (KN w.params) tabs hb)(B:BM hb)(hd:A.depth+12<recursionLimit)(hu:A.units+80<cLine)(hh:A.handled=none)(C:rL w cut g)
  (S:St hb tabs L' (nmC sm res pd wd nv cut) ((res,ae (ay Es) nr)::(sm,smO dx)::(dx,od)::(X++T++own)) s.heap) (hlen:Es.length≤60)
  (hf:aY od (mf (aj p) (aj wd) mb fc (.ref d2) (.ref sj) sp)) (hmb:kj (X++T) mb (ah p.1) (ah wd.1)) (hfc:Fc w (X++T) fc (ah wd.1))
  (hd2:(d2,o2)∈T) (ho2:o2.IsDictOf (PySem.strKind pw w) (rows.map aM.kv)) (hrows:bB (ah wd.1) rows) (hob:∀ r∈rows,r.ob∈T) (hsj:(sj,bz led)∈T)
  (hp0:p.2≠0) (hx0:xv.2≠0) (hpx:xv.2=p.2→xv.1=p.1) (hps:p.1.cps.size≤60) (hxs:xv.1.cps.size≤60) (hws:wd.1.cps.size≤60) {Q:FP}
  (k:∀ s' od' mb' fc' p' X' Es' nr',Kp s s'→St hb tabs L' (nmC sm res pd wd nv cut) ((res,ae (ay Es') nr')::(sm,smO dx)::(dx,od')::(X'++X++T++own)) s'.heap →
   aY od' (mf (aj p') (aj wd) mb' fc' (.ref d2) (.ref sj) sp)→kj (X'++X++T) mb' (ah p'.1) (ah wd.1)→Fc w (X'++X++T) fc' (ah wd.1)→(p'=p∨p'=xv) →
   (dq g xv.1 wd.1=false∧Es'=Es∨dq g xv.1 wd.1=true∧Ex2 fun a t=>An4 (Es'=Es++[⟨a,scr xv.1 wd.1,t,xv⟩]) ((a,au [.float (scr xv.1 wd.1) t,aj xv])∈X') (s.toks≤t) (t<s'.toks))→s.toks≤s'.toks→Q .next s')
  {tgt:Expr} (htg:tgt=(match ((ao (st1 pw 10))[6]?).getD default with | .For t _ _ _ _=>t | _=>default)) :
  wpAny (model pw w) (A.deeper (iT w L')) (assign tgt (iT w L') (aj xv)) (fun _ s_2=>wpAny (model pw w) (A.deeper (iT w L')) (execs gcmB (iT w L')) Q E s_2) E s:=by
 subst htg
 have Vx:=dm (prog:=pw) (w:=w) (hb:=hb) (tabs:=tabs) xv.1 xv.2 hxs
 have Vp:=fun h=>dm (prog:=pw) (w:=w) (hb:=hb) (tabs:=tabs) p.1 p.2 h
 have Vw:=dm (prog:=pw) (w:=w) (hb:=hb) (tabs:=tabs) wd.1 wd.2 hws
 refine aT ?_
 refine af S (.new (by kernel_rfl)) ?_
 intro h_1 S_1
 refine bD (by exact S_1) fun s₁ K1 hk_1 S_1=>?_
 replace K1:Kp s s₁:=⟨K1.os,K1.gens⟩
 have rest:∀ (s_2:Shared) od2 mb2 p_2 {E':VP},s.toks≤s_2.toks→Kp s s_2→St hb tabs L' ((Str.ofString "x", aj xv)::nmC sm res pd wd nv cut) ((sm,smO dx)::(dx,od2)::(res,ae (ay Es) nr)::(X++T++own)) s_2.heap →
   aY od2 (mf (aj p_2) (aj wd) mb2 fc (.ref d2) (.ref sj) sp)→kj (X++T) mb2 (ah p_2.1) (ah wd.1)→(p_2=p∨p_2=xv)→p_2.1=xv.1 →
   wpAny (model pw w) (A.deeper (iT w L')) (execs (gcmB.drop 1) (iT w L')) Q E' s_2:=by
  intro s_2 od2 mb2 p_2 E' hk2 K2 S_2 hf2 hmb2 hp_2 he_2
  obtain⟨y,ty⟩:=p_2
  dsimp only at he_2 hmb2
  subst he_2
  have Va:=dm (prog:=pw) (w:=w) (hb:=hb) (tabs:=tabs) xv.1 ty hxs
  have hsa:=Va.small
  have hsb:=Vw.small
  refine fU (fun s5=>Ex6 fun od' mb' fc' X' Es' nr'=>An7 (Kp s s5) (St hb tabs L' ((Str.ofString "x", aj xv)::nmC sm res pd wd nv cut) ((res,ae (ay Es') nr')::(sm,smO dx)::(dx,od')::(X'++X++T++own)) s5.heap) (aY od' (mf (aj (xv.1,ty)) (aj wd) mb' fc' (.ref d2) (.ref sj) sp)) (kj (X'++X++T) mb' (ah xv.1) (ah wd.1)) (Fc w (X'++X++T) fc' (ah wd.1)) ((dq g xv.1 wd.1=false∧Es'=Es∨dq g xv.1 wd.1=true∧Ex2 fun a t=>An4 (Es'=Es++[⟨a,scr xv.1 wd.1,t,xv⟩]) ((a,au [.float (scr xv.1 wd.1) t,aj xv])∈X') (s.toks≤t) (t<s5.toks))) (s.toks≤s5.toks)) ?_ ?_
  ·refine wpAny_with_toks (n:=s.toks) hk2 ?_
   refine bw ?_
   refine wpAny_isTrue_Compare1 ?_
   refine aC ?_
   refine ac S_2 m1 ?_
   refine bA (f:=267) G S_2 m0 m1 hf2 ?_
   refine aN G ?_
   refine args_nil ?_
   refine⟨⟨_,_,_,S_2⟩,?_⟩
   refine ez G S_2 (by show A.depth+1+1<_;exact dn 10 hd) hh m0 m1 hf2 m1 m2 Va Vw (fun p hp=>by cases hp) (fun p hp=>by cases hp) ?_
   intro h_3 tk_3 t_3 S_3
   refine ac S_3 m6 ?_
   refine C.ge ?_
   refine az (by exact S_3) fun s3 K3 S_3=>?_
   replace K3:Kp s s3:=⟨K3.os.trans K2.os,fun z=>K3.gens (K2.gens z)⟩
   refine wpAny_truthy_bool ⟨fun g1=>?_,fun g1=>?_⟩
   ·refine bw ?_
    refine wpAny_isTrue_Compare1 ?_
    refine aC ?_
    refine ac S_3 m1 ?_
    refine bA (f:=260) G S_3 m0 m1 hf2 ?_
    refine aN G ?_
    refine args_nil ?_
    refine⟨⟨_,_,_,S_3⟩,?_⟩
    refine quick_ratio (T₀:=X++T) (fun p hp=>.tail _ (List.mem_append_left _ hp)) G S_3 (by show A.depth+1+1<_;exact dn 10 hd) hh hf2 hfc Va Vw (fun p hp=>by cases hp) (fun p hp=>by cases hp) ?_
    intro s4 t_4 od4 X4 fc4 K4 S4 hf4 hfc4
    replace K4:Kp s s4:=⟨K4.os.trans K3.os,fun z=>K4.gens (K3.gens z)⟩
    replace S4:=S4.perm (T':=(sm,smO dx)::(dx,od4)::(res,ae (ay Es) nr)::(X4++X++T++own)) (by rw[show X4++X++T++own=X4++(X++T++own) by simp];exact List.Perm.cons _ (List.Perm.cons _ List.perm_middle))
    have hfc4':Fc w (X4++X++T) fc4 (ah wd.1):=by rw[List.append_assoc];exact hfc4
    refine ac S4 m6 ?_
    refine C.ge ?_
    refine wpAny_truthy_bool ⟨fun g2=>?_,fun g2=>?_⟩
    ·refine bw ?_
     refine wpAny_isTrue_Compare1 ?_
     refine aC ?_
     refine ac S4 m1 ?_
     refine bA (f:=253) G S4 m0 m1 hf4 ?_
     refine aN G ?_
     refine args_nil ?_
     refine⟨⟨_,_,_,S4⟩,?_⟩
     have hin:∀ p,p∈T→p∈X4++X++T++own:=fun p hp=>List.mem_append_left _ (List.mem_append_right _ hp)
     have hmb4:kj (X4++X++T) mb2 (ah xv.1) (ah wd.1):=hmb2.mono fun p hp=>by rw[List.append_assoc];exact List.mem_append_right _ hp
     refine eR (T₀:=X4++X++T) (fun p hp=>List.mem_append_left _ hp) G B S4 (by show A.depth+1+6<_;exact dn 5 hd) (by show A.units+3+40<_;exact dn 37 hu) hh hf4 hmb4 (hin _ hd2) ho2 hrows (fun r hr=>hin _ (hob r hr)) (hin _ hsj) Va Vw (fun p hp=>by cases hp) (fun p hp=>by cases hp) ?_
     intro s5 od5 X5 mb5 t_5 _ _ K5 S5 hf5 hmb5
     replace K5:Kp s s5:=⟨K5.os.trans K4.os,fun z=>K5.gens (K4.gens z)⟩
     have hfc5:Fc w (X5++(X4++X++T)) fc4 (ah wd.1):=hfc4'.mono fun p hp=>List.mem_append_right _ hp
     rw[show X5++(X4++X++T)=X5++X4++X++T by simp] at hmb5 hfc5
     rw[show X5++(X4++X++T++own)=X5++X4++X++T++own by simp] at S5
     refine ac S5 m6 ?_
     refine C.ge ?_
     refine wpAny_truthy_bool ⟨fun g3=>?_,fun g3=>?_⟩
     ·refine isTrue_and_nil fun hk5=>⟨fun _=>?_,nofun⟩
      have hk:dq g xv.1 wd.1=true:=by
       unfold dq scr
       rw[g1,g2,g3];rfl
      refine aZ ?_
      refine aC ?_
      refine ac S5 m2 ?_
      refine ba S5 m2 PySem.F.slot_list_append type_list_append ?_
      refine ag ?_
      refine args_cons ?_
      refine aX ?_
      refine args_cons ?_
      refine aC ?_
      refine ac S5 m1 ?_
      refine bA (f:=253) G S5 m0 m1 hf5 ?_
      refine aN G ?_
      refine args_nil ?_
      refine⟨⟨_,_,_,S5⟩,?_⟩
      have hin5:∀ p,p∈T→p∈X5++X4++X++T++own:=fun p hp=>List.mem_append_left _ (List.mem_append_right _ hp)
      refine eR (T₀:=X5++X4++X++T) (fun p hp=>List.mem_append_left _ hp) G B S5 (by show A.depth+1+6<_;exact dn 5 hd) (by show A.units+3+40<_;exact dn 37 hu) hh hf5 hmb5 (hin5 _ hd2) ho2 hrows (fun r hr=>hin5 _ (hob r hr)) (hin5 _ hsj) Va Vw (fun p hp=>by cases hp) (fun p hp=>by cases hp) ?_
      intro s6 od6 X6 mb6 t_6 ht1 ht2 K6 S6 hf6 hmb6
      replace K6:Kp s s6:=⟨K6.os.trans K5.os,fun z=>K6.gens (K5.gens z)⟩
      have hfc6:Fc w (X6++(X5++X4++X++T)) fc4 (ah wd.1):=hfc5.mono fun p hp=>List.mem_append_right _ hp
      refine args_cons ?_
      refine ac S6 m0 ?_
      refine args_nil ?_
      refine⟨rfl,_,_,_,_,_,S6,?_⟩
      intro tt h_7 S7
      refine args_nil ?_
      refine aW 3 S7 rfl ?_ (by rw[aH];exact up 9940 hlen)
      intro h_8 S8
      refine ax ?_
      refine⟨rfl,od6,mb6,fc4,(tt,au [.float (scr xv.1 wd.1) t_6,aj xv])::(X6++X5++X4),Es++[⟨tt,scr xv.1 wd.1,t_6,xv⟩],nr+1,⟨K6.os,K6.gens⟩,?_,hf6,?_,?_,.inr ⟨hk,tt,t_6,rfl,.head _,Nat.le_trans hk5 ht1,ht2⟩,Nat.le_trans hk5 (Nat.le_trans ht1 (Nat.le_of_lt ht2))⟩
      ·rw[iC]
       have e:X6++(X5++X4++X++T++own)=X6++X5++X4++X++T++own:=by simp
       rw[e] at S8
       exact S8.perm pswap
      ·rw[show (tt,au [.float (scr xv.1 wd.1) t_6,aj xv])::(X6++X5++X4)++X++T=(tt,au [.float (scr xv.1 wd.1) t_6,aj xv])::(X6++(X5++X4++X++T)) by simp]
       exact hmb6.mono fun p hp=>.tail _ hp
      ·rw[show (tt,au [.float (scr xv.1 wd.1) t_6,aj xv])::(X6++X5++X4)++X++T=(tt,au [.float (scr xv.1 wd.1) t_6,aj xv])::(X6++(X5++X4++X++T)) by simp]
       exact hfc6.mono fun p hp=>.tail _ hp
     ·refine fun hkk=>⟨nofun,fun _=>ax ?_⟩
      exact⟨rfl,od5,mb5,fc4,X5++X4,Es,nr,K5,S5.perm mQ,hf5,hmb5,hfc5,.inl ⟨by unfold dq scr;rw[g3];simp,rfl⟩,hkk⟩
    ·refine fun hkk=>⟨nofun,fun _=>ax ?_⟩
     exact⟨rfl,od4,mb2,fc4,X4,Es,nr,⟨K4.os,K4.gens⟩,S4.perm mQ,hf4,hmb2.mono (fun p hp=>by rw[List.append_assoc];exact List.mem_append_right _ hp),hfc4',.inl ⟨by unfold dq;rw[g2];simp,rfl⟩,hkk⟩
   ·refine fun hkk=>⟨nofun,fun _=>ax ?_⟩
    exact⟨rfl,od2,mb2,fc,[],Es,nr,⟨K3.os,K3.gens⟩,S_3.perm mQ,hf2,hmb2,hfc,.inl ⟨by
     unfold dq
     rw[g1];simp,rfl⟩,hkk⟩
  ·rintro s5 ⟨od',mb',fc',X',Es',nr',K5,S5,hf5,hmb5,hfc5,hE,hk5⟩
   refine ax ?_
   exact k s5 od' mb' fc' (xv.1,ty) X' Es' nr' K5 (S5.forget (.cons _ (List.Sublist.refl _))) hf5 hmb5 hfc5 hp_2 hE hk5
 refine aZ ?_
 refine wpAny_with_toks (n:=s.toks) (by simp only at hk_1;exact z1f hk_1) ?_
 refine aC ?_
 refine ac S_1 m1 ?_
 refine bA (f:=202) G S_1 m1 m2 hf ?_
 refine aN G ?_
 refine args_cons ?_
 refine ac S_1 m0 ?_
 refine args_nil ?_
 refine⟨⟨_,_,_,S_1⟩,?_⟩
 have S_2:=S_1.perm (T':=(sm,smO dx)::(dx,od)::((res,ae (ay Es) nr)::(X++T++own))) ((List.perm_append_comm (l₁:=[(res,ae (ay Es) nr)]) (l₂:=[(sm,smO dx),(dx,od)])).append_right (X++T++own))
 refine set_seq1 (C:=xv.1=p.1) (av:=aj p) (fl1:=mf (aj xv) (aj wd) mb fc (.ref d2) (.ref sj) sp) (fl2:=mf (aj xv) (aj wd) .none fc (.ref d2) (.ref sj) sp) (fl3:=mf (aj xv) (aj wd) .none fc (.ref d2) (.ref sj) sp) G S_2 (by show A.depth+1<_;exact dn 11 hd) hf m1 rfl (eF (hb:=hb) hx0 hp0 hpx)
  (.there (by kernel_rfl) .here) (.there (by kernel_rfl) (.there (by kernel_rfl) (.there (by kernel_rfl) (.there (by kernel_rfl) .here)))) (.there (by kernel_rfl) (.there (by kernel_rfl) (.there (by kernel_rfl) (.there (by kernel_rfl) (.there (by kernel_rfl) .here))))) rfl rfl rfl ?_ ?_
 ·intro hc h_3 tk_3 S_3
  exact fun hk=>rest _ od mb p hk ⟨K1.os,K1.gens⟩ S_3 hf hmb (.inl rfl) hc.symm
 ·intro h_3 tk_3 od3 S_3 hf3
  exact fun hk=>rest _ od3 .none xv hk ⟨K1.os,K1.gens⟩ S_3 hf3 (.inl rfl) (.inr rfl) rfl
end
end
section
section
variable{prog:Program}{w:World}{A:Around}{E:VP}{s:Shared}{R:Result→Shared→Prop}{K:Frag}{hb:Heap}{tabs:List Addr}{L:Addr}{l l':List (Str×Value)}{T:List (Addr×Obj)}{env:Env}{x:Str}{v:Value}{pos:Pos}
theorem aw{Q:VP}(S:St hb tabs env.locals l T s.heap)(hv:(x,v)∈l)(h:Q v s)
  (hk:env.scope.kind=.function:=by rfl) (hl:env.kindOf x=some .local:=by rfl) (hd:(x == ("__debug__" : Str))=false:=by kernel_rfl) :
  wpAny (model prog w) A (eval (.Name x pos) env) Q E s:=by
 obtain⟨m,a,b,_⟩:=S.fm.ns
 exact wpAny_Name (wpAny_loadName_local hk hl a (b _ hv) h) hd
theorem aG{Q:UP}(S:St hb tabs env.locals l T s.heap)(st:cg l x v l')(h:∀ h',St hb tabs env.locals l' T h'→Q () (wht s h' (s.toks+1)))
  (hk:env.scope.kind=.function:=by rfl) (hl:env.kindOf x=some .local:=by rfl) :
  wpAny (model prog w) A (storeName env x v) Q E s:=by
 obtain⟨m,a,b,c⟩:=S.fm.ns
 exact wpAny_storeName_local hl a (fun h' hn hs=>h h' (S.setNs (st.fm hn b c) hs)) (by rw[hk];rfl)
theorem dv{elt target iter:Expr}{scope:Scope}{it acc:Value}(I:Nat→Shared→Prop)
  (turn:∀ n s,I n s→wpAny (model prog w) A (pyNext it) (fun r s₁=>match r with
   | none=>R (.ok .next) s₁
   | some v=>wpAny (model prog w) A (letOwnedTupleGo target it v) (fun _ s1'=>wpAny (model prog w) A (assign target env v) (fun _ s_2=>wpAny (model prog w) A (eval elt env) (fun x s3 =>
     wpAny (model prog w) A (call (.builtin "list.append") [acc,x]) (fun _ s4=>∃ m,m<n∧I m s4) (notedBy (model prog w) A env fun e s'=>R (.error e) s') s3)
     (notedBy (model prog w) A env fun e s'=>R (.error e) s') s_2) (notedBy (model prog w) A env fun e s'=>R (.error e) s') s1') (notedBy (model prog w) A env fun e s'=>R (.error e) s') s₁) (notedBy (model prog w) A env fun e s'=>R (.error e) s') s)
  (n:Nat) (h:I n s) :
  codeAny (model prog w) A (.compLoop (.ListComp elt [⟨target,iter,[],0⟩] scope pos) 0 it acc env) R s:=by
 refine codeAny_loop rfl I (fun n s hI=>?_) n h
 show wpAny _ _ ((compTurn (.ListComp elt [⟨target,iter,[],0⟩] scope pos) 0 it acc env).onRaise (fun x=>do noteFrame x env;theTreesLotGoes x)) _ _ s
 refine wpAny_noted ?_
 rw[compTurn_list1]
 refine wpAny_bind (wpAny_standAt (wpAny_bind (wpAny_mono (turn n s hI) (fun r s₁ h_1=>?_) fun _ _ h'=>h')))
 cases r with
 | none=>exact wpAny_pure h_1
 | some v =>
  refine wpAny_bind (wpAny_mono h_1 (fun _ s1' h_1'=>?_) fun _ _ h'=>h')
  exact wpAny_bind (wpAny_mono h_1' (fun _ s_2 h_2=>wpAny_bind (wpAny_bind (wpAny_mono h_2 (fun x s3 h_3=>wpAny_bind (wpAny_mono h_3
   (fun _ s4 h_4=>wpAny_pure (wpAny_pure ⟨rfl,h_4⟩)) fun _ _ h'=>h')) fun _ _ h'=>h'))) fun _ _ h'=>h')
theorem gk{elt target iter:Expr}{scope:Scope}{C D d I:Addr}{oL o:Obj}{vs:List Value}{n:Nat}{Wt:Nat→Heap→Prop}{fp:List Addr}{J:Nat→List Value→List (Addr×Obj)→Prop}{s₁ s_2:Shared}(hh:A.handled=none)
  (IV:ItV prog w hb tabs [(d,ae vs n)] I vs.length (fun i v=>vs[i]? = some v) Wt fp)
  (hown:∀ (A:Around) elts x1 tpos i (s:Shared) v (Q:UP) E,Wt i s.heap→Q () s→wpAny (model prog w) A (letOwnedTupleGo (.Tuple elts x1 tpos) (.ref I) v) Q E s)
  (hm:(d,ae vs n)∈T) (hlen:vs.length≤1000) (hJ0:J 0 [] []) (r:cJ oL l) (hw3:Wt 0 s_2.heap)
  (S5:St hb tabs C [] ((D,ae [] 0)::([]++((L,oL)::T))++[(I,o)]) s_2.heap) (K2:Kp s₁ s_2)
  (step:∀ (E':VP) i v acc c X own s_2,vs[i]? = some v→acc.length=i→J i acc X→cJ oL l→Kp s₁ s_2→St hb tabs C [] ((D,ae acc c)::(X++((L,oL)::T))++own) s_2.heap →
    wpAny (model prog w) A (assign target (compEnv scope C env) v) (fun _ s3=>wpAny (model prog w) A (eval elt (compEnv scope C env)) (fun y s4=>Ex2 fun X' l'=>An3 (Kp s₁ s4) (St hb tabs C l' ((D,ae acc c)::(X'++((L,oL)::T))++own) s4.heap) (J (i+1) (acc++[y]) X')) E' s3) E' s_2)
  (htgt:(Ex2 fun y p=>target=.Name y p)∨Ex3 fun es k p=>target=.Tuple es k p)
  (fin:∀ s' acc c X lc,Kp s₁ s'→St hb tabs C lc ((L,oL)::(D,ae acc c)::(X++T)) s'.heap→acc.length=vs.length→J vs.length acc X→R (.ok .next) s') :
  codeAny (model prog w) A (.compLoop (.ListComp elt [⟨target,iter,[],0⟩] scope pos) 0 (.ref I) (.ref D) (compEnv scope C env)) R s_2:=by
 have W:=IV.walks A hh
 have how0:([(I,o)]:List (Addr×Obj)).map (·.1)=[I]:=rfl
 refine dv (fun k s'=>Ex6 fun i acc c X own l'=>An8 (own.map (·.1)=[I]) (St hb tabs C l' ((D,ae acc c)::(X++((L,oL)::T))++own) s'.heap) (Wt i s'.heap) (J i acc X) (acc.length=i) (Kp s₁ s') (i≤vs.length) (k=vs.length - i)) ?_ vs.length ⟨0,[],0,[],[(I,o)],[],rfl,S5,hw3,hJ0,rfl,K2,Nat.zero_le _,rfl⟩
 rintro k s' ⟨i,acc,c,X,own,l',how,S',hw',hJ,hacc,hKp,hi,rfl⟩
 by_cases hlt:i<vs.length
 ·refine W.item i _ _ _ hlt hw' fun v h_4 tk4 hP hw4 hk4=>?_
  obtain⟨own2,e_2,S6⟩:=S'.moved (h':=h_4) (fun b ob hb' e=>hk4 b ob (how▸hb') e) (fun b hb'=>by rw[how,List.mem_singleton] at hb';subst hb';exact IV.ex _ _ hw4)
  have go:∀ {E':VP},wpAny (model prog w) A (assign target (compEnv scope C env) v) (fun _ s_2=>wpAny (model prog w) A (eval elt (compEnv scope C env)) (fun x s3 =>
    wpAny (model prog w) A (call (.builtin "list.append") [.ref D,x]) (fun _ s4=>∃ m,m<vs.length - i∧Ex6 fun i acc c X own l'=>An8 (own.map (·.1)=[I]) (St hb tabs C l' ((D,ae acc c)::(X++((L,oL)::T))++own) s4.heap) (Wt i s4.heap) (J i acc X) (acc.length=i) (Kp s₁ s4) (i≤vs.length) (m=vs.length - i)) E' s3)
    E' s_2) E' (wht s' h_4 tk4):=by
   intro E'
   refine wpAny_mono (step _ i v acc c X own2 (wht s' h_4 tk4) hP hacc hJ r ⟨hKp.os,hKp.gens⟩ (S6.forget (List.nil_sublist _))) (fun _ s6 h_6=>wpAny_mono h_6 (fun y s7 h_7=>?_) fun _ _ e=>e) fun _ _ e=>e
   obtain⟨X',l'',K7,S7,hJ7⟩:=h_7
   refine aW 0 S7 rfl ?_ (by exact z9f hlen hacc hlt)
   intro h_8 S8
   refine⟨vs.length - (i+1),by exact z8t hlt,i+1,acc++[y],c+1,X',own2,l'',e_2.trans how,S8,W.frame _ _ _ hw4 fun b hb' ob e=>?_,hJ7,by simp[hacc],⟨K7.os,K7.gens⟩,hlt,rfl⟩
   by_cases q:b∈[I]
   ·have:b∈own2.map (·.1):=by rw[e_2,how];exact q
    obtain⟨p,hp,rfl⟩:=List.mem_map.mp this
    have e1:h_4.get? p.1=some p.2:=S6.obj p (List.mem_append_right _ hp)
    have e2:=S8.obj p (List.mem_append_right ((D,ae (acc++[y]) (c+1))::(X'++((L,oL)::T))) hp)
    rw[e1] at e
    rw[← e];exact e2
   ·rcases IV.ro b hb' q with⟨o',ho'⟩ | ⟨o',ho',hnt⟩
    ·rw[List.mem_singleton] at ho'
     have hbm:(b,o')∈T:=by rw[ho'];exact hm
     have e1:h_4.get? b=some o':=S6.obj (b,o') (List.mem_append_left _ (.tail _ (List.mem_append_right _ (.tail _ hbm))))
     rw[e1] at e
     rw[← e];exact S8.obj (b,o') (List.mem_append_left own2 (List.Mem.tail (D,ae (acc++[y]) (c+1)) (List.mem_append_right X' (.tail _ hbm))))
    ·have e1:h_4.get? b=some o':=S6.keep _ _ ho' hnt
     rw[e1] at e
     rw[← e];exact S8.keep _ _ ho' hnt
  rcases htgt with⟨y,p,rfl⟩ | ⟨es,k,p,rfl⟩
  ·exact wpAny_of_eq (a:=()) rfl go
  ·exact hown _ _ _ _ _ _ _ _ _ hw4 go
 ·have hin:i=vs.length:=by exact z8u hi hlt
  subst hin
  refine W.done _ _ _ hw' fun h_4 tk4 hk4=>?_
  have S6:=S'.drop (h':=h_4) fun b ob hb' e=>hk4 b ob (how▸hb') e
  exact fin (wht s' h_4 tk4) acc c X l' ⟨hKp.os,hKp.gens⟩ (S6.perm (List.perm_middle (l₁:=(D,ae acc c)::X))) hacc hJ
theorem eA{elt target iter:Expr}{scope:Scope}{Q:VP}(hh:A.handled=none)
  (h:wpAny (model prog w) A (eval iter env) (fun xv s₁=>Ex6 fun L l T d vs n=>∃ J:Nat→List Value→List (Addr×Obj)→Prop,An7 (xv=.ref d) (St hb tabs L l T s₁.heap) ((d,ae vs n)∈T) (vs.length≤1000) (J 0 [] []) ((∀ C D oL E' i v acc c X own s_2,vs[i]? = some v→acc.length=i→J i acc X→cJ oL l→Kp s₁ s_2→St hb tabs C [] ((D,ae acc c)::(X++((L,oL)::T))++own) s_2.heap →
    wpAny (model prog w) A (assign target (compEnv scope C env) v) (fun _ s3=>wpAny (model prog w) A (eval elt (compEnv scope C env)) (fun y s4=>Ex2 fun X' l'=>An3 (Kp s₁ s4) (St hb tabs C l' ((D,ae acc c)::(X'++((L,oL)::T))++own) s4.heap) (J (i+1) (acc++[y]) X')) E' s3) E' s_2)) ((∀ s' D acc c X,Kp s₁ s'→St hb tabs L l ((D,ae acc c)::(X++T)) s'.heap→acc.length=vs.length→J vs.length acc X→Q (.ref D) s'))) E s)
  (htgt:(Ex2 fun y p=>target=.Name y p)∨Ex3 fun es k p=>target=.Tuple es k p)
  (hfree:∀ x∈scope.names,x.2≠.free) (hcell:∀ y∈scope.names,y.2≠.cell) (hkind:scope.kind=.function) (hnames:∀ x∈scope.names,x.2=.local→scope.names.lookup x.1=some .local)
  (hs:∀ x,foldedSetIterable iter env x=pure x:=by intro _;rfl) :
  wpAny (model prog w) A (eval (.ListComp elt [⟨target,iter,[],0⟩] scope pos) env) Q E s:=by
 refine wpAny_ListComp hfree hkind hnames (wpAny_mono h (fun xv s₁ z=>?_) fun _ _ e=>e) hs
 obtain⟨L,l,T,d,vs,n,J,rfl,S,hm,hlen,hJ0,step,fin⟩:=z
 refine dI S hm fun I o Wt fp h_2 IV hown hw S_2=>?_
 refine wpAny_newObj_type (hd:=by size_fits) ?_
 have S_3:=S_2.push (ae [] 0)
 refine wpAny_newFunctionEnv hcell (by intro y hy;simp at hy) (fun h_3 hn_3 hs_3=>?_) hkind
 generalize hD:h_2.objs.size=D at S_3
 generalize hC:(h_2.push (ae [] 0)).objs.size=C
 obtain⟨oL,r,S4⟩:=S_3.enter (L':=C) (l':=[]) (h':=h_3) hC.symm (Fm.of_ns (by rw[← hC];exact hn_3) (fun p hp=>by cases hp) List.nodup_nil) (fun b o e=>hs_3.extBut b o (Nat.ne_of_lt (Heap.lt_size e)) (Heap.get?_push_of_some _ e))
 have W:=IV.walks A hh
 have how0:([(I,o)]:List (Addr×Obj)).map (·.1)=[I]:=rfl
 have hw3:Wt 0 h_3:=W.frame _ _ _ hw fun b hb' ob e=>hs_3.extBut b ob (Nat.ne_of_lt (Heap.lt_size (Heap.get?_push_of_some _ e))) (Heap.get?_push_of_some _ (Heap.get?_push_of_some _ e))
 have S5:St hb tabs C [] ((D,ae [] 0)::([]++((L,oL)::T))++[(I,o)]) h_3:=S4.perm (by
  rw[List.nil_append]
  exact ((List.perm_append_comm (l₁:=[(L,oL)]) (l₂:=[(D,ae [] 0)])).append_right (T++[(I,o)])))
 have loop:∀ s_2:Shared,s_2=(wht s₁ h_3 (s₁.toks+([]:List (Str×Value)).length)) →
   codeAny (model prog w) A (.compLoop (.ListComp elt [⟨target,iter,[],0⟩] scope pos) 0 (.ref I) (.ref D) (compEnv scope C env))
    (fun r s'=>∃ m,s'.heap.Ns C m∧∀ h',Heap.SameBut C s'.heap h' →
     match r with | .ok _=>Q (.ref D) (wh s' h') | .error x=>wpAny (model prog w) A (passOn "comprehension.variables-let-go" x (compEnv scope C env)) Q E (wh s' h')) s_2:=by
  rintro s_2 rfl
  refine gk (s₁:=s₁) (T:=T) hh IV hown hm hlen hJ0 r hw3 S5 ⟨rfl,id⟩ (step C D oL) htgt ?_
  intro s' acc c X lc hKp S7 hacc hJ
  obtain⟨m,hm',_,_⟩:=S7.fm.ns
  refine⟨m,hm',fun h' hs'=>?_⟩
  have S8:=S7.leave 0 rfl r
  have S9:St hb tabs L l ((D,ae acc c)::(X++T)) h':=S8.off (wr:=[C]) (fun b hb'=>by
   rw[List.mem_singleton] at hb';subst hb'
   exact⟨S7.lnew,(List.nodup_cons.mp S7.nd).1⟩) (fun b ob hb' e=>hs'.extBut b ob (fun q=>hb' (by rw[q];exact .head _)) e)
  exact fin _ D acc c X ⟨hKp.os,hKp.gens⟩ S9 hacc hJ
 subst hC
 subst hD
 exact codeAny_compStart_list (loop _ rfl) (W.self 0 _ _ _ hw3 (loop _ rfl))
end
end
section
section
variable{prog:Program}{w:World}{A:Around}{s:Shared}{hb:Heap}{tabs:List Addr}{L:Addr}{l:List (Str×Value)}{T own Ro:List (Addr×Obj)}{env:Env}{target:Expr}{body:List Stmt}{I:Addr}{fp wr:List Addr}{n:Nat}{P:Nat→Value→Prop}{Wt:Nat→Heap→Prop}
theorem gb{R:Result→Shared→Prop}(W:Walks prog w A I fp wr n P Wt)(hex:∀ i h,Wt i h→∀ b∈wr,∃ o,h.get? b=some o)(how:own.map (·.1)=wr)
  (hro:∀ b∈fp,b∉wr→(∃ o,(b,o)∈Ro)∨∃ o,hb.get? b=some o∧b∉tabs) (S:St hb tabs L l (T++own) s.heap) (hst:Wt 0 s.heap)
  (J:Nat→Tok→List (Str×Value)→List (Addr×Obj)→Prop) (hmono:∀ i tk tk' l T,tk≤tk'→J i tk l T→J i tk' l T) (h0:J 0 s.toks l T) (hR0:∀ p∈Ro,p∈T)
  (step:∀ E i v l₁ T1 own1 s₁,i<n→P i v→J i s₁.toks l₁ T1→St hb tabs L l₁ (T1++own1) s₁.heap→(∀ p∈Ro,p∈T1)→Kp s s₁ →
   wpAny (model prog w) A (assign target env v) (lh (model prog w) A env E body (qZ hb tabs L own1 Ro (J (i+1)) s R)) E s₁)
  (hR:∀ s' l' T',Kp s s'→St hb tabs L l' T' s'.heap→J n s'.toks l' T'→(∀ p∈Ro,p∈T')→R (.ok .next) s')
  (ht:∀ v,letOwnedTupleGo target (.ref I) v=pure ():=by intro _;rfl) :
  codeAny (model prog w) A (.forLoop target (.ref I) body [] env) R s:=by
 refine codeAny_forLoop (fun k s'=>Ex4 fun i l₁ T1 own1=>An8 (own1.map (·.1)=wr) (St hb tabs L l₁ (T1++own1) s'.heap) (Wt i s'.heap) (J i s'.toks l₁ T1) ((∀ p∈Ro,p∈T1)) (Kp s s') (i≤n) (k=n - i)) ?_ n ⟨0,l,T,own,how,S,hst,h0,hR0,Kp.refl,Nat.zero_le _,rfl⟩ ht
 rintro k s' ⟨i,l₁,T1,own1,how1,S_1,hst1,hJ,hRo,hKp,hi,rfl⟩
 by_cases hlt:i<n
 ·refine wpAny_with_toks (Nat.le_refl s'.toks) ?_
  refine W.item i _ _ _ hlt hst1 fun v h_1 tk_1 hP hst2 hk_1 htk=>?_
  obtain⟨own2,e_2,S_2⟩:=S_1.moved (h':=h_1) (fun b o hb' e=>hk_1 b o (how1▸hb') e) (fun b hb'=>hex _ _ hst2 b (how1▸hb'))
  refine wpAny_mono (step _ i v l₁ T1 own2 (wht s' h_1 tk_1) hlt hP (hmono _ _ _ _ _ htk hJ) S_2 hRo hKp.with) (fun _ s_2 h_2=>wpAny_mono h_2 (fun f s3 h_3=>?_) fun _ _ e=>e) fun _ _ e=>e
  have fin:(Ex2 fun l₂ T₂=>An4 (St hb tabs L l₂ (T₂++own2) s3.heap) (J (i+1) s3.toks l₂ T₂) ((∀ p∈Ro,p∈T₂)) (Kp s s3))→∃ m,m<n - i∧Ex4 fun i l₁ T1 own1=>An8 (own1.map (·.1)=wr) (St hb tabs L l₁ (T1++own1) s3.heap) (Wt i s3.heap) (J i s3.toks l₁ T1) ((∀ p∈Ro,p∈T1)) (Kp s s3) (i≤n) (m=n - i):=by
   rintro⟨l₂,T₂,S_3,hJ3,hRo3,hKp3⟩
   refine⟨n - (i+1),by exact z8t hlt,i+1,l₂,T₂,own2,e_2.trans how1,S_3,W.frame _ _ _ hst2 fun b hb' o e=>?_,hJ3,hRo3,hKp3,hlt,rfl⟩
   by_cases q:b∈wr
   ·have:b∈own2.map (·.1):=by rw[e_2,how1];exact q
    obtain⟨p,hp,rfl⟩:=List.mem_map.mp this
    have e1:=S_2.obj p (List.mem_append_right _ hp)
    have e2:=S_3.obj p (List.mem_append_right _ hp)
    have e1':h_1.get? p.1=some p.2:=e1
    rw[e1'] at e
    rw[← e];exact e2
   ·rcases hro b hb' q with⟨o',ho'⟩ | ⟨o',ho',hnt⟩
    ·have e1:h_1.get? b=some o':=S_2.obj _ (List.mem_append_left _ (hRo _ ho'))
     rw[e1] at e
     rw[← e];exact S_3.obj _ (List.mem_append_left _ (hRo3 _ ho'))
    ·have e1:h_1.get? b=some o':=S_2.keep _ _ ho' hnt
     rw[e1] at e
     rw[← e];exact S_3.keep _ _ ho' hnt
  cases f with
  | next=>exact fin h_3
  | cont=>exact fin h_3
  | brk=>exact h_3
  | ret v=>exact h_3
 ·have hin:i=n:=by exact z8u hi hlt
  subst hin
  refine wpAny_with_toks (Nat.le_refl s'.toks) ?_
  refine W.done _ _ _ hst1 fun h_1 tk_1 hk_1 htk=>wpAny_execs_nil ?_
  exact hR _ l₁ T1 hKp.with (S_1.drop fun b o hb' e=>hk_1 b o (how1▸hb') e) (hmono _ _ _ _ _ htk hJ) hRo
end
end
section
def gr(rk:UInt64→Str→Nat)(Es:List Sc):Prop:=∀ e∈Es,∀ e'∈Es,
 ((Float64.cmp e.f e'.f == some Ordering.eq && e.x.1 == e'.x.1)=true↔rk e.f e.x.1=rk e'.f e'.x.1) ∧
 ((Float64.cmp e.f e'.f == some Ordering.eq)=false→((Float64.cmp e.f e'.f == some Ordering.lt)=true↔rk e.f e.x.1<rk e'.f e'.x.1)) ∧
 ((Float64.cmp e.f e'.f == some Ordering.eq)=true→(e.x.1.cps.toList<e'.x.1.cps.toList↔rk e.f e.x.1<rk e'.f e'.x.1)) ∧
 ((Float64.cmp e.f e'.f == some Ordering.eq)=false→((Float64.cmp e.f e'.f == some Ordering.gt)=true↔rk e'.f e'.x.1<rk e.f e.x.1)) ∧
 ((Float64.cmp e.f e'.f == some Ordering.eq)=true→(e'.x.1.cps.toList<e.x.1.cps.toList↔rk e'.f e'.x.1<rk e.f e.x.1))
def gU(Es:List Sc):Prop:=∀ e∈Es,e.ft≠0∧∀ e'∈Es,e.ft=e'.ft→e.f=e'.f
abbrev rkS(rk:UInt64→Str→Nat)(e:Sc):Nat:=rk e.f e.x.1
def NLC(w:World)(hb:Heap):Prop:=∀ {A:Around}{s:Shared}{L:Addr}{l:List (Str×Value)}{T:List (Addr×Obj)}{R:Result→Shared→Prop}{res:Addr}{Es:List Sc}{nr n:Nat}{tn:Tok}{rk:UInt64→Str→Nat},
 St hb tabs L l T s.heap→A.depth+20<recursionLimit→A.units+100<cLine→A.handled=none→(res,ae (ay Es) nr)∈T→SOk T Es→gU Es→(∀ e∈Es,e.x.1.cps.size≤60)→Es.length≤60→0<n→n≤60→gr rk Es →
 (∀ (s':Shared) (X:List (Addr×Obj)) (r:Addr) (nr':Nat) (P:List Sc),Kp s s'→St hb tabs L l ((r,ae (ay (P.take n)) nr')::(X++T)) s'.heap→P.Perm Es→P.Pairwise (fun a b=>rkS rk b≤rkS rk a)→R (.ok (.ret (.ref r))) s') →
 codeAny (model pw w) A (.call (.ref 280) ⟨[.int n tn,.ref res],[]⟩) R s
section
variable{w:World}{A:Around}{E:VP}{s:Shared}{hb:Heap}{L pd:Addr}{T:List (Addr×Obj)}{l:List (Str×Value)}{cut:Value}{R:Result→Shared→Prop}{wd:Str×Tok}{rw:List (Str×Tok)}{nd n:Nat}{tn:Tok}{g:UInt64→Bool}{args:Args}
theorem gcm_c(G:Gd (KN w.params) tabs hb)(B:BM hb)(N:NLC w hb)(S:St hb tabs L l T s.heap)(hd:A.depth+40<recursionLimit)(hu:A.units+200<cLine)(hh:A.handled=none)(C:rL w cut g)(hpd:(pd,ae (rw.map aj) nd)∈T)
  (hbind:BindsTo s (gN w.params) args [(Str.ofString "word", aj wd),(Str.ofString "possibilities", .ref pd),(Str.ofString "n", .int n tn),(Str.ofString "cutoff", cut)])
  (hn:0<n) (hn60:n≤60) (hrl:rw.length≤60) (hws:wd.1.cps.size≤60) (hrs:∀ p∈rw,p.1.cps.size≤60) (hw0:wd.2≠0) (hwe:wd.1≠Str.ofString "") (hwt:wd.2=540→wd.1=Str.ofString "")
  (htk:∀ p∈(Str.ofString "", 539)::rw,p.2≠0∧∀ q∈(Str.ofString "", 539)::rw,p.2=q.2→p.1=q.1)
  {rk:UInt64→Str→Nat} (hrk:∀ Es:List Sc,(∀ e∈Es,e.x∈rw∧e.f=scr e.x.1 wd.1)→gr rk Es)
  (k:∀ (s':Shared) (X:List (Addr×Obj)) (r:Addr) (nr:Nat) (P:List (Str×Tok)),Kp s s'→St hb tabs L l ((r,ae ((P.take n).map aj) nr)::(X++T)) s'.heap→P.Perm (rw.filter fun x=>dq g x.1 wd.1)→P.Pairwise (fun a b=>rk (scr b.1 wd.1) b.1≤rk (scr a.1 wd.1) a.1)→R (.ok (.ret (.ref r))) s') :
  codeAny (model pw w) A (.call (.ref 286) args) R s:=by
 refine cc G S (jS _) (by exact dn 40 hd) (body:=ao (st1 pw 10)) hbind ?_
 intro L' h_1 oL r S'
 refine c8 ?_
 refine cP ?_
 refine isTrue_not ?_
 refine wpAny_isTrue_Compare1 ?_
 refine ac S' m2 ?_
 refine wpAny_Constant_int ?_
 refine gt_int ?_
 refine wpAny_truthy_bool ⟨fun q=>absurd q (by simp;exact z1i hn),fun q=>?_⟩
 refine ax ?_
 refine cP ?_
 refine isTrue_not ?_
 refine isTrue_chain ?_
 refine wpAny_Constant_float ?_
 refine test_link ?_
 refine ac S' m3 ?_
 refine C.lo ?_
 refine wpAny_truthy_bool ?_
 rw[if_pos rfl]
 refine test_last ?_
 refine wpAny_Constant_float ?_
 refine C.hi ?_
 refine wpAny_truthy_bool ⟨nofun,fun _=>?_⟩
 refine ax ?_
 refine ak ?_
 refine bc ?_
 refine args_nil ?_
 refine⟨rfl,_,_,_,_,_,S',?_⟩
 intro res h_2 S_2
 refine af S_2 (.new (by kernel_rfl)) ?_
 intro h_3 S_3
 refine ak ?_
 refine ap ?_
 refine aq G S_3 (v:=.ref 270) (by kernel_rfl) ?_
 refine aN G ?_
 refine args_nil ?_
 refine⟨⟨_,_,_,S_3⟩,?_⟩
 refine lZ (C:=270) (fI:=188) G (by exact S_3) ?_
 intro sm dx h_4 S4
 have Ve:=dm (prog:=pw) (w:=w) (hb:=hb) (tabs:=tabs) (Str.ofString "") 540 (by decide)
 refine jc (va:=.str (Str.ofString "") 539) (vb:=.str (Str.ofString "") 540) G (by exact S4) (by simp only[depth_under_make,depth_deeper];exact dn 35 hd) hh Ve (fun p hp=>by cases hp) (bT (hb:=hb)) (bT (hb:=hb)) ?_ ?_
 ·refine BindsTo.of_defaults (o:=mW w.params) rfl (St.kin (by exact S4) G 181 _ (by kernel_rfl)) rfl rfl rfl
 intro s5 od5 j5 sj5 sp5 o5 rows5 led5 led5' K5 S5 hf5 ho5 hr5
 refine⟨rfl,?_⟩
 replace K5:Kp s s5:=⟨K5.os,K5.gens⟩
 refine af S5 (.new (by kernel_rfl)) ?_
 intro h_6 S6
 refine aZ ?_
 refine wpAny_with_toks (n:=1) (by simp only;exact z1k) ?_
 refine aC ?_
 refine ac S6 m0 ?_
 refine bA (f:=209) G S6 m0 m1 hf5 ?_
 refine aN G ?_
 refine args_cons ?_
 refine ac S6 m2 ?_
 refine args_nil ?_
 refine⟨⟨_,_,_,S6⟩,?_⟩
 have Vw:=dm (prog:=pw) (w:=w) (hb:=hb) (tabs:=tabs) wd.1 wd.2 hws
 refine set_seq2 (C:=wd.1=Str.ofString "") (bv:=.str (Str.ofString "") 540) (f1:=mf (.str (Str.ofString "") 539) (aj wd) .none .none (.ref j5) (.ref sj5) (.ref sp5)) (f2:=mf (.str (Str.ofString "") 539) (aj wd) .none .none (.ref j5) (.ref sj5) (.ref sp5)) (f3:=mf (.str (Str.ofString "") 539) (aj wd) .none .none (.ref j5) (.ref sj5) (.ref sp5))
  (f4:=mf (.str (Str.ofString "") 539) (aj wd) .none .none (.ref j5) (.ref sj5) (.ref sp5)) (fl1:=fun v=>mf (.str (Str.ofString "") 539) (aj wd) .none .none v (.ref sj5) (.ref sp5)) (fl2:=fun v u=>mf (.str (Str.ofString "") 539) (aj wd) .none .none v u (.ref sp5)) (fl3:=fun v u z=>mf (.str (Str.ofString "") 539) (aj wd) .none .none v u z)
  G (by exact S6) (by show A.depth+1+1<_;exact dn 38 hd) hh hf5 m2 rfl Vw (fun p hp=>by cases hp) (eF (hb:=hb) hw0 (by decide) hwt) (.there (by kernel_rfl) (.there (by kernel_rfl) .here)) (.there (by kernel_rfl) (.there (by kernel_rfl) (.there (by kernel_rfl) (.there (by kernel_rfl) .here)))) (.there (by kernel_rfl) (.there (by kernel_rfl) (.there (by kernel_rfl) (.there (by kernel_rfl) (.there (by kernel_rfl) .here))))) (.there (by kernel_rfl) (.there (by kernel_rfl) (.there (by kernel_rfl) (.there (by kernel_rfl) (.there (by kernel_rfl) (.there (by kernel_rfl) .here)))))) rfl rfl rfl rfl m2 (by kernel_rfl)
  (fun _=>(.there (by kernel_rfl) (.there (by kernel_rfl) (.there (by kernel_rfl) (.there (by kernel_rfl) (.there (by kernel_rfl) (.there (by kernel_rfl) (.there (by kernel_rfl) .here)))))))) (fun _ _=>(.there (by kernel_rfl) (.there (by kernel_rfl) (.there (by kernel_rfl) (.there (by kernel_rfl) (.there (by kernel_rfl) (.there (by kernel_rfl) (.there (by kernel_rfl) (.there (by kernel_rfl) .here))))))))) (fun _ _ _=>(.there (by kernel_rfl) (.there (by kernel_rfl) (.there (by kernel_rfl) (.there (by kernel_rfl) (.there (by kernel_rfl) (.there (by kernel_rfl) (.there (by kernel_rfl) (.there (by kernel_rfl) (.there (by kernel_rfl) .here)))))))))) (fun _ _=>m0) (fun _ _ _=>m3) (fun _ _ _=>⟨rfl,rfl,rfl⟩) (fun hc=>absurd hc hwe) ?_
 intro s7 od7 d2 sj sp o2 rows led led' K7 S7 hf7 ho2 hrows ht7
 replace K7:Kp s s7:=⟨K7.os.trans K5.os,fun z=>K7.gens (K5.gens z)⟩
 obtain⟨Y,hY⟩:∃ Y,Y=(sp,bz led')::(sj,bz led)::(d2,o2)::(rows.map aM.ob++((sp5,bz led5')::(sj5,bz led5)::(j5,o5)::rows5.map aM.ob)):=⟨_,rfl⟩
 have S8:St hb tabs L' (nmC sm res pd wd (.int n tn) cut) ((res,ae (ay []) 0)::(sm,smO dx)::(dx,od7)::([]++(Y++((L,oL)::T)))) s7.heap:=by
  refine (S7.perm ?_)
  rw[hY,List.nil_append]
  have e:(sm,smO dx)::(dx,od7)::(sp,bz led')::(sj,bz led)::(d2,o2)::(rows.map aM.ob++((sp5,bz led5')::(sj5,bz led5)::(j5,o5)::(rows5.map aM.ob++((res,ae [] 0)::(L,oL)::T)))) =
   ((sm,smO dx)::(dx,od7)::((sp,bz led')::(sj,bz led)::(d2,o2)::(rows.map aM.ob++((sp5,bz led5')::(sj5,bz led5)::(j5,o5)::rows5.map aM.ob))))++((res,ae [] 0)::(L,oL)::T):=by simp
  rw[e]
  exact List.perm_middle
 have hd2:(d2,o2)∈Y++((L,oL)::T):=List.mem_append_left _ (by rw[hY];exact m2)
 have hsj:(sj,bz led)∈Y++((L,oL)::T):=List.mem_append_left _ (by rw[hY];exact m1)
 have hob:∀ r∈rows,r.ob∈Y++((L,oL)::T):=fun r hr=>List.mem_append_left _ (by rw[hY];exact .tail _ (.tail _ (.tail _ (List.mem_append_left _ (List.mem_map.mpr ⟨r,hr,rfl⟩)))))
 have hTin:∀ p∈T,p∈Y++((L,oL)::T):=fun p hp=>List.mem_append_right _ (.tail _ hp)
 generalize hT_2:Y++((L,oL)::T)=T₂ at S8 hd2 hsj hob hTin
 refine el ?_
 refine ac S8 m3 ?_
 refine dI S8 (.tail _ (.tail _ (.tail _ (hTin _ hpd)))) ?_
 intro I o Wt fp h_9 IV hown hw S9
 have hrwl:(rw.map aj).length=rw.length:=List.length_map ..
 refine gb (own:=[(I,o)]) (Ro:=[(pd,ae (rw.map aj) nd)]) (IV.walks (A.deeper _) hh) (fun i h hi b hb'=>by rw[List.mem_singleton] at hb';subst hb';exact IV.ex i h hi) rfl IV.ro S9 hw
  (fun i tk l₁ T1=>Ex7 fun od p mb fc X Es nr=>An11 (l₁=nmC sm res pd wd (.int n tn) cut) (T1=(res,ae (ay Es) nr)::(sm,smO dx)::(dx,od)::(X++T₂)) (aY od (mf (aj p) (aj wd) mb fc (.ref d2) (.ref sj) (.ref sp))) (kj (X++T₂) mb (ah p.1) (ah wd.1)) (Fc w (X++T₂) fc (ah wd.1)) (p∈(Str.ofString "", 539)::rw) (SOk X Es) (Es.map (fun e=>(e.f,e.x))=(((rw.take i).filter fun x=>dq g x.1 wd.1).map fun x=>(scr x.1 wd.1,x))) (gU Es) ((∀ e∈Es,e.ft<tk)) (1≤tk)) ?hmono ?_ (fun p hp=>by rw[List.mem_singleton] at hp;subst hp;exact .tail _ (.tail _ (.tail _ (hTin _ hpd)))) ?_ ?_
 case hmono =>
  rintro i tk tk' l T htk ⟨od,p,mb,fc,X,Es,nr,h1,h2,hf,hmb,hfc,hp,hS,hE,hT,hTb,hT1⟩
  exact⟨od,p,mb,fc,X,Es,nr,h1,h2,hf,hmb,hfc,hp,hS,hE,hT,fun e he=>Nat.lt_of_lt_of_le (hTb e he) htk,Nat.le_trans hT1 htk⟩
 ·exact⟨od7,(Str.ofString "", 539),.none,.none,[],[],0,rfl,rfl,hf7,.inl rfl,.inl rfl,.head _,(fun e he=>by cases he),rfl,(fun e he=>by cases he),(fun e he=>by cases he),ht7⟩
 ·rintro E1 i v l₁ T1 own1 s₁ hi hv ⟨od,p,mb,fc,X,Es,nr,rfl,rfl,hf,hmb,hfc,hp,hS,hE,hT,hTb,hT1⟩ S10 hRo hKp
  rw[hrwl] at hi
  have hv':v=aj rw[i]:=by
   have:(rw.map aj)[i]? = some (aj rw[i]):=by simp[hi]
   rw[this] at hv;exact (Option.some.inj hv).symm
  clear hv
  subst hv'
  have hxm:rw[i]∈rw:=List.getElem_mem hi
  have hel:Es.length≤60:=by
   have:=congrArg List.length hE
   rw[List.length_map,List.length_map] at this
   rw[this]
   exact Nat.le_trans (List.length_filter_le _ _) (Nat.le_trans (by rw[List.length_take];exact Nat.min_le_right _ _) hrl)
  refine lu (T:=T₂) (own:=own1) (X:=X) G B (by exact dn 28 hd) (by exact dn 120 hu) hh C (by exact S10) hel hf hmb hfc hd2 ho2 hrows hob hsj (htk p hp).1 (htk _ (.tail _ hxm)).1 (fun q=>(htk _ (.tail _ hxm)).2 p hp q) ?_ (hrs _ hxm) hws ?_ rfl
  ·rcases List.mem_cons.mp hp with rfl | q
   ·decide
   ·exact hrs _ q
  intro s' od' mb' fc' p' X' Es' nr' K' S' hf' hmb' hfc' hp' hE' hk'
  refine⟨_,(res,ae (ay Es') nr')::(sm,smO dx)::(dx,od')::(X'++X++T₂),(by exact S'),⟨od',p',mb',fc',X'++X,Es',nr',rfl,rfl,hf',hmb',hfc',?_,?_,?_,?_,?_,Nat.le_trans hT1 hk'⟩,?_,⟨K'.os.trans hKp.os,fun z=>K'.gens (hKp.gens z)⟩⟩
  ·rcases hp' with rfl | rfl
   ·exact hp
   ·exact .tail _ hxm
  ·rcases hE' with⟨_,rfl⟩ | ⟨_,a,t,rfl,hm,ht1,ht2⟩
   ·exact hS.mono fun p hp=>List.mem_append_right _ hp
   ·intro e he
    rcases List.mem_append.mp he with q | q
    ·exact (hS.mono fun p hp=>List.mem_append_right X' hp) e q
    ·rw[List.mem_singleton] at q;subst q
     exact List.mem_append_left _ hm
  ·rw[List.take_add_one,List.getElem?_eq_getElem hi,Option.toList_some,List.filter_append,List.map_append]
   rcases hE' with⟨hk,rfl⟩ | ⟨hk,a,t,rfl,hm,ht1,ht2⟩
   ·rw[List.filter_cons_of_neg (by simp[hk]),List.filter_nil,List.map_nil,List.append_nil];exact hE
   ·rw[List.map_append,hE,List.filter_cons_of_pos (by simp[hk])];rfl
  ·rcases hE' with⟨_,rfl⟩ | ⟨_,a,t,rfl,hm,ht1,ht2⟩
   ·exact hT
   ·intro e he
    rcases List.mem_append.mp he with q | q
    ·refine⟨(hT e q).1,fun e' he' h=>?_⟩
     rcases List.mem_append.mp he' with q' | q'
     ·exact (hT e q).2 e' q' h
     ·rw[List.mem_singleton] at q';subst q'
      exact absurd h (Nat.ne_of_lt (Nat.lt_of_lt_of_le (hTb e q) ht1))
    ·rw[List.mem_singleton] at q;subst q
     refine⟨Nat.ne_of_gt (Nat.lt_of_lt_of_le hT1 ht1),fun e' he' h=>?_⟩
     rcases List.mem_append.mp he' with q' | q'
     ·exact absurd h.symm (Nat.ne_of_lt (Nat.lt_of_lt_of_le (hTb e' q') ht1))
     ·rw[List.mem_singleton] at q';subst q';rfl
  ·rcases hE' with⟨_,rfl⟩ | ⟨_,a,t,rfl,hm,ht1,ht2⟩
   ·exact fun e he=>Nat.lt_of_lt_of_le (hTb e he) hk'
   ·intro e he
    rcases List.mem_append.mp he with q | q
    ·exact Nat.lt_of_lt_of_le (hTb e q) hk'
    ·rw[List.mem_singleton] at q;subst q;exact ht2
  ·intro p hp
   rw[List.mem_singleton] at hp;subst hp
   exact .tail _ (.tail _ (.tail _ (List.mem_append_right _ (hTin _ hpd))))
 ·rintro s' l' T' hKp S10 ⟨od,p,mb,fc,X,Es,nr,rfl,rfl,hf,hmb,hfc,hp,hS,hE,hT,hTb,hT1⟩ hRo
  rw[hrwl,List.take_length] at hE
  replace hKp:Kp s s':=⟨hKp.os.trans K7.os,fun z=>hKp.gens (K7.gens z)⟩
  refine ak ?_
  refine ap ?_
  refine aq G S10 (v:=.ref 280) (by kernel_rfl) ?_
  refine aN G ?_
  refine args_cons ?_
  refine ac S10 m4 ?_
  refine args_cons ?_
  refine ac S10 m1 ?_
  refine args_nil ?_
  refine⟨⟨_,_,_,S10⟩,?_⟩
  have hel:Es.length≤60:=by
   have:=congrArg List.length hE
   rw[List.length_map,List.length_map] at this
   rw[this]
   exact Nat.le_trans (List.length_filter_le _ _) hrl
  have hEs:∀ e∈Es,e.x∈rw∧e.f=scr e.x.1 wd.1:=by
   intro e he
   have:(e.f,e.x)∈Es.map (fun e=>(e.f,e.x)):=List.mem_map.mpr ⟨e,he,rfl⟩
   rw[hE] at this
   obtain⟨y,hy,hye⟩:=List.mem_map.mp this
   have h1:=congrArg Prod.fst hye
   have h2:=congrArg Prod.snd hye
   dsimp only at h1 h2
   subst h2
   exact⟨(List.mem_filter.mp hy).1,h1.symm⟩
  refine N (rk:=rk) S10 (by show A.depth+1+20<_;exact dn 19 hd) (by show A.units+3+100<_;exact dn 97 hu) hh m0 (hS.mono fun p hp=>.tail _ (.tail _ (.tail _ (List.mem_append_left _ hp)))) hT (fun e he=>hrs _ (hEs e he).1) hel hn hn60 (hrk Es hEs) ?_
  intro s11 X1 r_1 nr1 P K11 S11 hperm hpw
  replace K11:Kp s s11:=⟨K11.os.trans hKp.os,fun z=>K11.gens (hKp.gens z)⟩
  refine af S11 (.old (.there .here)) ?_
  intro h12 S12
  refine az (by exact S12) fun s12 K12 S12=>?_
  replace K12:Kp s s12:=⟨K12.os.trans K11.os,fun z=>K12.gens (K11.gens z)⟩
  refine b7 ?_
  have hPE:∀ e∈P.take n,e∈Es:=fun e he=>hperm.mem_iff.mp (List.mem_of_mem_take he)
  refine eA (hb:=hb) (tabs:=tabs) hh ?_ (.inr ⟨_,_,_,rfl⟩) (by decide) (by decide) rfl (by decide)
  refine ac S12 m1 ?_
  refine⟨L',_,_,r_1,ay (P.take n),nr1,fun i acc X=>X=[]∧acc=((P.take n).take i).map fun e=>aj e.x,rfl,S12,m0,?_,⟨rfl,rfl⟩,?_,?_⟩
  ·rw[aH,List.length_take]
   exact Nat.le_trans (Nat.min_le_left _ _) (by exact up 940 hn60)
  ·rintro C' D oL' E' i v acc c X' own s_2 hi hacc ⟨rfl,hJ⟩ hr_2 K2 S_2
   have hv:∃ e,(P.take n)[i]? = some e∧v=.ref e.a:=by
    rw[ay,List.getElem?_map] at hi
    obtain⟨e,h1,h2⟩:=Option.map_eq_some_iff.mp hi
    exact⟨e,h1,h2.symm⟩
   obtain⟨e,he,rfl⟩:=hv
   have heE:=hPE e (List.mem_of_getElem? he)
   have hm:=hS e heE
   refine bG hh S_2 (List.mem_append_left _ (.tail _ (.tail _ (.tail _ (List.mem_append_right _ (.tail _ (.tail _ (.tail _ (List.mem_append_left _ hm)))))))) ) ?_
   intro h_3 S_3
   refine aA ?_
   refine aG (env:=compEnv _ C' _) (by exact S_3) (.new (by kernel_rfl)) ?_
   intro h_4 S4
   refine aA ?_
   refine aG (env:=compEnv _ C' _) (by exact S4) (.new (by kernel_rfl)) ?_
   intro h_5 S5
   refine bx ?_
   refine aw (env:=compEnv _ C' _) (by exact S5) m0 ?_
   refine⟨[],_,⟨K2.os,K2.gens⟩,(by exact S5),rfl,?_⟩
   rw[List.take_add_one,he,hJ]
   simp
  ·rintro s3 D acc c X' K3 S_3 hl_3 ⟨rfl,rfl⟩
   replace K3:Kp s s3:=⟨K3.os.trans K12.os,fun z=>K3.gens (K12.gens z)⟩
   subst hT_2
   have e1:(((P.take n).take (ay (P.take n)).length).map fun e=>aj e.x)=((P.map fun e=>e.x).take n).map aj:=by
    rw[aH,List.take_length,List.map_take,List.map_take,List.map_map];rfl
   rw[e1] at S_3
   have S4:=S_3.perm (T':=(L,oL)::(D,ae (((P.map fun e=>e.x).take n).map aj) c)::((((r_1,ae (ay (P.take n)) nr1)::(X1++((res,ae (ay Es) nr)::(sm,smO dx)::(dx,od)::(X++Y))))++T))) (by
    have e:(D,ae (((P.map fun e=>e.x).take n).map aj) c)::([]++((r_1,ae (ay (P.take n)) nr1)::(X1++((res,ae (ay Es) nr)::(sm,smO dx)::(dx,od)::(X++(Y++((L,oL)::T))))))) =
     ((D,ae (((P.map fun e=>e.x).take n).map aj) c)::(((r_1,ae (ay (P.take n)) nr1)::(X1++((res,ae (ay Es) nr)::(sm,smO dx)::(dx,od)::(X++Y))))))++((L,oL)::T):=by simp
    rw[e]
    exact List.perm_middle)
   have S5:=S4.leave 0 rfl r
   refine k s3 ((r_1,ae (ay (P.take n)) nr1)::(X1++((res,ae (ay Es) nr)::(sm,smO dx)::(dx,od)::(X++Y)))) D c (P.map Sc.x) K3 (by exact S5) ?_ ?_
   ·have h1:(Es.map fun e=>e.x)=rw.filter fun x=>dq g x.1 wd.1:=by
     have:=congrArg (List.map Prod.snd) hE
     rw[List.map_map,List.map_map] at this
     have e2:(Prod.snd ∘ fun x:Str×Tok=>(scr x.1 wd.1,x))=id:=rfl
     rw[e2,List.map_id] at this
     exact this
    rw[← h1]
    exact hperm.map _
   ·rw[List.pairwise_map]
    refine hpw.imp_of_mem ?_
    intro a b ha hb' h
    have h1:=(hEs a (hperm.mem_iff.mp ha)).2
    have h2:=(hEs b (hperm.mem_iff.mp hb')).2
    rw[← h1,← h2]
    exact h
end
end
section
section
variable{prog:Program}{w:World}{A:Around}{E:VP}{s:Shared}{K:Frag}{hb:Heap}{tabs:List Addr}{L a b:Addr}{l:List (Str×Value)}{T:List (Addr×Obj)}
theorem cX{f g:UInt64}{t u:Tok}{Q:BP}(NB:NoneBooked s.heap)(ht:t≠0)(hu:u≠0)(he:t=u→f=g)(hs:(Float64.cmp f f == some Ordering.eq)=true)(h:Q (Float64.cmp f g == some Ordering.eq) s) :
  wpAny (model prog w) A (eqBool (.float f t) (.float g u)) Q E s:=by
 have one:f=g→Q true s:=fun e=>by subst e;rw[hs] at h;exact h
 unfold eqBool
 show wpAny _ _ (if (Value.float f t == Value.float g u)=true then _ else _) Q E s
 by_cases hab:(Value.float f t == Value.float g u)=true
 ·rw[if_pos hab]
  have e:f=g:=by have:=eq_of_beq hab;injection this
  exact wpAny_bind (wpAny_rule (wpAny_pure (one e)))
 ·rw[if_neg hab]
  have rest:wpAny (model prog w) A (richCompare .Eq (.float f t) (.float g u) >>= truthOfDropped) Q E s :=
   wpAny_bind (AutoFloatOps.eq_0 (wpAny_truthy_bool h))
  show wpAny _ _ (isSame.created (f == g && !Float64.isNaN f) t u >>= fun b=>if b=true then pure true else (richCompare .Eq (.float f t) (.float g u) >>= truthOfDropped)) Q E s
  refine wpAny_bind ?_
  unfold isSame.created
  have h0:(t == 0 || u == 0)=false:=by
   rw[Bool.or_eq_false_iff]
   exact⟨beq_eq_false_iff_ne.mpr ht,beq_eq_false_iff_ne.mpr hu⟩
  refine KFB.if_not h0 ?_
  by_cases htu:t=u
  ·refine KFB.if_so (beq_iff_eq.mpr htu) (wpAny_pure ?_)
   exact wpAny_pure (one (he htu))
  ·refine KFB.if_not (beq_eq_false_iff_ne.mpr htu) ?_
   by_cases hfg:(f == g && !Float64.isNaN f)=true
   ·have efg:f=g:=by
     have:=(Bool.and_eq_true_iff.mp hfg).1
     exact eq_of_beq this
    refine KFB.if_not (by rw[hfg];rfl) ?_
    refine wpAny_bind (wpAny_sharingNotTold_none NB ?_)
    refine KFB.if_not rfl ?_
    refine wpAny_bind (wpAny_sharingNotTold_none NB ?_)
    refine KFB.if_not rfl ?_
    refine wpAny_bind (wpAny_rule ?_)
    refine wpAny_bind (wpAny_askSetting ?_)
    refine wpAny_pure ?_
    split
    ·exact wpAny_pure (one efg)
    ·exact rest
   ·refine KFB.if_so (by rw[Bool.eq_false_iff.mpr hfg];rfl) (wpAny_pure ?_)
    exact rest
theorem gE{x1 x2 y1 y2:Value}{Q:VP}(ha:s.heap.get? a=some (au [x1,x2]))(hb':s.heap.get? b=some (au [y1,y2]))
  (h:wpAny (model prog w) A.in1 (eqBool x1 y1) (fun e1 s1=>(e1=true→wpAny (model prog w) A.in1 (eqBool x2 y2) (fun e2 s2=>(e2=true→Q (.bool false) s2)∧(e2=false→wpAny (model prog w) A.in1 (compareOp .Lt x2 y2) Q E s2)) E s1) ∧
   (e1=false→wpAny (model prog w) A.in1 (compareOp .Lt x1 y1) Q E s1)) E s) :
  wpAny (model prog w) A (call (.builtin "tuple.__lt__") [.ref a,.ref b]) Q E s:=by
 have hTa:s.TypeIs (.ref a) "tuple" := ⟨_,ha,rfl⟩
 have hTb:s.TypeIs (.ref b) "tuple" := ⟨_,hb',rfl⟩
 refine wpAny_call_entry F.slot_tuple_lt hTa F.entry_tuple_lt ?_ (F.args_tuple_lt_2 _ _)
 show wpAny _ _ (isInstance (.ref b) (.type "tuple") >>= _) _ _ s
 refine wpAny_bind (wpAny_isInstance hTb isSubtype_tuple_tuple ?_)
 refine KFB.if_not rfl ?_
 refine wpAny_bind (wpAny_bind (wpAny_seqItems ha rfl (wpAny_pure ?_)))
 refine wpAny_bind (wpAny_bind (wpAny_seqItems hb' rfl (wpAny_pure ?_)))
 show wpAny _ _ (forIn [(x1,y1),(x2,y2)] _ _ >>= _) _ _ s
 refine wpAny_bind ?_
 rw[List.forIn_cons]
 refine wpAny_bind (wpAny_bind (wpAny_mono h (fun e1 s1 z=>?_) fun _ _ z=>z))
 cases e1 with
 | true =>
  refine KFB.if_not rfl (wpAny_pure ?_)
  show wpAny _ _ (forIn [(x2,y2)] _ _) _ _ s1
  rw[List.forIn_cons]
  refine wpAny_bind (wpAny_bind (wpAny_mono (z.1 rfl) (fun e2 s2 z=>?_) fun _ _ z=>z))
  cases e2 with
  | true =>
   refine KFB.if_not rfl (wpAny_pure ?_)
   show wpAny _ _ (forIn [] _ _) _ _ s2
   rw[List.forIn_nil]
   exact wpAny_pure (wpAny_pure ⟨_,rfl,z.1 rfl⟩)
  | false =>
   refine KFB.if_so rfl ?_
   refine wpAny_bind (wpAny_rule (wpAny_bind ?_))
   exact wpAny_mono (z.2 rfl) (fun v s' q=>wpAny_bind (wpAny_pure (wpAny_pure (wpAny_pure (wpAny_pure ⟨_,rfl,q⟩))))) fun _ _ q=>q
 | false =>
  refine KFB.if_so rfl ?_
  refine wpAny_bind (wpAny_rule (wpAny_bind ?_))
  exact wpAny_mono (z.2 rfl) (fun v s' q=>wpAny_bind (wpAny_pure (wpAny_pure (wpAny_pure (wpAny_pure ⟨_,rfl,q⟩))))) fun _ _ q=>q
theorem gF{x1 x2 y1 y2:Value}{Q:VP}(ha:s.heap.get? a=some (au [x1,x2]))(hb':s.heap.get? b=some (au [y1,y2]))
  (h:wpAny (model prog w) A.in1 (eqBool x1 y1) (fun e1 s1=>(e1=true→wpAny (model prog w) A.in1 (eqBool x2 y2) (fun e2 s2=>(e2=true→Q (.bool false) s2)∧(e2=false→wpAny (model prog w) A.in1 (compareOp .Gt x2 y2) Q E s2)) E s1) ∧
   (e1=false→wpAny (model prog w) A.in1 (compareOp .Gt x1 y1) Q E s1)) E s) :
  wpAny (model prog w) A (call (.builtin "tuple.__gt__") [.ref a,.ref b]) Q E s:=by
 have hTa:s.TypeIs (.ref a) "tuple" := ⟨_,ha,rfl⟩
 have hTb:s.TypeIs (.ref b) "tuple" := ⟨_,hb',rfl⟩
 refine wpAny_call_entry F.slot_tuple_gt hTa F.entry_tuple_gt ?_ (F.args_tuple_gt_2 _ _)
 show wpAny _ _ (isInstance (.ref b) (.type "tuple") >>= _) _ _ s
 refine wpAny_bind (wpAny_isInstance hTb isSubtype_tuple_tuple ?_)
 refine KFB.if_not rfl ?_
 refine wpAny_bind (wpAny_bind (wpAny_seqItems ha rfl (wpAny_pure ?_)))
 refine wpAny_bind (wpAny_bind (wpAny_seqItems hb' rfl (wpAny_pure ?_)))
 show wpAny _ _ (forIn [(x1,y1),(x2,y2)] _ _ >>= _) _ _ s
 refine wpAny_bind ?_
 rw[List.forIn_cons]
 refine wpAny_bind (wpAny_bind (wpAny_mono h (fun e1 s1 z=>?_) fun _ _ z=>z))
 cases e1 with
 | true =>
  refine KFB.if_not rfl (wpAny_pure ?_)
  show wpAny _ _ (forIn [(x2,y2)] _ _) _ _ s1
  rw[List.forIn_cons]
  refine wpAny_bind (wpAny_bind (wpAny_mono (z.1 rfl) (fun e2 s2 z=>?_) fun _ _ z=>z))
  cases e2 with
  | true =>
   refine KFB.if_not rfl (wpAny_pure ?_)
   show wpAny _ _ (forIn [] _ _) _ _ s2
   rw[List.forIn_nil]
   exact wpAny_pure (wpAny_pure ⟨_,rfl,z.1 rfl⟩)
  | false =>
   refine KFB.if_so rfl ?_
   refine wpAny_bind (wpAny_rule (wpAny_bind ?_))
   exact wpAny_mono (z.2 rfl) (fun v s' q=>wpAny_bind (wpAny_pure (wpAny_pure (wpAny_pure (wpAny_pure ⟨_,rfl,q⟩))))) fun _ _ q=>q
 | false =>
  refine KFB.if_so rfl ?_
  refine wpAny_bind (wpAny_rule (wpAny_bind ?_))
  exact wpAny_mono (z.2 rfl) (fun v s' q=>wpAny_bind (wpAny_pure (wpAny_pure (wpAny_pure (wpAny_pure ⟨_,rfl,q⟩))))) fun _ _ q=>q
theorem jJ{x1 x2 y1 y2:Value}{Q:VP}(hu:A.units<cLine)(ha:s.heap.get? a=some (au [x1,x2]))(hb':s.heap.get? b=some (au [y1,y2]))
  (h:wpAny (model prog w) A.in1 (eqBool x1 y1) (fun e1 s1=>(e1=true→wpAny (model prog w) A.in1 (eqBool x2 y2) (fun e2 s2=>(e2=true→Q (.bool false) s2)∧(e2=false→wpAny (model prog w) A.in1 (compareOp .Lt x2 y2) (fun v s'=>v≠.notImplemented∧Q v s') E s2)) E s1) ∧
   (e1=false→wpAny (model prog w) A.in1 (compareOp .Lt x1 y1) (fun v s'=>v≠.notImplemented∧Q v s') E s1)) E s) :
  wpAny (model prog w) A (compareOp .Lt (.ref a) (.ref b)) Q E s:=by
 show wpAny (model prog w) A (richCompare .Lt (.ref a) (.ref b)) Q E s
 refine wpAny_richCompare_same_room (op:=.Lt) ⟨_,ha,rfl⟩ ⟨_,hb',rfl⟩ F.slot_tuple_lt (gE ha hb' ?_) hu
 refine wpAny_mono h (fun e1 s1 z=>⟨fun he=>wpAny_mono (z.1 he) (fun e2 s2 z2=>⟨fun he2=>⟨nofun,z2.1 he2⟩,fun he2=>z2.2 he2⟩) fun _ _ q=>q,fun he=>z.2 he⟩) fun _ _ q=>q
theorem mR{x1 x2 y1 y2:Value}{Q:VP}(hu:A.units<cLine)(ha:s.heap.get? a=some (au [x1,x2]))(hb':s.heap.get? b=some (au [y1,y2]))
  (h:wpAny (model prog w) A.in1 (eqBool x1 y1) (fun e1 s1=>(e1=true→wpAny (model prog w) A.in1 (eqBool x2 y2) (fun e2 s2=>(e2=true→Q (.bool false) s2)∧(e2=false→wpAny (model prog w) A.in1 (compareOp .Gt x2 y2) (fun v s'=>v≠.notImplemented∧Q v s') E s2)) E s1) ∧
   (e1=false→wpAny (model prog w) A.in1 (compareOp .Gt x1 y1) (fun v s'=>v≠.notImplemented∧Q v s') E s1)) E s) :
  wpAny (model prog w) A (compareOp .Gt (.ref a) (.ref b)) Q E s:=by
 show wpAny (model prog w) A (richCompare .Gt (.ref a) (.ref b)) Q E s
 refine wpAny_richCompare_same_room (op:=.Gt) ⟨_,ha,rfl⟩ ⟨_,hb',rfl⟩ F.slot_tuple_gt (gF ha hb' ?_) hu
 refine wpAny_mono h (fun e1 s1 z=>⟨fun he=>wpAny_mono (z.1 he) (fun e2 s2 z2=>⟨fun he2=>⟨nofun,z2.1 he2⟩,fun he2=>z2.2 he2⟩) fun _ _ q=>q,fun he=>z.2 he⟩) fun _ _ q=>q
end
section
variable{w:World}{A:Around}{E:VP}{s:Shared}{hb:Heap}{L:Addr}{l:List (Str×Value)}{T:List (Addr×Obj)}{Es:List Sc}{rk:UInt64→Str→Nat}
theorem mB{e e':Sc}{Q:VP}(hu:A.units<cLine)(NB:NoneBooked s.heap)(hT:gU Es)(hR:gr rk Es)(he:e∈Es)(he':e'∈Es)(ha:s.heap.get? e.a=some (au [.float e.f e.ft,aj e.x]))(hb':s.heap.get? e'.a=some (au [.float e'.f e'.ft,aj e'.x]))
  (h:Q (.bool (decide (rkS rk e<rkS rk e'))) s):wpAny (model pw w) A (compareOp .Lt (.ref e.a) (.ref e'.a)) Q E s:=by
 have hself:(Float64.cmp e.f e.f == some Ordering.eq)=true:=(Bool.and_eq_true_iff.mp ((hR e he e he).1.mpr rfl)).1
 obtain⟨r1,r2,r3,r4,r5⟩:=hR e he e' he'
 refine jJ hu ha hb' ?_
 refine cX NB (hT e he).1 (hT e' he').1 (fun q=>(hT e he).2 e' he' q) hself ?_
 refine⟨fun q=>?_,fun q=>?_⟩
 ·refine eqBool_str ⟨fun q2=>?_,fun q2=>?_⟩
  ·have:rkS rk e=rkS rk e':=r1.mp (by rw[q,q2];rfl)
   rw[show decide (rkS rk e<rkS rk e')=false from decide_eq_false (by lia)] at h
   exact h
  ·refine lt_str ⟨nofun,?_⟩
   have:=r3 q
   rw[show decide (e.x.1.cps.toList<e'.x.1.cps.toList)=decide (rkS rk e<rkS rk e') from decide_eq_decide.mpr this]
   exact h
 ·refine AutoFloatOps.lt_0 ⟨nofun,?_⟩
  have:=r2 q
  rw[show (Float64.cmp e.f e'.f == some Ordering.lt)=decide (rkS rk e<rkS rk e') from by
   by_cases z:rkS rk e<rkS rk e'
   ·rw[decide_eq_true z];exact this.mpr z
   ·rw[decide_eq_false z];exact Bool.eq_false_iff.mpr fun q=>z (this.mp q)]
  exact h
theorem sc_gt{e e':Sc}{Q:VP}(hu:A.units<cLine)(NB:NoneBooked s.heap)(hT:gU Es)(hR:gr rk Es)(he:e∈Es)(he':e'∈Es)(ha:s.heap.get? e.a=some (au [.float e.f e.ft,aj e.x]))(hb':s.heap.get? e'.a=some (au [.float e'.f e'.ft,aj e'.x]))
  (h:Q (.bool (decide (rkS rk e'<rkS rk e))) s):wpAny (model pw w) A (compareOp .Gt (.ref e.a) (.ref e'.a)) Q E s:=by
 have hself:(Float64.cmp e.f e.f == some Ordering.eq)=true:=(Bool.and_eq_true_iff.mp ((hR e he e he).1.mpr rfl)).1
 obtain⟨r1,r2,r3,r4,r5⟩:=hR e he e' he'
 refine mR hu ha hb' ?_
 refine cX NB (hT e he).1 (hT e' he').1 (fun q=>(hT e he).2 e' he' q) hself ?_
 refine⟨fun q=>?_,fun q=>?_⟩
 ·refine eqBool_str ⟨fun q2=>?_,fun q2=>?_⟩
  ·have:rkS rk e=rkS rk e':=r1.mp (by rw[q,q2];rfl)
   rw[show decide (rkS rk e'<rkS rk e)=false from decide_eq_false (by exact z9g this)] at h
   exact h
  ·refine PySem.P.gt_str ⟨nofun,?_⟩
   have e1:decide (e'.x.1.cps.toList<e.x.1.cps.toList)=decide (rkS rk e'<rkS rk e):=decide_eq_decide.mpr (r5 q)
   rw[e1]
   exact h
 ·refine AutoFloatOps.gt_0 ⟨nofun,?_⟩
  have:=r4 q
  rw[show (Float64.cmp e.f e'.f == some Ordering.gt)=decide (rkS rk e'<rkS rk e) from by
   by_cases z:rkS rk e'<rkS rk e
   ·rw[decide_eq_true z];exact this.mpr z
   ·rw[decide_eq_false z];exact Bool.eq_false_iff.mpr fun q=>z (this.mp q)]
  exact h
end
end
section
section
variable{prog:Program}{w:World}{A:Around}{E:VP}{s:Shared}{a b:Addr}
theorem gG{x1 x2 y1 y2:Value}{Q:VP}(ha:s.heap.get? a=some (au [x1,x2]))(hb':s.heap.get? b=some (au [y1,y2]))
  (h:wpAny (model prog w) A.in1 (eqBool x1 y1) (fun e1 s1=>(e1=true→wpAny (model prog w) A.in1 (eqBool x2 y2) (fun e2 s2=>Q (.bool e2) s2) E s1)∧(e1=false→Q (.bool false) s1)) E s) :
  wpAny (model prog w) A (call (.builtin "tuple.__eq__") [.ref a,.ref b]) Q E s:=by
 have hTa:s.TypeIs (.ref a) "tuple" := ⟨_,ha,rfl⟩
 have hTb:s.TypeIs (.ref b) "tuple" := ⟨_,hb',rfl⟩
 refine wpAny_call_entry F.slot_tuple_eq hTa F.entry_tuple_eq ?_ (F.args_tuple_eq_2 _ _)
 show wpAny _ _ (isInstance (.ref b) (.type "tuple") >>= _) _ _ s
 refine wpAny_bind (wpAny_isInstance hTb isSubtype_tuple_tuple ?_)
 refine KFB.if_not rfl ?_
 refine wpAny_bind (wpAny_bind (wpAny_seqItems ha rfl (wpAny_pure ?_)))
 refine wpAny_bind (wpAny_bind (wpAny_seqItems hb' rfl (wpAny_pure ?_)))
 show wpAny _ _ (forIn [(x1,y1),(x2,y2)] _ _ >>= _) _ _ s
 refine wpAny_bind ?_
 rw[List.forIn_cons]
 refine wpAny_bind (wpAny_bind (wpAny_mono h (fun e1 s1 z=>?_) fun _ _ z=>z))
 cases e1 with
 | true =>
  refine KFB.if_not rfl (wpAny_pure ?_)
  show wpAny _ _ (forIn [(x2,y2)] _ _) _ _ s1
  rw[List.forIn_cons]
  refine wpAny_bind (wpAny_bind (wpAny_mono (z.1 rfl) (fun e2 s2 z=>?_) fun _ _ z=>z))
  cases e2 with
  | true =>
   refine KFB.if_not rfl (wpAny_pure ?_)
   show wpAny _ _ (forIn [] _ _) _ _ s2
   rw[List.forIn_nil]
   exact wpAny_pure (wpAny_pure ⟨_,rfl,z⟩)
  | false =>
   refine KFB.if_so rfl ?_
   exact wpAny_bind (wpAny_pure (wpAny_pure (wpAny_pure (wpAny_pure ⟨_,rfl,z⟩))))
 | false =>
  refine KFB.if_so rfl ?_
  exact wpAny_bind (wpAny_pure (wpAny_pure (wpAny_pure (wpAny_pure ⟨_,rfl,z.2 rfl⟩))))
end
section
variable{w:World}{A:Around}{E:VP}{s:Shared}{Es:List Sc}{rk:UInt64→Str→Nat}
theorem lJ{e e':Sc}{Q:BP}(hu:A.units<cLine)(NB:NoneBooked s.heap)(hT:gU Es)(hR:gr rk Es)(he:e∈Es)(he':e'∈Es)(ha:s.heap.get? e.a=some (au [.float e.f e.ft,aj e.x]))(hb':s.heap.get? e'.a=some (au [.float e'.f e'.ft,aj e'.x]))
  (h:Q (decide (rkS rk e=rkS rk e')) s):wpAny (model pw w) A (eqBool (.ref e.a) (.ref e'.a)) Q E s:=by
 have hself:(Float64.cmp e.f e.f == some Ordering.eq)=true:=(Bool.and_eq_true_iff.mp ((hR e he e he).1.mpr rfl)).1
 obtain⟨r1,-⟩:=hR e he e' he'
 unfold eqBool
 try with_reducible refine wpAny_holding ?_
 show wpAny _ _ (if (Value.ref e.a == Value.ref e'.a)=true then _ else _) Q E s
 by_cases hab:(Value.ref e.a == Value.ref e'.a)=true
 ·rw[if_pos hab]
  have ea:e.a=e'.a:=by have:=eq_of_beq hab;injection this
  rw[ea,hb'] at ha
  have e1:=congrArg Obj.data (Option.some.inj ha)
  injection e1 with e1 _
  have e2:[Value.float e'.f e'.ft,aj e'.x]=[Value.float e.f e.ft,aj e.x]:=by
   have:=congrArg Array.toList e1
   simpa using this
  injection e2 with h1 h2
  injection h2 with h2 _
  injection h1 with f1 _
  injection h2 with x1 _
  have:rkS rk e=rkS rk e':=by unfold rkS;rw[f1,x1]
  rw[decide_eq_true this] at h
  exact wpAny_bind (wpAny_rule (wpAny_pure h))
 ·rw[if_neg hab]
  refine wpAny_bind (wpAny_richCompare_same_room (op:=.Eq) ⟨_,ha,rfl⟩ ⟨_,hb',rfl⟩ F.slot_tuple_eq (gG ha hb' ?_) hu)
  refine cX NB (hT e he).1 (hT e' he').1 (fun q=>(hT e he).2 e' he' q) hself ?_
  refine⟨fun q=>eqBool_str ⟨nofun,wpAny_truthy_bool ?_⟩,fun q=>⟨nofun,wpAny_truthy_bool ?_⟩⟩
  ·rw[show (e.x.1 == e'.x.1)=decide (rkS rk e=rkS rk e') from by
    rw[q,Bool.true_and] at r1
    by_cases z:rkS rk e=rkS rk e'
    ·rw[decide_eq_true z];exact r1.mpr z
    ·rw[decide_eq_false z];exact Bool.eq_false_iff.mpr fun q=>z (r1.mp q)]
   exact h
  ·have z:¬ rkS rk e=rkS rk e':=fun z=>by
    have:=r1.mpr z
    rw[q] at this;cases this
   rw[decide_eq_false z] at h
   exact h
end
end
section
def par(i:Nat):Nat:=(i - 1) / 2
inductive ko (t:Nat):Nat→Prop
 | refl:ko t t
 | child {p c:Nat}:ko t p→1≤c→par c=p→ko t c
theorem bO{i:Nat}(h:1≤i):par i<i:=by unfold par;exact zdq h
theorem cQ{c p:Nat}(h:1≤c)(e:par c=p):c=2 * p+1∨c=2 * p+2:=by unfold par at e;exact zdr h e
theorem ko.ge{t p:Nat}(h:ko t p):t≤p:=by
 induction h with
 | refl=>exact Nat.le_refl _
 | child h h1 e ih=>have:=bO h1;exact zdo e ih this
theorem ko.up{t p:Nat}(h:ko t p)(hn:p≠t):ko t (par p)∧1≤p:=by
 cases h with
 | refl=>exact absurd rfl hn
 | child h h1 e=>exact⟨by rw[e];exact h,h1⟩
def aJ(K:Nat→Int)(m t:Nat):Prop:=∀ i,1≤i→i<m→t≤par i→K (par i)≤K i
def kl(K:Nat→Int)(m t pos:Nat):Prop:=ko t pos∧pos<m∧(∀ i,1≤i→i<m→t≤par i→par i≠pos→i≠pos→K (par i)≤K i)∧(pos≠t→∀ c,1≤c→c<m→par c=pos→K (par pos)≤K c)
def UpI(K:Nat→Int)(m t pos:Nat):Prop:=ko t pos∧pos<m∧(∀ i,1≤i→i<m→t≤par i→i≠pos→K (par i)≤K i)∧(pos≠t→∀ c,1≤c→c<m→par c=pos→K (par pos)≤K c)
def fK(K:Nat→Int)(a b:Nat):Nat→Int:=fun i=>if i=a then K b else if i=b then K a else K i
theorem eH{K:Nat→Int}{m t:Nat}(h:aJ K m (t+1))(ht:t<m):kl K m t t:=by
 refine⟨.refl,ht,fun i h1 hm hp hn _=>h i h1 hm ?_,fun q=>absurd rfl q⟩
 exact zdp hp hn
theorem nW{K:Nat→Int}{m t pos:Nat}(h:kl K m t pos)(hm:m≤2 * pos+1):UpI K m t pos:=by
 obtain⟨h1,h2,h3,h4⟩:=h
 refine⟨h1,h2,fun i i1 im hp hn=>h3 i i1 im hp (fun e=>?_) hn,h4⟩
 rcases cQ i1 e with q | q<;> lia
theorem j8{K:Nat→Int}{m t pos c:Nat}(h:kl K m t pos)(hc1:1≤c)(hc:par c=pos)(hm:c<m)(hmin:∀ s,1≤s→s<m→par s=pos→K c≤K s):kl (fK K c pos) m t c:=by
 obtain⟨h1,h2,h3,h4⟩:=h
 have hlt:=bO hc1
 have hcp:c≠pos:=by exact za4 hc hlt
 refine⟨.child h1 hc1 hc,hm,fun i i1 im hp hn1 hn2=>?_,fun _ s s1 sm hs=>?_⟩
 ·unfold fK
  have hil:=bO i1
  rw[if_neg hn1,if_neg hn2]
  by_cases e1:par i=pos
  ·rw[if_pos e1]
   by_cases e2:i=pos
   ·lia
   ·rw[if_neg e2];exact hmin i i1 im e1
  ·rw[if_neg e1]
   by_cases e2:i=pos
   ·rw[if_pos e2]
    subst e2
    have:i≠t:=fun e=>by have:=h1.ge;subst e;exact zdy hil hp
    exact h4 this c hc1 hm hc
   ·rw[if_neg e2]
    exact h3 i i1 im hp e1 e2
 ·unfold fK
  have hsl:=bO s1
  have e1:s≠c:=by exact za4 hs hsl
  have e2:s≠pos:=by exact ze1 hc hlt hs hsl
  rw[if_neg e1,if_neg e2,hc,if_neg (Ne.symm hcp),if_pos rfl]
  have:=h3 s s1 sm (by rw[hs];have:=h1.ge;exact ze2 hc hlt this) (by rw[hs];exact hcp) e2
  rw[hs] at this
  exact this
theorem ma{K:Nat→Int}{m t pos:Nat}(h:UpI K m t pos)(hn:pos≠t)(hx:K pos<K (par pos)):UpI (fK K (par pos) pos) m t (par pos):=by
 obtain⟨h1,h2,h3,h4⟩:=h
 obtain⟨hd,hp1⟩:=h1.up hn
 have hlt:=bO hp1
 have hne:par pos≠pos:=by exact za2 hlt
 refine⟨hd,by exact z9m h2 hlt,fun i i1 im hp hni=>?_,fun hnt c c1 cm hc=>?_⟩
 ·unfold fK
  have hil:=bO i1
  rw[if_neg hni]
  by_cases e2:i=pos
  ·subst e2
   rw[if_pos rfl,if_pos rfl]
   exact zdz hx
  ·rw[if_neg e2]
   by_cases e1:par i=par pos
   ·rw[if_pos e1]
    have:=h3 i i1 im hp e2
    rw[e1] at this
    exact ze0 hx this
   ·rw[if_neg e1]
    by_cases e3:par i=pos
    ·rw[if_pos e3]
     exact h4 hn i i1 im e3
    ·rw[if_neg e3]
     exact h3 i i1 im hp e2
 ·obtain⟨hd2,hpp1⟩:=hd.up hnt
  have hlt2:=bO hpp1
  have hup:=h3 (par pos) hpp1 (by exact z9m h2 hlt) hd2.ge hne
  unfold fK
  have hcl:=bO c1
  have f1:par (par pos)≠par pos:=by exact za2 hlt2
  have f2:par (par pos)≠pos:=by exact ze3 hlt hlt2
  rw[if_neg f1,if_neg f2]
  have g1:c≠par pos:=by exact za4 hc hcl
  rw[if_neg g1]
  by_cases e2:c=pos
  ·rw[if_pos e2];exact hup
  ·rw[if_neg e2]
   have:=h3 c c1 cm (by rw[hc];exact hd.ge) e2
   rw[hc] at this
   exact zdx hup this
theorem iY{K:Nat→Int}{m t pos:Nat}(h:UpI K m t pos)(he:pos=t∨K (par pos)≤K pos):aJ K m t:=by
 obtain⟨h1,h2,h3,h4⟩:=h
 intro i i1 im hp
 by_cases e:i=pos
 ·subst e
  rcases he with q | q
  ·have:=bO i1;exact zdu hp q this
  ·exact q
 ·exact h3 i i1 im hp e
theorem ln{K:Nat→Int}{m:Nat}(h:aJ K m 0):∀ i,i<m→K 0≤K i:=by
 intro i
 induction i using Nat.strongRecOn with
 | _ i ih =>
  intro hi
  by_cases e:i=0
  ·subst e;exact Int.le_refl _
  ·have hl:=bO (i:=i) (by exact zds e)
   have:=ih (par i) hl (by exact z9m hi hl)
   have:=h i (by exact zds e) hi (Nat.zero_le _)
   lia
end
section
theorem hq_plain:plainId "_heapq.heapify.sift" = true:=by decide +kernel
theorem dJ:entryFor table "_heapq.heapify.sift" = some Builtin.«_heapq.heapify.sift»:=entryFor_of_tree (by kernel_rfl)
section
variable{prog:Program}{w:World}{A:Around}{E:VP}{s:Shared}{hb:Heap}{tabs:List Addr}{L a:Addr}{l:List (Str×Value)}{T:List (Addr×Obj)}{vs:List Value}{c pos top:Nat}{after:Int}{res:Value}{R:Result→Shared→Prop}
abbrev dP (a:Addr) (down:Bool) (pos top:Nat) (res:Value) (after:Int):Code:=.builtin "_heapq.heapify.sift" ⟨[.ref a,.bool false,.bool down,rawInt pos,rawInt top,res,rawInt after],[]⟩
theorem jf(S:St hb tabs L l ((a,ae vs c)::T) s.heap)(hl:vs.length / 2≤pos)(h:codeAny (model prog w) A (dP a false pos top res after) R s):codeAny (model prog w) A (dP a true pos top res after) R s:=by
 refine codeAny_builtin dJ ?_
 rw[Around.under_plainId hq_plain _]
 show wpAny _ A.in1 ((seqItems? (.ref a) >>= _) >>= _) _ _ s
 refine wpAny_bind (wpAny_bind (wpAny_seqItems (S.obj _ m0) rfl (wpAny_pure ?_)))
 show wpAny _ _ (if pos<vs.toArray.size / 2 then _ else _) _ _ s
 rw[if_neg (by rw[List.size_toArray];exact z9h hl)]
 exact wpAny_pure ⟨plainId_quiet hq_plain _,h⟩
def bS(vs:List Value)(i j:Nat):List Value:=(vs.set i (vs.getD j .none)).set j (vs.getD i .none)
theorem dF{i j:Nat}:∃ c1,Obj.mapSeq (fun xs=>(xs.setIfInBounds i (vs.getD j .none)).setIfInBounds j (vs.getD i .none)) (ae vs c)=ae (bS vs i j) c1:=by
 have e:(vs.toArray.setIfInBounds i (vs.getD j .none)).setIfInBounds j (vs.getD i .none)=(bS vs i j).toArray:=by simp[bS]
 have h:∃ c1,Obj.mapSeq (fun xs=>(xs.setIfInBounds i (vs.getD j .none)).setIfInBounds j (vs.getD i .none)) (ae vs c) = { ae vs c with data:=.seq ((vs.toArray.setIfInBounds i (vs.getD j .none)).setIfInBounds j (vs.getD i .none)) c1 }:=⟨_,rfl⟩
 rw[e] at h
 exact h
theorem jg{key:Value→Int}(S:St hb tabs L l ((a,ae vs c)::T) s.heap)(hz:vs.length≤1000)(hl:pos<vs.length / 2)
  (hless:∀ x∈vs,∀ y∈vs,∀ {E:VP}{Q:VP},Q (.bool (decide (key x<key y))) s→wpAny (model prog w) A.in1 (richCompare .Lt x y) Q E s)
  (k:∀ ch h' c',1≤ch→par ch=pos→ch<vs.length→(∀ i,1≤i→i<vs.length→par i=pos→key (vs.getD ch .none)≤key (vs.getD i .none))→St hb tabs L l ((a,ae (bS vs ch pos) c')::T) h'→codeAny (model prog w) A (dP a true ch top res after) R (wh s h')) :
  codeAny (model prog w) A (dP a true pos top res after) R s:=by
 have get:∀ i,i<vs.length→vs.toArray[i]? = some (vs.getD i .none):=fun i hi=>by simp[hi]
 have mem:∀ i,i<vs.length→vs.getD i .none∈vs:=fun i hi=>by simp[hi]
 refine codeAny_builtin dJ ?_
 rw[Around.under_plainId hq_plain _]
 show wpAny _ A.in1 ((seqItems? (.ref a) >>= _) >>= _) _ _ s
 refine wpAny_bind (wpAny_bind (wpAny_seqItems (S.obj _ m0) rfl (wpAny_pure ?_)))
 show wpAny _ _ (if pos<vs.toArray.size / 2 then _ else _) _ _ s
 rw[if_pos (by rw[List.size_toArray];exact hl)]
 show wpAny _ _ (if 2 * pos+1+1<vs.toArray.size then _ else _) _ _ s
 have hp1:par (2 * pos+1)=pos:=by unfold par;exact z9n
 have hp2:par (2 * pos+1+1)=pos:=by unfold par;exact z9o
 have hpos:pos<vs.length:=by exact z9p hl
 have hl1:2 * pos+1<vs.length:=by exact z9r hl
 by_cases h2:2 * pos+1+1<vs.length
 ·rw[if_pos (by rw[List.size_toArray];exact h2)]
  refine wpAny_bind (wpAny_of_eq (a:=vs.getD (2 * pos+1) .none) (by show (match vs.toArray[(2 * pos+1)]? with | some v=>pure v | none=>_)=_;rw[get _ hl1]) ?_)
  refine wpAny_bind (wpAny_of_eq (a:=vs.getD (2 * pos+1+1) .none) (by show (match vs.toArray[(2 * pos+1+1)]? with | some v=>pure v | none=>_)=_;rw[get _ h2]) ?_)
  show wpAny _ _ (if false=true then _ else _) _ _ s
  rw[if_neg (by decide)]
  refine wpAny_bind ?_
  show wpAny _ _ (holding [vs.getD (2 * pos+1) .none,vs.getD (2 * pos+1+1) .none] (richCompare .Lt (vs.getD (2 * pos+1) .none) (vs.getD (2 * pos+1+1) .none) >>= truthOfDropped) >>= _) _ _ s
  refine wpAny_bind (wpAny_holding (wpAny_bind (hless _ (mem _ hl1) _ (mem _ h2) ?_)))
  refine wpAny_truthy_bool ?_
  show wpAny _ _ ((seqItems? (.ref a) >>= _) >>= _) _ _ s
  refine wpAny_bind (wpAny_bind (wpAny_seqItems (S.obj _ m0) rfl (wpAny_pure ?_)))
  rw[if_neg (by simp)]
  refine wpAny_pure ?_
  by_cases hlt:key (vs.getD (2 * pos+1) .none)<key (vs.getD (2 * pos+1+1) .none)
  ·rw[decide_eq_true hlt]
   show wpAny _ _ (if (!true)=true then _ else _) _ _ s
   rw[if_neg (by decide)]
   refine wpAny_bind ?_
   show wpAny _ _ ((seqItems? (.ref a) >>= _) >>= _) _ _ s
   refine wpAny_bind (wpAny_bind (wpAny_seqItems (S.obj _ m0) rfl (wpAny_pure ?_)))
   refine wpAny_bind (wpAny_of_eq (a:=vs.getD (2 * pos+1) .none) (by show (match vs.toArray[(2 * pos+1)]? with | some v=>pure v | none=>_)=_;rw[get _ hl1]) ?_)
   refine wpAny_bind (wpAny_of_eq (a:=vs.getD (pos) .none) (by show (match vs.toArray[(pos)]? with | some v=>pure v | none=>_)=_;rw[get _ hpos]) ?_)
   obtain⟨c1,hc1⟩:∃ c1,Obj.mapSeq (fun xs=>(xs.setIfInBounds (2 * pos+1) (vs.getD (pos) .none)).setIfInBounds (pos) (vs.getD (2 * pos+1) .none)) (ae vs c)=ae (bS vs (2 * pos+1) (pos)) c1:=dF
   refine wpAny_updateSeq (S.obj _ m0) rfl ?_ (by rw[sizeLine_eq,List.size_toArray];exact up 16776216 hz) (by rw[sizeLine_eq];simp;exact up 16776217 hz)
   have S':=S.change (o':=ae (bS vs (2 * pos+1) (pos)) c1) 0 rfl (Heap.SameBut.update s.heap a (Obj.mapSeq fun xs=>(xs.setIfInBounds (2 * pos+1) (vs.getD (pos) .none)).setIfInBounds (pos) (vs.getD (2 * pos+1) .none))) (by rw[Heap.get?_update_self _ (S.obj _ m0) (by rw[hc1];rfl),hc1])
   refine wpAny_pure ⟨plainId_quiet hq_plain _,k (2 * pos+1) _ _ (by exact z9t) hp1 hl1 (fun i i1 im hi=>?_) S'⟩
   rcases cQ i1 hi with q | q
   ·rw[q];exact Int.le_refl _
   ·rw[q];exact Int.le_of_lt hlt
  ·rw[decide_eq_false hlt]
   show wpAny _ _ (if (!false)=true then _ else _) _ _ s
   rw[if_pos (by decide)]
   refine wpAny_bind ?_
   show wpAny _ _ ((seqItems? (.ref a) >>= _) >>= _) _ _ s
   refine wpAny_bind (wpAny_bind (wpAny_seqItems (S.obj _ m0) rfl (wpAny_pure ?_)))
   refine wpAny_bind (wpAny_of_eq (a:=vs.getD (2 * pos+1+1) .none) (by show (match vs.toArray[(2 * pos+1+1)]? with | some v=>pure v | none=>_)=_;rw[get _ h2]) ?_)
   refine wpAny_bind (wpAny_of_eq (a:=vs.getD (pos) .none) (by show (match vs.toArray[(pos)]? with | some v=>pure v | none=>_)=_;rw[get _ hpos]) ?_)
   obtain⟨c1,hc1⟩:∃ c1,Obj.mapSeq (fun xs=>(xs.setIfInBounds (2 * pos+1+1) (vs.getD (pos) .none)).setIfInBounds (pos) (vs.getD (2 * pos+1+1) .none)) (ae vs c)=ae (bS vs (2 * pos+1+1) (pos)) c1:=dF
   refine wpAny_updateSeq (S.obj _ m0) rfl ?_ (by rw[sizeLine_eq,List.size_toArray];exact up 16776216 hz) (by rw[sizeLine_eq];simp;exact up 16776217 hz)
   have S':=S.change (o':=ae (bS vs (2 * pos+1+1) (pos)) c1) 0 rfl (Heap.SameBut.update s.heap a (Obj.mapSeq fun xs=>(xs.setIfInBounds (2 * pos+1+1) (vs.getD (pos) .none)).setIfInBounds (pos) (vs.getD (2 * pos+1+1) .none))) (by rw[Heap.get?_update_self _ (S.obj _ m0) (by rw[hc1];rfl),hc1])
   refine wpAny_pure ⟨plainId_quiet hq_plain _,k (2 * pos+1+1) _ _ (by exact z9u) hp2 h2 (fun i i1 im hi=>?_) S'⟩
   rcases cQ i1 hi with q | q
   ·rw[q];exact Int.not_lt.mp hlt
   ·rw[q];exact Int.le_refl _
 ·rw[if_neg (by rw[List.size_toArray];exact h2)]
  refine wpAny_bind ?_
  show wpAny _ _ ((seqItems? (.ref a) >>= _) >>= _) _ _ s
  refine wpAny_bind (wpAny_bind (wpAny_seqItems (S.obj _ m0) rfl (wpAny_pure ?_)))
  refine wpAny_bind (wpAny_of_eq (a:=vs.getD (2 * pos+1) .none) (by show (match vs.toArray[(2 * pos+1)]? with | some v=>pure v | none=>_)=_;rw[get _ hl1]) ?_)
  refine wpAny_bind (wpAny_of_eq (a:=vs.getD (pos) .none) (by show (match vs.toArray[(pos)]? with | some v=>pure v | none=>_)=_;rw[get _ hpos]) ?_)
  obtain⟨c1,hc1⟩:∃ c1,Obj.mapSeq (fun xs=>(xs.setIfInBounds (2 * pos+1) (vs.getD (pos) .none)).setIfInBounds (pos) (vs.getD (2 * pos+1) .none)) (ae vs c)=ae (bS vs (2 * pos+1) (pos)) c1:=dF
  refine wpAny_updateSeq (S.obj _ m0) rfl ?_ (by rw[sizeLine_eq,List.size_toArray];exact up 16776216 hz) (by rw[sizeLine_eq];simp;exact up 16776217 hz)
  have S':=S.change (o':=ae (bS vs (2 * pos+1) (pos)) c1) 0 rfl (Heap.SameBut.update s.heap a (Obj.mapSeq fun xs=>(xs.setIfInBounds (2 * pos+1) (vs.getD (pos) .none)).setIfInBounds (pos) (vs.getD (2 * pos+1) .none))) (by rw[Heap.get?_update_self _ (S.obj _ m0) (by rw[hc1];rfl),hc1])
  refine wpAny_pure ⟨plainId_quiet hq_plain _,k (2 * pos+1) _ _ (by exact z9t) hp1 hl1 (fun i i1 im hi=>?_) S'⟩
  rcases cQ i1 hi with q | q
  ·rw[q];exact Int.le_refl _
  ·exact z9v h2 im q
def EndK(prog:Program)(w:World)(A:Around)(a:Addr)(res:Value)(after:Int)(R:Result→Shared→Prop)(s:Shared):Prop :=
 (after<0→R (.ok (.ret res)) s)∧∀ n:Nat,after=n→codeAny (model prog w) A (dP a true n n res ((n:Int) - 1)) R s
theorem je(S:St hb tabs L l ((a,ae vs c)::T) s.heap)(hl:pos≤top)(h:EndK prog w A a res after R s):codeAny (model prog w) A (dP a false pos top res after) R s:=by
 refine codeAny_builtin dJ ?_
 rw[Around.under_plainId hq_plain _]
 show wpAny _ A.in1 ((seqItems? (.ref a) >>= _) >>= _) _ _ s
 refine wpAny_bind (wpAny_bind (wpAny_seqItems (S.obj _ m0) rfl (wpAny_pure ?_)))
 show wpAny _ _ (if pos > top then _ else _) _ _ s
 rw[if_neg (by exact z9i hl)]
 show wpAny _ _ (if after<0 then _ else _) _ _ s
 by_cases ha:after<0
 ·rw[if_pos ha]
  exact wpAny_pure (h.1 ha)
 ·rw[if_neg ha]
  obtain⟨n,hn⟩:∃ n:Nat,after=n:=⟨after.toNat,by exact z9j ha⟩
  subst hn
  exact wpAny_pure ⟨plainId_quiet hq_plain _,h.2 n rfl⟩
theorem mw{key:Value→Int}(S:St hb tabs L l ((a,ae vs c)::T) s.heap)(hz:vs.length≤1000)(hl:top<pos)(hpos:pos<vs.length)
  (hless:∀ x∈vs,∀ y∈vs,∀ {E:VP}{Q:VP},Q (.bool (decide (key x<key y))) s→wpAny (model prog w) A.in1 (richCompare .Lt x y) Q E s)
  (k1:∀ h' c',key (vs.getD pos .none)<key (vs.getD (par pos) .none)→St hb tabs L l ((a,ae (bS vs (par pos) pos) c')::T) h'→codeAny (model prog w) A (dP a false (par pos) top res after) R (wh s h'))
  (k2:key (vs.getD (par pos) .none)≤key (vs.getD pos .none)→EndK prog w A a res after R s) :
  codeAny (model prog w) A (dP a false pos top res after) R s:=by
 have get:∀ i,i<vs.length→vs.toArray[i]? = some (vs.getD i .none):=fun i hi=>by simp[hi]
 have mem:∀ i,i<vs.length→vs.getD i .none∈vs:=fun i hi=>by simp[hi]
 have hpar:par pos<vs.length:=by have:=bO (i:=pos) (by exact z9k hl);exact z9m hpos this
 refine codeAny_builtin dJ ?_
 rw[Around.under_plainId hq_plain _]
 show wpAny _ A.in1 ((seqItems? (.ref a) >>= _) >>= _) _ _ s
 refine wpAny_bind (wpAny_bind (wpAny_seqItems (S.obj _ m0) rfl (wpAny_pure ?_)))
 show wpAny _ _ (if pos > top then _ else _) _ _ s
 rw[if_pos hl]
 refine wpAny_bind (wpAny_of_eq (a:=vs.getD (pos) .none) (by show (match vs.toArray[(pos)]? with | some v=>pure v | none=>_)=_;rw[get _ hpos]) ?_)
 refine wpAny_bind (wpAny_of_eq (a:=vs.getD (par pos) .none) (by show (match vs.toArray[(par pos)]? with | some v=>pure v | none=>_)=_;rw[get _ hpar]) ?_)
 show wpAny _ _ (if false=true then _ else _) _ _ s
 rw[if_neg (by decide)]
 refine wpAny_bind ?_
 show wpAny _ _ (holding [vs.getD (pos) .none,vs.getD (par pos) .none] (richCompare .Lt (vs.getD (pos) .none) (vs.getD (par pos) .none) >>= truthOfDropped) >>= _) _ _ s
 refine wpAny_bind (wpAny_holding (wpAny_bind (hless _ (mem _ hpos) _ (mem _ hpar) ?_)))
 refine wpAny_truthy_bool ?_
 show wpAny _ _ ((seqItems? (.ref a) >>= _) >>= _) _ _ s
 refine wpAny_bind (wpAny_bind (wpAny_seqItems (S.obj _ m0) rfl (wpAny_pure ?_)))
 rw[if_neg (by simp)]
 refine wpAny_pure ?_
 by_cases hlt:key (vs.getD pos .none)<key (vs.getD (par pos) .none)
 ·rw[decide_eq_true hlt]
  show wpAny _ _ (if true=true then _ else _) _ _ s
  rw[if_pos rfl]
  refine wpAny_bind ?_
  show wpAny _ _ ((seqItems? (.ref a) >>= _) >>= _) _ _ s
  refine wpAny_bind (wpAny_bind (wpAny_seqItems (S.obj _ m0) rfl (wpAny_pure ?_)))
  refine wpAny_bind (wpAny_of_eq (a:=vs.getD (par pos) .none) (by show (match vs.toArray[(par pos)]? with | some v=>pure v | none=>_)=_;rw[get _ hpar]) ?_)
  refine wpAny_bind (wpAny_of_eq (a:=vs.getD (pos) .none) (by show (match vs.toArray[(pos)]? with | some v=>pure v | none=>_)=_;rw[get _ hpos]) ?_)
  obtain⟨c1,hc1⟩:∃ c1,Obj.mapSeq (fun xs=>(xs.setIfInBounds (par pos) (vs.getD (pos) .none)).setIfInBounds (pos) (vs.getD (par pos) .none)) (ae vs c)=ae (bS vs (par pos) (pos)) c1:=dF
  refine wpAny_updateSeq (S.obj _ m0) rfl ?_ (by rw[sizeLine_eq,List.size_toArray];exact up 16776216 hz) (by rw[sizeLine_eq];simp;exact up 16776217 hz)
  have S':=S.change (o':=ae (bS vs (par pos) (pos)) c1) 0 rfl (Heap.SameBut.update s.heap a (Obj.mapSeq fun xs=>(xs.setIfInBounds (par pos) (vs.getD (pos) .none)).setIfInBounds (pos) (vs.getD (par pos) .none))) (by rw[Heap.get?_update_self _ (S.obj _ m0) (by rw[hc1];rfl),hc1])
  exact wpAny_pure ⟨plainId_quiet hq_plain _,k1 _ _ hlt S'⟩
 ·rw[decide_eq_false hlt]
  show wpAny _ _ (if false=true then _ else _) _ _ s
  rw[if_neg (by decide)]
  have h:=k2 (Int.not_lt.mp hlt)
  show wpAny _ _ (if after<0 then _ else _) _ _ s
  by_cases ha:after<0
  ·rw[if_pos ha]
   exact wpAny_pure (h.1 ha)
  ·rw[if_neg ha]
   obtain⟨n,hn⟩:∃ n:Nat,after=n:=⟨after.toNat,by exact z9j ha⟩
   subst hn
   exact wpAny_pure ⟨plainId_quiet hq_plain _,h.2 n rfl⟩
end
end
section
abbrev cH(key:Value→Int)(vs:List Value):Nat→Int:=fun i=>key (vs.getD i .none)
theorem ew{vs:List Value}{i j:Nat}(hi:i<vs.length)(hj:j<vs.length):(bS vs i j).Perm vs:=by
 have e1:vs.getD i .none=vs[i]:=by simp[hi]
 have e2:vs.getD j .none=vs[j]:=by simp[hj]
 unfold bS
 rw[e1,e2]
 exact List.set_set_perm hi hj
theorem fJ(key:Value→Int){vs:List Value}{i j:Nat}(hi:i<vs.length)(hj:j<vs.length)(hij:i≠j):cH key (bS vs i j)=fK (cH key vs) i j:=by
 funext k
 unfold fK cH bS
 by_cases e1:k=i
 ·subst e1
  rw[if_pos rfl]
  congr 1
  simp[List.getElem?_set,hi,Ne.symm hij]
 ·rw[if_neg e1]
  by_cases e2:k=j
  ·subst e2
   rw[if_pos rfl]
   congr 1
   simp[List.getElem?_set,hj]
  ·rw[if_neg e2]
   congr 1
   simp[List.getElem?_set,Ne.symm e1,Ne.symm e2]
section
variable{prog:Program}{w:World}{A:Around}{s:Shared}{hb:Heap}{tabs:List Addr}{L a:Addr}{l:List (Str×Value)}{T:List (Addr×Obj)}{vs0:List Value}{top:Nat}{after:Int}{res:Value}{R:Result→Shared→Prop}{key:Value→Int}
def dk(prog:Program)(w:World)(A:Around)(hb:Heap)(tabs:List Addr)(L a:Addr)(l:List (Str×Value))(T:List (Addr×Obj))(vs0:List Value)(key:Value→Int)(s:Shared):Prop :=
 ∀ s' c' vs',Kp s s'→St hb tabs L l ((a,ae vs' c')::T) s'.heap→∀ x∈vs0,∀ y∈vs0,∀ {E:VP}{Q:VP},Q (.bool (decide (key x<key y))) s'→wpAny (model prog w) A.in1 (richCompare .Lt x y) Q E s'
theorem oQ(hless:dk prog w A hb tabs L a l T vs0 key s)(hz:vs0.length≤1000)
  (hfin:∀ s' vs' c',Kp s s'→vs'.Perm vs0→aJ (cH key vs') vs0.length top→St hb tabs L l ((a,ae vs' c')::T) s'.heap→EndK prog w A a res after R s') :
  ∀ pos vs c s₁,Kp s s₁→vs.Perm vs0→UpI (cH key vs) vs0.length top pos→St hb tabs L l ((a,ae vs c)::T) s₁.heap→codeAny (model prog w) A (dP a false pos top res after) R s₁:=by
 intro pos
 induction pos using Nat.strongRecOn with
 | _ pos ih =>
  intro vs c s₁ K hp hU S
  have hlen:=hp.length_eq
  by_cases hn:pos=top
  ·exact je S (by exact z9w hn) (hfin s₁ vs c K hp (iY hU (.inl hn)) S)
  ·have hge:=hU.1.ge
   have hlt:pos<vs.length:=by rw[hlen];exact hU.2.1
   obtain⟨hd,hp1⟩:=hU.1.up hn
   have hpl:=bO hp1
   refine mw S (by exact z9y hz hlen) (by exact z9z hn hge) hlt (fun x hx y hy=>hless s₁ c vs K S x (hp.mem_iff.mp hx) y (hp.mem_iff.mp hy)) ?_ ?_
   ·intro h' c' hx S'
    refine ih (par pos) hpl (bS vs (par pos) pos) c' _ ⟨K.os,K.gens⟩ ((ew (by exact z9m hlt hpl) hlt).trans hp) ?_ S'
    rw[fJ key (by exact z9m hlt hpl) hlt (by exact za2 hpl)]
    exact ma hU hn hx
   ·intro hx
    exact hfin s₁ vs c K hp (iY hU (.inr hx)) S
theorem ig(hless:dk prog w A hb tabs L a l T vs0 key s)(hz:vs0.length≤1000)
  (hfin:∀ s' vs' c',Kp s s'→vs'.Perm vs0→aJ (cH key vs') vs0.length top→St hb tabs L l ((a,ae vs' c')::T) s'.heap→EndK prog w A a res after R s') :
  ∀ k pos vs c s₁,vs0.length - pos=k→Kp s s₁→vs.Perm vs0→kl (cH key vs) vs0.length top pos→St hb tabs L l ((a,ae vs c)::T) s₁.heap→codeAny (model prog w) A (dP a true pos top res after) R s₁:=by
 intro k
 induction k using Nat.strongRecOn with
 | _ k ih =>
  intro pos vs c s₁ hk K hp hD S
  have hlen:=hp.length_eq
  have hlt:pos<vs.length:=by rw[hlen];exact hD.2.1
  by_cases hl:pos<vs.length / 2
  ·refine jg S (by exact z9y hz hlen) hl (fun x hx y hy=>hless s₁ c vs K S x (hp.mem_iff.mp hx) y (hp.mem_iff.mp hy)) ?_
   intro ch h' c' h1 hpc hch hmin S'
   have hcl:=bO h1
   refine ih (vs0.length - ch) (by exact za3 hk hlen hl hpc hcl) ch (bS vs ch pos) c' _ rfl ⟨K.os,K.gens⟩ ((ew hch hlt).trans hp) ?_ S'
   rw[fJ key hch hlt (by exact za4 hpc hcl)]
   exact j8 hD h1 hpc (by exact za5 hlen hch) (fun i i1 im hi=>hmin i i1 (by exact z2v hlen im) hi)
  ·exact jf S (by exact za6 hl) (oQ hless hz hfin pos vs c s₁ K hp (nW hD (by exact za7 hlen hl)) S)
theorem d4(hless:dk prog w A hb tabs L a l T vs0 key s)(hz:vs0.length≤1000)
  (hR:∀ s' vs' c',Kp s s'→vs'.Perm vs0→aJ (cH key vs') vs0.length 0→St hb tabs L l ((a,ae vs' c')::T) s'.heap→R (.ok (.ret res)) s') :
  ∀ n vs c s₁,n<vs0.length→Kp s s₁→vs.Perm vs0→aJ (cH key vs) vs0.length (n+1)→St hb tabs L l ((a,ae vs c)::T) s₁.heap→codeAny (model prog w) A (dP a true n n res ((n:Int) - 1)) R s₁:=by
 intro n
 induction n with
 | zero =>
  intro vs c s₁ hn K hp hH S
  refine ig hless hz (fun s' vs' c' K' hp' hH' S'=>⟨fun _=>hR s' vs' c' K' hp' hH' S',fun m hm=>by exact z9x hm⟩) _ 0 vs c s₁ rfl K hp (eH hH hn) S
 | succ n ih =>
  intro vs c s₁ hn K hp hH S
  refine ig hless hz (fun s' vs' c' K' hp' hH' S'=>⟨fun h=>by exact za0 h,fun m hm=>?_⟩) _ (n+1) vs c s₁ rfl K hp (eH hH hn) S
  have:m=n:=by exact za1 hm
  subst this
  exact ih vs' c' s' (by exact dn 1 hn) K' hp' hH' S'
end
end
section
theorem nJ:builtinKind "_heapq.heapify" = none:=by decide +kernel
theorem li:plainId "_heapq.heapify" = true:=by decide +kernel
theorem lj:entryFor table "_heapq.heapify" = some Builtin.«_heapq.heapify»:=entryFor_of_tree (by kernel_rfl)
theorem nK (a:Value):argsOk "_heapq.heapify" ⟨[a],[]⟩:=by unfold argsOk;kernel_rfl
theorem nL:builtinKind "_heapq.heapreplace" = none:=by decide +kernel
theorem ll:plainId "_heapq.heapreplace" = true:=by decide +kernel
theorem lm:entryFor table "_heapq.heapreplace" = some Builtin.«_heapq.heapreplace»:=entryFor_of_tree (by kernel_rfl)
theorem nM (a b:Value):argsOk "_heapq.heapreplace" ⟨[a,b],[]⟩:=by unfold argsOk;kernel_rfl
theorem fM:isSubtype (.type "list") (.type "list")=pure true:=by rw[isSubtype_type];kernel_rfl
section
variable{prog:Program}{w:World}{A:Around}{E:VP}{s:Shared}{hb:Heap}{tabs:List Addr}{L a:Addr}{l:List (Str×Value)}{T:List (Addr×Obj)}{vs:List Value}{c:Nat}{key:Value→Int}
theorem jy{Q:VP}(S:St hb tabs L l ((a,ae vs c)::T) s.heap)(hz:vs.length≤1000)(hless:dk prog w A hb tabs L a l T vs key s)
  (k:∀ s' vs' c',Kp s s'→vs'.Perm vs→aJ (cH key vs') vs.length 0→St hb tabs L l ((a,ae vs' c')::T) s'.heap→Q .none s'):wpAny (model prog w) A (call (.builtin "_heapq.heapify") [.ref a]) Q E s:=by
 have hT:s.TypeIs (.ref a) "list" := ⟨_,S.obj _ m0,rfl⟩
 refine call_function_tree nJ li lj (nK _) ?_
 show wpAny _ _ (((pure (Value.ref a)) >>= _) >>= _) _ _ s
 refine wpAny_bind (wpAny_bind (wpAny_pure ?_))
 refine wpAny_bind ?_
 show wpAny _ _ (isInstance (.ref a) (.type "list") >>= _) _ _ s
 refine wpAny_bind (wpAny_isInstance hT fM ?_)
 refine wpAny_pure ?_
 refine wpAny_pure ?_
 show wpAny _ _ ((seqItems? (.ref a) >>= _) >>= _) _ _ s
 refine wpAny_bind (wpAny_bind (wpAny_seqItems (S.obj _ m0) rfl (wpAny_pure ?_)))
 show wpAny _ _ (if vs.toArray.size > 2500 then _ else _) _ _ s
 rw[if_neg (by rw[List.size_toArray];exact za8 hz)]
 show wpAny _ _ (if vs.toArray.size<2 then _ else _) _ _ s
 by_cases h2:vs.length<2
 ·rw[if_pos (by rw[List.size_toArray];exact h2)]
  refine wpAny_pure (k s vs c Kp.refl (List.Perm.refl _) (fun i i1 im _=>by exact za9 h2 i1 im) S)
 ·rw[if_neg (by rw[List.size_toArray];exact h2)]
  have e1:((vs.toArray.size / 2:Nat):Int) - 2=((vs.length / 2 - 1:Nat):Int) - 1:=by rw[List.size_toArray];exact zab h2
  rw[e1]
  refine wpAny_pure ⟨plainId_quiet hq_plain _,?_⟩
  refine d4 (key:=key) hless hz (fun s' vs' c' K' hp' hH' S'=>k s' vs' c' K' hp' hH' S') (vs.length / 2 - 1) vs c s (by exact zae h2) Kp.refl (List.Perm.refl _) (fun i i1 im hp=>?_) S
  unfold par at hp
  exact zaf im hp
theorem eU{item first:Value}{rest:List Value}{Q:VP}(S:St hb tabs L l ((a,ae (first::rest) c)::T) s.heap)(hz:(first::rest).length≤1000)(hless:dk prog w A hb tabs L a l T (item::rest) key s)(hH:aJ (cH key (first::rest)) (first::rest).length 0)
  (k:∀ s' vs' c',Kp s s'→vs'.Perm (item::rest)→aJ (cH key vs') (item::rest).length 0→St hb tabs L l ((a,ae vs' c')::T) s'.heap→Q first s'):wpAny (model prog w) A (call (.builtin "_heapq.heapreplace") [.ref a,item]) Q E s:=by
 have hT:s.TypeIs (.ref a) "list" := ⟨_,S.obj _ m0,rfl⟩
 refine call_function_tree nL ll lm (nM _ _) ?_
 show wpAny _ _ (((isInstance (.ref a) (.type "list") >>= _) >>= _) >>= _) _ _ s
 refine wpAny_bind (wpAny_bind (wpAny_bind (wpAny_isInstance hT fM ?_)))
 refine wpAny_pure (wpAny_pure ?_)
 show wpAny _ _ ((seqItems? (.ref a) >>= _) >>= _) _ _ s
 refine wpAny_bind (wpAny_bind (wpAny_seqItems (S.obj _ m0) rfl (wpAny_pure ?_)))
 show wpAny _ _ (updateSeq a (·.setIfInBounds 0 item) >>= _) _ _ s
 refine wpAny_bind ?_
 obtain⟨c1,hc1⟩:∃ c1,Obj.mapSeq (·.setIfInBounds 0 item) (ae (first::rest) c)=ae (item::rest) c1:=by
  have e:(first::rest).toArray.setIfInBounds 0 item=(item::rest).toArray:=by simp
  have h:∃ c1,Obj.mapSeq (·.setIfInBounds 0 item) (ae (first::rest) c) = { ae (first::rest) c with data:=.seq ((first::rest).toArray.setIfInBounds 0 item) c1 }:=⟨_,rfl⟩
  rw[e] at h
  exact h
 refine wpAny_updateSeq (S.obj _ m0) rfl ?_ (by rw[sizeLine_eq,List.size_toArray];exact up 16776216 hz) (by rw[sizeLine_eq];simp at hz ⊢;exact up 16776217 hz)
 have S':=S.change (o':=ae (item::rest) c1) 0 rfl (Heap.SameBut.update s.heap a (Obj.mapSeq (·.setIfInBounds 0 item))) (by rw[Heap.get?_update_self _ (S.obj _ m0) (by rw[hc1];rfl),hc1])
 refine wpAny_pure ⟨plainId_quiet hq_plain _,?_⟩
 refine d4 (key:=key) (vs0:=item::rest) (s:=s) hless (by simpa using hz) (fun s' vs' c' K' hp' hH' S''=>k s' vs' c' K' hp' hH' S'') 0 (item::rest) c1 _ (by simp) ⟨rfl,id⟩ (List.Perm.refl _) (fun i i1 im hp=>?_) S'
 have h:=hH i i1 (by simpa using im) (Nat.zero_le _)
 have e1:∀ j,1≤j→(first::rest).getD j Value.none=(item::rest).getD j Value.none:=by
  intro j hj
  cases j with
  | zero=>lia
  | succ j=>rfl
 unfold cH at h ⊢
 rw[e1 i i1,e1 (par i) (by exact hp)] at h
 exact h
end
end
section
structure HI where
 a:Addr
 e:Sc
 ord:Int
 ot:Tok
def cK(rk:UInt64→Str→Nat)(i:HI):Int:=(rkS rk i.e:Int) * 1000+i.ord
section
variable{w:World}{A:Around}{E:VP}{s:Shared}{Es:List Sc}{rk:UInt64→Str→Nat}
theorem hi_lt{x y:HI}{Q:VP}(hu:A.units+2<cLine)(NB:NoneBooked s.heap)(hT:gU Es)(hR:gr rk Es)(he:x.e∈Es)(he':y.e∈Es)(ha:s.heap.get? x.e.a=some (au [.float x.e.f x.e.ft,aj x.e.x]))(hb':s.heap.get? y.e.a=some (au [.float y.e.f y.e.ft,aj y.e.x]))
  (hx:s.heap.get? x.a=some (au [.ref x.e.a,.int x.ord x.ot])) (hy:s.heap.get? y.a=some (au [.ref y.e.a,.int y.ord y.ot]))
  (ox : -400≤x.ord∧x.ord≤400) (oy : -400≤y.ord∧y.ord≤400)
  (h:Q (.bool (decide (cK rk x<cK rk y))) s):wpAny (model pw w) A (compareOp .Lt (.ref x.a) (.ref y.a)) Q E s:=by
 refine jJ (by exact dn 2 hu) hx hy ?_
 refine lJ (by show A.units+1<cLine;exact dn 1 hu) NB hT hR he he' ha hb' ?_
 unfold cK at h
 refine⟨fun q=>?_,fun q=>?_⟩
 ·have hq:=of_decide_eq_true q
  refine wpAny_eqBool_int ⟨fun q2=>?_,fun q2=>?_⟩
  ·have e1:x.ord=y.ord:=eq_of_beq q2
   rw[show decide ((rkS rk x.e:Int) * 1000+x.ord<(rkS rk y.e:Int) * 1000+y.ord)=false from decide_eq_false (by exact z27 q q2)] at h
   exact h
  ·refine P.lt_int ⟨nofun,?_⟩
   rw[show decide (x.ord<y.ord)=decide ((rkS rk x.e:Int) * 1000+x.ord<(rkS rk y.e:Int) * 1000+y.ord) from decide_eq_decide.mpr (by lia)]
   exact h
 ·have hq:=of_decide_eq_false q
  refine mB (by show A.units+1<cLine;exact dn 1 hu) NB hT hR he he' ha hb' ⟨nofun,?_⟩
  rw[show decide (rkS rk x.e<rkS rk y.e)=decide ((rkS rk x.e:Int) * 1000+x.ord<(rkS rk y.e:Int) * 1000+y.ord) from decide_eq_decide.mpr (by lia)]
  exact h
end
end
section
theorem i5{rk:UInt64→PySem.Str→Nat}{Hs outs Es:List Sc}(hp:(Hs++outs).Perm Es)(hs:Hs.Pairwise (fun a b=>rkS rk b≤rkS rk a))(ho:∀ o∈outs,∀ h∈Hs,rkS rk o≤rkS rk h) :
  ∃ P:List Sc,An3 (P.Perm Es) (P.Pairwise (fun a b=>rkS rk b≤rkS rk a)) (P.take Hs.length=Hs):=by
 refine⟨Hs++outs.mergeSort (fun a b=>decide (rkS rk b≤rkS rk a)),?_,?_,?_⟩
 ·exact ((List.mergeSort_perm outs _).append_left Hs).trans hp
 ·refine List.pairwise_append.mpr ⟨hs,?_,fun a ha b hb=>?_⟩
  ·have:=List.pairwise_mergeSort (le:=fun a b:Sc=>decide (rkS rk b≤rkS rk a)) (fun a b c h1 h2=>by simp at *;exact z1r h1 h2) (fun a b=>by simp;exact z1s) outs
   exact this.imp fun h=>by simpa using h
  ·exact ho b ((List.mergeSort_perm outs _).mem_iff.mp hb) a ha
 ·simp
end
section
theorem mx_plain:plainId "max.loop" = true:=by decide +kernel
theorem fb:entryFor table "max.loop" = some Builtin.«max.loop»:=entryFor_of_tree (by kernel_rfl)
section
variable{prog:Program}{w:World}{A:Around}{E:VP}{s:Shared}{hb:Heap}{tabs:List Addr}{L d I best:Addr}{l:List (Str×Value)}{T:List (Addr×Obj)}{vs:List Value}{i n:Nat}{o:Obj}{dflt:Value}{R:Result→Shared→Prop}{rkv:Value→Nat}
theorem fh{x:Value}{Q:Option Value→Shared→Prop}(ii:Nat)(S:St hb tabs L l T s.heap)(hit:T[ii]? = some (I,o))(ho:bC o d i)(hd:(d,ae vs n)∈T)(hx:vs[i]? = some x)
  (h:∀ h' o',bC o' d (i+1)→St hb tabs L l (T.set ii (I,o')) h'→Q (some x) (wh s h')):wpAny (model prog w) A (pyNext (.ref I)) Q E s:=by
 refine wpAny_pyNext_list_item (items:=vs.toArray) ⟨_,S.obj _ (List.mem_of_getElem? hit),ho.1,ho.2⟩ ⟨_,S.obj _ hd,rfl,n,rfl⟩ (by simpa using hx) fun h' hit' hs'=>?_
 obtain⟨o',ho',hc',hd'⟩:=hit'
 exact h h' o' ⟨hc',hd'⟩ (S.change ii hit hs' ho')
theorem fi{Q:Option Value→Shared→Prop}(hh:A.handled=none)(S:St hb tabs L l (T++[(I,o)]) s.heap)(ho:bC o d vs.length)(hd:(d,ae vs n)∈T)
  (h:∀ h',St hb tabs L l T h'→Q none (wh s h')):wpAny (model prog w) A (pyNext (.ref I)) Q E s:=by
 refine wpAny_pyNext_list_end (items:=vs.toArray) hh ⟨_,S.obj (I,o) (List.mem_append_right _ (.head _)),ho.1,ho.2⟩ ⟨_,S.obj _ (List.mem_append_left _ hd),rfl,n,rfl⟩ (by simp) fun h' he=>?_
 exact h h' (S.drop (own:=[(I,o)]) fun b x hb' e=>he b x (fun q=>hb' (by rw[q];exact .head _)) e)
theorem k5(hh:A.handled=none)(hne:0<vs.length)(hz:vs.length≤1000)(hd:(d,ae vs n)∈T)
  (hgt:∀ (s':Shared) (T':List (Addr×Obj)),Kp s s'→St hb tabs L l T' s'.heap→(∀ p∈T,p∈T')→∀ x∈vs,∀ y∈vs,∀ {E:VP}{Q:VP},Q (.bool (decide (rkv y<rkv x))) s'→wpAny (model prog w) A.in1 (richCompare .Gt x y) Q E s')
  (hR:∀ s' m c,Kp s s'→m∈vs→(∀ x∈vs,rkv x≤rkv m)→St hb tabs L l ((best,ae [] c)::T) s'.heap→R (.ok (.ret m)) s') :
  ∀ (k i:Nat) (cur:List Value) (c:Nat) (o:Obj) (s₁:Shared),vs.length - i=k→i≤vs.length→bC o d i→St hb tabs L l ((best,ae cur c)::(I,o)::T) s₁.heap→Kp s s₁ →
   (i=0∧cur=[]∨0<i∧∃ m,An3 (cur=[m,m]) (m∈vs) (∀ x∈vs.take i,rkv x≤rkv m)) →
   codeAny (model prog w) A (.builtin "max.loop" ⟨[.ref I,.none,.ref best],[(Str.ofString "default", dflt)]⟩) R s₁:=by
 intro k
 induction k with
 | zero =>
  intro i cur c o s₁ hk hi ho S K hcur
  have:i=vs.length:=by exact z94 hk hi
  subst this
  refine codeAny_builtin fb ?_
  rw[Around.under_plainId mx_plain _]
  show wpAny _ A.in1 (seqItems? (.ref best) >>= _) _ _ s₁
  refine wpAny_bind (wpAny_seqItems (S.obj _ m0) rfl ?_)
  show wpAny _ A.in1 (tryCatch (pyNext (.ref I)) _ >>= _) _ _ s₁
  refine wpAny_bind (wpAny_tryCatch ?_)
  refine fi (T:=(best,ae cur c)::T) hh (S.perm (by exact List.Perm.cons _ (List.perm_append_comm (l₁:=[(I,o)]) (l₂:=T)))) ho (.tail _ hd) fun h' S'=>?_
  rcases hcur with⟨h0,_⟩ | ⟨_,m,rfl,hm,hmax⟩
  ·exact zag hne h0
  ·rw[List.take_length] at hmax
   show wpAny _ _ (updateSeq best (fun _=>#[]) >>= _) _ _ _
   obtain⟨c1,hc1⟩:∃ c1,Obj.mapSeq (fun _=>(#[]:Array Value)) (ae [m,m] c)=ae [] c1:=⟨_,rfl⟩
   refine wpAny_bind (wpAny_updateSeq (S'.obj _ m0) rfl ?_)
   have S_2:=S'.change (o':=ae [] c1) 0 rfl (Heap.SameBut.update _ best (Obj.mapSeq fun _=>(#[]:Array Value))) (by rw[Heap.get?_update_self _ (S'.obj _ m0) rfl,← hc1])
   refine wpAny_bind (wpAny_letGo ?_)
   exact wpAny_pure (hR _ m c1 ⟨K.os,K.gens⟩ hm hmax S_2)
 | succ k ih =>
  intro i cur c o s₁ hk hi ho S K hcur
  have hlt:i<vs.length:=by exact z96 hk
  refine codeAny_builtin fb ?_
  rw[Around.under_plainId mx_plain _]
  show wpAny _ A.in1 (seqItems? (.ref best) >>= _) _ _ s₁
  refine wpAny_bind (wpAny_seqItems (S.obj _ m0) rfl ?_)
  show wpAny _ A.in1 (tryCatch (pyNext (.ref I)) _ >>= _) _ _ s₁
  refine wpAny_bind (wpAny_tryCatch ?_)
  refine fh (x:=vs[i]) 1 S rfl ho (.tail _ (.tail _ hd)) (by simp[hlt]) fun h' o' ho' S'=>?_
  have hx:vs[i]∈vs:=List.getElem_mem hlt
  have hcl:cur.length≤2:=by
   rcases hcur with⟨_,rfl⟩ | ⟨_,m,rfl,_⟩<;> simp
  have upd:∀ (m:Value) {E:VP}{Q:UP} (s':Shared),St hb tabs L l ((best,ae cur c)::(I,o')::T) s'.heap→(∀ h'' c'',St hb tabs L l ((best,ae [m,m] c'')::(I,o')::T) h''→Q () (wh s' h''))→wpAny (model prog w) A.in1 (updateSeq best fun _=>#[m,m]) Q E s':=by
   intro m E Q s' Sx hq
   obtain⟨c1,hc1⟩:∃ c1,Obj.mapSeq (fun _=>(#[m,m]:Array Value)) (ae cur c)=ae [m,m] c1:=⟨_,rfl⟩
   refine wpAny_updateSeq (Sx.obj _ m0) rfl (hq _ c1 (Sx.change 0 rfl (Heap.SameBut.update _ best (Obj.mapSeq fun _=>(#[m,m]:Array Value))) (by rw[Heap.get?_update_self _ (Sx.obj _ m0) rfl,← hc1]))) (by rw[sizeLine_eq,List.size_toArray];exact up 16777214 hcl)
  rcases hcur with⟨rfl,rfl⟩ | ⟨h0,m,rfl,hm,hmax⟩
  ·show wpAny _ _ (updateSeq best (fun _=>#[vs[0],vs[0]]) >>= _) _ _ _
   refine wpAny_bind (upd _ _ S' fun h'' c'' S''=>?_)
   refine wpAny_pure ⟨plainId_quiet mx_plain _,ih 1 _ _ o' _ (by exact zak hk) (by exact hne) ho' S'' ⟨K.os,K.gens⟩ (.inr ⟨by exact zam,vs[0],rfl,hx,fun x hx'=>?_⟩)⟩
   rw[List.take_one,List.head?_eq_getElem?,List.getElem?_eq_getElem hlt] at hx'
   simp at hx'
   rw[hx']
   exact Nat.le_refl _
  ·have hmax':∀ m',rkv m≤rkv m'→rkv vs[i]≤rkv m'→∀ x∈vs.take (i+1),rkv x≤rkv m':=by
    intro m' h1 h2 x hx'
    rw[List.take_add_one,List.getElem?_eq_getElem hlt] at hx'
    rcases List.mem_append.mp hx' with q | q
    ·exact Nat.le_trans (hmax x q) h1
    ·simp at q
     rw[q];exact h2
   show wpAny _ _ (tryCatch (holding [vs[i],vs[i]] (richCompare .Gt vs[i] m >>= fun answer=>holding [answer] (truthy answer) >>= fun yes=>letGo [answer] >>= fun _=>pure yes)) _ >>= _) _ _ _
   refine wpAny_bind (wpAny_tryCatch (wpAny_holding (wpAny_bind ?_)))
   refine hgt (wh s₁ h') ((best,ae [m,m] c)::(I,o')::T) ⟨K.os,K.gens⟩ (by exact S') (fun p hp=>.tail _ (.tail _ hp)) vs[i] hx m hm ?_
   refine wpAny_bind (wpAny_holding (wpAny_truthy_bool ?_))
   refine wpAny_bind (wpAny_letGo ?_)
   refine wpAny_pure ?_
   by_cases hb':rkv m<rkv vs[i]
   ·rw[decide_eq_true hb']
    refine KFB.if_so rfl ?_
    show wpAny _ _ (updateSeq best (fun _=>#[vs[i],vs[i]]) >>= _) _ _ _
    refine wpAny_bind (upd _ _ S' fun h'' c'' S''=>?_)
    refine wpAny_bind (wpAny_letGo ?_)
    exact wpAny_pure ⟨plainId_quiet mx_plain _,ih (i+1) _ _ o' _ (by exact z9a hk) (by exact hlt) ho' S'' ⟨K.os,K.gens⟩ (.inr ⟨by exact z64,vs[i],rfl,hx,hmax' _ (Nat.le_of_lt hb') (Nat.le_refl _)⟩)⟩
   ·rw[decide_eq_false hb']
    refine KFB.if_not rfl ?_
    refine wpAny_bind (wpAny_letGo ?_)
    exact wpAny_pure ⟨plainId_quiet mx_plain _,ih (i+1) _ _ o' _ (by exact z9a hk) (by exact hlt) ho' S' ⟨K.os,K.gens⟩ (.inr ⟨by exact z64,m,rfl,hm,hmax' _ (Nat.le_refl _) (by exact z0c hb')⟩)⟩
end
end
section
theorem ng (a u v:Value):argsOk "max" ⟨[a],[(Str.ofString "default", u),(Str.ofString "key", v)]⟩:=by unfold argsOk;kernel_rfl
section
variable{prog:Program}{w:World}{A:Around}{E:VP}{s:Shared}{hb:Heap}{tabs:List Addr}{L d I:Addr}{l:List (Str×Value)}{T:List (Addr×Obj)}{vs:List Value}{n:Nat}{o:Obj}{dflt:Value}{rkv:Value→Nat}
theorem r_max{Q:VP}(hh:A.handled=none)(S:St hb tabs L l ((I,o)::T) s.heap)(ho:bC o d 0)(hd:(d,ae vs n)∈T)(hz:vs.length≤1000)
  (hgt:∀ (s':Shared) (T':List (Addr×Obj)),Kp s s'→St hb tabs L l T' s'.heap→(∀ p∈T,p∈T')→∀ x∈vs,∀ y∈vs,∀ {E:VP}{Q:VP},Q (.bool (decide (rkv y<rkv x))) s'→wpAny (model prog w) A.in1 (richCompare .Gt x y) Q E s')
  (k0:vs=[]→∀ s',Kp s s'→St hb tabs L l T s'.heap→Q dflt s')
  (k:∀ s' m,Kp s s'→m∈vs→(∀ x∈vs,rkv x≤rkv m)→St hb tabs L l T s'.heap→Q m s'):wpAny (model prog w) A (call (.builtin "max") [.ref I] [(Str.ofString "default", dflt),(Str.ofString "key", .none)]) Q E s:=by
 have hname:(toString "max" ++ toString ".loop" : String) = "max.loop" := by decide
 refine kmk_tree PySem.F.kind_max PySem.F.plain_max PySem.F.entry_max (ng _ _ _) ?_
 show wpAny _ A.in1 (Builtin.Builtins.bindParams "max" ["key", "default"] 0 ⟨[],[(Str.ofString "default", dflt),(Str.ofString "key", .none)]⟩ >>= _) _ _ s
 refine wpAny_bind (wpAny_of_eq (show Builtin.Builtins.bindParams "max" ["key", "default"] 0 ⟨[],[(Str.ofString "default", dflt),(Str.ofString "key", .none)]⟩=pure [some .none,some dflt] from rfl) ?_)
 refine wpAny_bind (wpAny_pure ?_)
 refine wpAny_bind (wpAny_pyIter_listiter (l:=d) (i:=0) ⟨_,S.obj _ m0,ho.1,ho.2⟩ ?_)
 refine wpAny_bind (wpAny_newList ?_ (Nat.zero_le _))
 rw[hname]
 have S_1:=S.push (ae [] 0)
 refine wpAny_pure ⟨plainId_quiet mx_plain _,?_⟩
 by_cases he:vs=[]
 ·subst he
  refine codeAny_builtin fb ?_
  rw[Around.under_plainId mx_plain _]
  show wpAny _ A.in1 (seqItems? (.ref s.heap.objs.size) >>= _) _ _ _
  refine wpAny_bind (wpAny_seqItems (S_1.obj _ m0) rfl ?_)
  show wpAny _ A.in1 (tryCatch (pyNext (.ref I)) _ >>= _) _ _ _
  refine wpAny_bind (wpAny_tryCatch ?_)
  refine fi (vs:=[]) (T:=(s.heap.objs.size,ae [] 0)::T) hh (S_1.perm (by exact List.Perm.cons _ (List.perm_append_comm (l₁:=[(I,o)]) (l₂:=T)))) ho (.tail _ hd) fun h' S'=>?_
  exact wpAny_bind (wpAny_rule (wpAny_pure (k0 rfl _ ⟨rfl,id⟩ (S'.sub (List.sublist_cons_self _ _)))))
 ·have hpos:0<vs.length:=List.length_pos_iff.mpr he
  refine k5 (s:=s) (rkv:=rkv) hh hpos hz hd hgt (fun s' m c K hm hmax S'=>k s' m K hm hmax (S'.sub (List.sublist_cons_self _ _))) _ 0 [] 0 o _ rfl (Nat.zero_le _) ho (by exact S_1) ⟨rfl,id⟩ (.inl ⟨rfl,rfl⟩)
end
end
section
namespace OB
theorem mro:mroOf (.type "object")=pure [.type "object"]:=by rw[mroOf_type];kernel_rfl
theorem iK:typeLookup (.type "object") "__new__" = pure (some (.builtin "object.__new__")):=by rw[typeLookup_type,builtinLookup_eq_fast];kernel_rfl
theorem called:TypeCalled "object" "object.__new__" "object.__init__" :=
 ⟨by decide +kernel,by decide +kernel,⟨_,_,mro⟩,madeBy_type mro iK (by decide +kernel),by decide +kernel,by rw[isSubtype_type];kernel_rfl,PySem.F.slot_object_init⟩
theorem typeCall:checkTypeCall "object" ⟨[],[]⟩=pure ():=by kernel_rfl
theorem newCall:checkBuiltinCall "object.__new__" ⟨[.type "object"],[]⟩=pure ():=by kernel_rfl
theorem entry_new:entryFor table "object.__new__" = some Builtin.«object.__new__»:=entryFor_of_tree (by kernel_rfl)
theorem plain_new:plainId "object.__new__" = true:=by decide +kernel
theorem made_here:Bind.madeHere "object.__new__" (.type "object")=pure ():=by
 have sb:Bind.staticBase (.type "object")=pure (.type "object"):=by
  unfold Bind.staticBase
  simp only[mro,pure_bind,List.forIn_cons,called.made,Option.isSome_some,if_true]
 unfold Bind.madeHere
 simp only[sb,pure_bind,called.made,Option.map_some,bne_self_eq_false,Bool.false_eq_true,if_false]
end OB
section
variable{prog:Program}{w:World}{A:Around}{E:VP}{s:Shared}{hb:Heap}{tabs:List Addr}{L d:Addr}{l:List (Str×Value)}{T:List (Addr×Obj)}{vs:List Value}{n:Nat}
theorem jx{Q:VP}(S:St hb tabs L l T s.heap)(hd:(d,ae vs n)∈T)(h:∀ I h',St hb tabs L l ((I,gp d 0)::T) h'→Q (.ref I) (wh s h')) :
  wpAny (model prog w) A (call (.builtin "iter") [.ref d]) Q E s:=by
 refine call_function_entry (by decide +kernel) (by decide +kernel) kdk_entry_iter (kdk_args_iter _) ?_
 unfold Builtin.«iter»
 refine wpAny_bind (m:=someArgs "iter" 1 2 _) (wpAny_of_eq (a:=[Value.ref d]) (by first | rfl | kernel_rfl!) ?_)
 show wpAny _ _ (pyIter (.ref d) >>= _) _ _ _
 refine wpAny_bind (wpAny_pyIter_list (items:=vs.toArray) ⟨_,S.obj _ hd,rfl,n,rfl⟩ ?_)
 exact wpAny_pure ⟨_,rfl,h _ _ (S.push (gp d 0))⟩
theorem ed {Q₁:VP} (h:Q₁ (.ref s.heap.objs.size) { s with heap:=s.heap.push { cls:=.type "object", data:=.plain } }) :
  codeAny (model prog w) A (.call (.builtin "object.__new__") ⟨[.type "object"],[]⟩) (wants Q₁ E) s:=by
 refine codeAny_of_tree ?_
 show wpAny _ A.in1 (do checkBuiltinCall "object.__new__" ⟨[.type "object"],[]⟩;again (.builtin "object.__new__" ⟨[.type "object"],[]⟩)) _ _ s
 refine wpAny_bind (wpAny_of_eq OB.newCall (wpAny_pure ⟨plainId_quiet OB.plain_new _,codeAny_builtin OB.entry_new ?_⟩))
 rw[Around.under_plainId OB.plain_new _]
 unfold Builtin.«object.__new__»
 show wpAny _ _ (isType (.type "object") >>= _) _ _ s
 refine wpAny_bind (wpAny_of_eq (a:=true) rfl ?_)
 refine KFB.if_not rfl ?_
 show wpAny _ _ (if ((Manifest.find? "object").elim false _)=true then _ else _) _ _ s
 refine KFB.if_not (by decide +kernel) ?_
 refine wpAny_bind (wpAny_of_eq OB.made_here ?_)
 show wpAny _ _ (if typeHasDict (Value.type "object")=true then _ else _) _ _ s
 refine KFB.if_not (by decide +kernel) ?_
 refine wpAny_bind (wpAny_pure ?_)
 show wpAny _ _ (newObj (Value.type "object") Data.plain none >>= _) _ _ s
 refine wpAny_bind (wpAny_newObj_type ?_ (by size_fits))
 show wpAny _ _ (if diesByItsTypesDel "object" = true then _ else _) _ _ _
 refine KFB.if_not (by decide +kernel) ?_
 exact wpAny_pure h
theorem kM {Q:VP} (S:St hb tabs L l T s.heap) (h:∀ u h',St hb tabs L l ((u,(⟨.type "object", none,.plain,#[]⟩:Obj))::T) h'→Q (.ref u) (wh s h')) :
  wpAny (model prog w) A (call (.type "object") []) Q E s:=by
 refine callType_codes (Q₁:=fun obj s₁=>obj=.ref s.heap.objs.size∧s₁ = { s with heap:=s.heap.push { cls:=.type "object", data:=.plain } }) OB.called OB.typeCall PySem.F.entry_object_init (ed ⟨rfl,rfl⟩) fun obj s₁ h_1=>?_
 obtain⟨rfl,rfl⟩:=h_1
 have S_1:=S.push (⟨.type "object", none,.plain,#[]⟩:Obj)
 refine⟨⟨_,S_1.obj _ m0,rfl⟩,PySem.F.args_object_init_1 _,?_⟩
 exact wpAny_pure ⟨rfl,h _ _ S_1⟩
end
end
section
section
variable{prog:Program}{w:World}{A:Around}{s:Shared}{K:Frag}{hb:Heap}{tabs:List Addr}{L fa:Addr}{l lb:List (Str×Value)}{T:List (Addr×Obj)}{fd:FuncData}{cn:Str}{cv:Value}
theorem l0{R:Result→Shared→Prop}{oc:Value}{od:Option Addr}{osl:Array (Option Value)}{args:Args}{binds:List (Str×Value)}{body:List Stmt}
  (G:Gd K tabs hb) (S:St hb tabs L l T s.heap) (ho:K.lookup fa=some ⟨oc,od,.func fd,osl⟩) (hroom:A.depth<recursionLimit)
  (hbind:BindsTo s fd args binds)
  (h:∀ L' s₁ oL ob,cJ oL l→ob.data=.cell (some cv)→Kp s s₁→St hb tabs L' lb ((L'+1,ob)::(L,oL)::T) s₁.heap →
   wpAny (model prog w) (A.deeper (callEnvC fd L' fa)) (execs body (callEnvC fd L' fa)) (fun f s'=>R (.ok (.ret (match f with | .ret v=>v | _=>.none))) s')
    (fun e s'=>wpAny (model prog w) (A.deeper (callEnvC fd L' fa)) (leaving (callEnvC fd L' fa) e) (fun _ s''=>R (.error e) s'') (fun e' s''=>R (.error e') s'') s') s₁)
  (hcs:∀ L':Addr,cellsFrom (L'+1) fd.scope.names []=[(cn,L'+1)])
  (hbL:∀ L':Addr,∀ p∈lb,bindL (callEnvC fd L' fa).kindOf binds (fun _=>none) p.1=some p.2) (hbC:∀ L':Addr,bindC (callEnvC fd L' fa).kindOf binds (fun _=>none) cn=some cv)
  (hkind:∀ x∈binds,fd.scope.names.lookup x.1=some .local∨(fd.scope.names.lookup x.1=some .cell∧x.1=cn)) (hnd:(lb.map (·.1)).Nodup)
  (hclo:fd.closure=[]:=by kernel_rfl)
  (hft:fa∉tabs:=by decide)
  (hcd:∀ hh:Heap,K.In hh→hh.CodeRec fd.code fd.qualname:=by intro hh kk;exact codeRec_of kk (by kernel_rfl))
  (hct:(match fd.code with | .ref c=>tabs.contains c | _=>false)=false:=by kernel_rfl)
  (hbody:fd.body=.stmts body:=by kernel_rfl)
  (hco:fd.scope.isCoroutine=false:=by kernel_rfl) (hgen:fd.scope.isGenerator=false:=by kernel_rfl) (hk:fd.scope.kind=.function:=by kernel_rfl) :
  codeAny (model prog w) A (.call (.ref fa) args) R s:=by
 have hcr:s.heap.CodeRec fd.code fd.qualname:=by
  obtain⟨c,o,vs,t,e1,e2,e3,e4⟩:=hcd hb G.k
  refine⟨c,o,vs,t,e1,S.old e2 (fun q=>?_),e3,e4⟩
  rw[e1] at hct
  have hct':tabs.contains c=false:=hct
  rw[List.contains_iff_mem.mpr q] at hct'
  cases hct'
 refine codeAny_call_function hroom (S.old (G.k _ _ ho) hft) rfl hco hgen hbody hcr ?_
 rw[hclo]
 refine hbind _ _ _ _ (wpAny_newFunctionEnv_cells hk (fun x hx=>?_) fun env he s' x=>?_)
 ·rcases hkind x hx with q | ⟨q,e⟩
  ·exact .inl q
  ·refine .inr ⟨q,?_⟩
   rw[hcs,e]
   simp[List.lookup]
 subst he
 refine⟨(S.lim G).keeps x.toInCall.keep,codeAny_func ?_⟩
 have hcell:=x.cell cn (s.heap.objs.size+1) (by
  show (cellsFrom (s.heap.objs.size+1) fd.scope.names []).lookup cn=_
  rw[hcs];simp[List.lookup])
 obtain⟨ob,hob,hobd⟩:=hcell
 have e2:bindC (newEnv fd.scope s.heap.objs.size fd.globals (cellsFrom (s.heap.objs.size+1) fd.scope.names []) (fd.qualname ++ ".<locals>.") (some fa) fd.code none fd.builtins).kindOf binds (fun _=>none) cn=some cv:=hbC _
 rw[e2] at hobd
 have hfm:Fm s'.heap s.heap.objs.size lb:=Fm.of_ns x.toInCall.ns (fun p hp=>hbL s.heap.objs.size p hp) hnd
 obtain⟨oL,r,S'⟩:=S.enter (L':=s.heap.objs.size) rfl hfm x.toInCall.keep
 obtain⟨hh,tk,hsame⟩:=x.toInCall.same
 have K':Kp s s':=by rw[hsame];exact⟨rfl,id⟩
 refine h s.heap.objs.size s' oL ob r hobd K' ⟨S'.fm,S'.lnew,S'.keep,S'.tab,fun p hp=>?_,fun p hp=>?_,?_⟩
 ·rcases List.mem_cons.mp hp with rfl | hp
  ·exact hob
  ·exact S'.obj p hp
 ·rcases List.mem_cons.mp hp with rfl | hp
  ·exact Nat.le_trans S'.lnew (Nat.le_succ _)
  ·exact S'.new p hp
 ·have nd:=List.nodup_cons.mp S'.nd
  have hL:L<s.heap.objs.size:=S.fm.lt
  refine List.nodup_cons.mpr ⟨fun q=>?_,List.nodup_cons.mpr ⟨fun q=>?_,nd.2⟩⟩
  ·rcases List.mem_cons.mp q with q | q
   ·exact Nat.lt_irrefl _ (Nat.lt_of_lt_of_eq (Nat.lt_succ_self _) q.symm)
   ·exact nd.1 q
  ·rcases List.mem_cons.mp q with q | q
   ·exact Nat.lt_irrefl _ (Nat.lt_trans (Nat.lt_of_lt_of_eq (Nat.lt_succ_self _) q) hL)
   ·obtain⟨p,hp,e⟩:=List.mem_map.mp q
    have hpl:=S.lt hp
    exact Nat.lt_irrefl _ (Nat.lt_trans (Nat.lt_of_lt_of_eq (Nat.lt_succ_self _) e.symm) hpl)
end
section
variable{prog:Program}{w:World}{A:Around}{E:VP}{s:Shared}{K:Frag}{hb:Heap}{tabs:List Addr}{L:Addr}{l:List (Str×Value)}{T:List (Addr×Obj)}{env:Env}{x:Str}{v:Value}{pos:Pos}
theorem ie{Q:VP}(G:Gd K tabs hb)(S:St hb tabs L l T s.heap)(e:nsIn K mainGlobals x=some (some v))(h:Q v s)
  (hk:env.scope.kind=.function:=by kernel_rfl) (hl:env.kindOf x=some .globalImplicit:=by kernel_rfl) (hg:env.globals=mainGlobals:=by kernel_rfl)
  (hd:(x == ("__debug__" : Str))=false:=by kernel_rfl):wpAny (model prog w) A (eval (.Name x pos) env) Q E s:=by
 obtain⟨mg,a⟩:=G.mg
 refine Name_function_global hk hl (loadGlobal_global (mg:=mg) ?_ (mg_of G.k a e) h) hd
 rw[hg];exact S.oldNs a G.n1
theorem br{Q:VP}(G:Gd K tabs hb)(S:St hb tabs L l T s.heap)(hv:bootBuiltins x=some v)(h:Q v s)
  (e:nsIn K mainGlobals x=some none:=by kernel_rfl)
  (hk:env.scope.kind=.function:=by kernel_rfl) (hl:env.kindOf x=some .globalImplicit:=by kernel_rfl) (hg:env.globals=mainGlobals:=by kernel_rfl)
  (hbi:env.builtins=builtinsNs:=by kernel_rfl) (hn:(x == ("__name__" : Str))=false:=by kernel_rfl)
  (hd:(x == ("__debug__" : Str))=false:=by kernel_rfl):wpAny (model prog w) A (eval (.Name x pos) env) Q E s:=by
 obtain⟨mg,a⟩:=G.mg
 obtain⟨mb,b,c⟩:=G.bl
 refine Name_function_global hk hl (loadGlobal_builtin (mg:=mg) (mb:=mb) ?_ (mg_none_of G.k a e) ?_ ((c x (beq_eq_false_iff_ne.mp hn)).trans hv) h) hd
 ·rw[hg];exact S.oldNs a G.n1
 ·rw[hbi];exact S.oldNs b G.n2
theorem j7{Q:VP}{c:Addr}{ob:Obj}(S:St hb tabs L l T s.heap)(hm:(c,ob)∈T)(hob:ob.data=.cell (some v))(h:Q v s)
  (hk:env.scope.kind=.function:=by kernel_rfl) (hl:env.kindOf x=some .cell:=by kernel_rfl) (hc:env.cells.lookup x=some c:=by rfl)
  (hd:(x == ("__debug__" : Str))=false:=by kernel_rfl):wpAny (model prog w) A (eval (.Name x pos) env) Q E s :=
 wpAny_Name (wpAny_loadName_cell hk hl hc ⟨ob,S.obj _ hm,hob⟩ h) hd
end
end
section
theorem eK:bootBuiltins (Str.ofString "iter")=some (.builtin "iter"):=by kernel_rfl
theorem gl:bootBuiltins (Str.ofString "object")=some (.type "object"):=by kernel_rfl
theorem kf:bootBuiltins (Str.ofString "max")=some (.builtin "max"):=by kernel_rfl
section
variable{prog:Program}{w:World}{A:Around}{E:VP}{s:Shared}{env:Env}
theorem bE{Q:VP}{f:Expr}{args:List Expr}{kws:List Keyword}{pos:Pos}(h:wpAny (model prog w) A (eval f env) (fun fv s₁=>wpAny (model prog w) A (callWith pos fv [] (backTo pos (starEach args env)) (backToKw pos (keywordEach kws env))) Q E s₁) E s)
  (he:eval (.Call f args kws pos) env=(do
   let fv ← eval f env
   callWith pos fv [] (backTo pos (starEach args env)) (backToKw pos (keywordEach kws env))):=by rfl) :
  wpAny (model prog w) A (eval (.Call f args kws pos) env) Q E s:=by
 rw[he]
 exact wpAny_bind h
end
section
variable{w:World}{A:Around}{E:VP}{s:Shared}{hb:Heap}{L res:Addr}{T:List (Addr×Obj)}{l:List (Str×Value)}{R:Result→Shared→Prop}{Es:List Sc}{nr n:Nat}{tn:Tok}{rk:UInt64→Str→Nat}
abbrev bX(w:World)(L':Addr):Env:=callEnvC (aE w.params) L' 280
theorem rh{prog:Program}{w:World}{A:Around}{E:VP}{s:Shared}{u:Addr}{Q:VP}(h:Q (.bool true) s):wpAny (model prog w) A (compareOp .Is (.ref u) (.ref u)) Q E s:=by
 show wpAny _ _ (do return .bool (← isSame (.ref u) (.ref u))) Q E s
 refine wpAny_bind ?_
 show wpAny _ _ (if (u == u)=true then pure true else _) _ _ s
 rw[if_pos (by simp)]
 exact wpAny_pure (wpAny_pure h)
theorem rf {prog:Program}{w:World}{A:Around}{E:VP}{s:Shared}{a u:Addr}{vs:List Value}{Q:VP} (hne:a≠u) (ha:s.heap.get? a=some (au vs)) (hu:s.heap.get? u=some (⟨.type "object", none,.plain,#[]⟩:Obj)) (h:Q (.bool false) s):wpAny (model prog w) A (compareOp .Is (.ref a) (.ref u)) Q E s:=by
 show wpAny _ _ (do return .bool (← isSame (.ref a) (.ref u))) Q E s
 refine wpAny_bind ?_
 show wpAny _ _ (if (a == u)=true then pure true else _) _ _ s
 rw[if_neg (by simpa using hne)]
 refine wpAny_bind (wpAny_load ha (wpAny_bind (wpAny_load hu ?_)))
 exact wpAny_pure (wpAny_pure h)
theorem iW{e:Sc}{Es:List Sc}{rk:UInt64→Str→Nat}(he:e∈Es)(hmax:∀ e'∈Es,rkS rk e'≤rkS rk e):∃ P:List Sc,(e::P).Perm Es∧(e::P).Pairwise (fun a b=>rkS rk b≤rkS rk a):=by
 obtain⟨l1,l2,rfl⟩:=List.append_of_mem he
 refine⟨(l1++l2).mergeSort (fun a b=>decide (rkS rk b≤rkS rk a)),?_,?_⟩
 ·exact (List.Perm.cons e (List.mergeSort_perm _ _)).trans List.perm_middle.symm
 ·refine List.pairwise_cons.mpr ⟨fun b hb=>hmax b ?_,?_⟩
  ·have:=(List.mergeSort_perm (l1++l2) _).mem_iff.mp hb
   rcases List.mem_append.mp this with q | q
   ·exact List.mem_append_left _ q
   ·exact List.mem_append_right _ (.tail _ q)
  ·have:=List.pairwise_mergeSort (le:=fun a b:Sc=>decide (rkS rk b≤rkS rk a)) (fun a b c h1 h2=>by simp at *;exact z1r h1 h2) (fun a b=>by simp;exact z1s) (l1++l2)
   exact this.imp fun h=>by simpa using h
theorem oZ{e e':Sc}{l':List (Str×Value)}{L':Addr}{T':List (Addr×Obj)}{Q:VP}(G:Gd (KN w.params) tabs hb)(hu:A.units<cLine)(S:St hb tabs L' l' T' s.heap)(hS:SOk T' Es)(hT:gU Es)(hR:gr rk Es)(he:e∈Es)(he':e'∈Es)
  (h:Q (.bool (decide (rkS rk e'<rkS rk e))) s):wpAny (model pw w) A (compareOp .Gt (.ref e.a) (.ref e'.a)) Q E s :=
 sc_gt hu (S.nb G) hT hR he he' (S.obj _ (hS e he)) (S.obj _ (hS e' he')) h
theorem qL(G:Gd (KN w.params) tabs hb)(S:St hb tabs L l T s.heap)(hd:A.depth+20<recursionLimit)(hu:A.units+100<cLine)(hh:A.handled=none)(hm:(res,ae (ay Es) nr)∈T)(hS:SOk T Es)(hT:gU Es)(hl:Es.length≤60)(hR:gr rk Es)
  (rkv:Value→Nat) (hrkv:∀ e∈Es,rkv (.ref e.a)=rkS rk e)
  (k:∀ (s':Shared) (X:List (Addr×Obj)) (r:Addr) (nr':Nat) (P:List Sc),Kp s s'→St hb tabs L l ((r,ae (ay (P.take 1)) nr')::(X++T)) s'.heap→P.Perm Es→P.Pairwise (fun a b=>rkS rk b≤rkS rk a)→R (.ok (.ret (.ref r))) s') :
  codeAny (model pw w) A (.call (.ref 280) ⟨[.int 1 tn,.ref res],[]⟩) R s:=by
 refine l0 (lb:=[(Str.ofString "n", .int 1 tn),(Str.ofString "iterable", .ref res)]) (cn:=Str.ofString "key") (cv:=.none) G S (qT _) (by exact dn 20 hd) (binds:=[(Str.ofString "n", .int 1 tn),(Str.ofString "iterable", .ref res),(Str.ofString "key", .none)]) (body:=ao (st1 pw 8))
  (BindsTo.of_defaults (o:=mU w.params) rfl (S.kin G 275 _ (by kernel_rfl)) rfl rfl rfl) ?_ (fun L'=>by kernel_rfl) (fun L' p hp=>by rcases List.mem_cons.mp hp with rfl | hp;rfl;rw[List.mem_singleton] at hp;subst hp;rfl) (fun L'=>rfl)
  (fun y hy=>by rcases List.mem_cons.mp hy with rfl | hy;exact .inl (by kernel_rfl);rcases List.mem_cons.mp hy with rfl | hy;exact .inl (by kernel_rfl);rw[List.mem_singleton] at hy;subst hy;exact .inr ⟨by kernel_rfl,rfl⟩) (cu (by kernel_rfl))
 intro L' s₁ oL ob r hob K1 S'
 refine cP ?_
 refine wpAny_isTrue_Compare1 ?_
 refine aw (env:=callEnvC (aE w.params) L' 280) S' m0 ?_
 refine wpAny_Constant_int ?_
 refine P.eq_int ?_
 refine wpAny_truthy_bool ⟨fun _=>?_,nofun⟩
 refine ak ?_
 refine ap ?_
 refine br G S' eK ?_
 refine ag ?_
 refine args_cons ?_
 refine aw (env:=callEnvC (aE w.params) L' 280) S' m1 ?_
 refine args_nil ?_
 refine jx S' (.tail _ (.tail _ hm)) ?_
 intro I h_2 S_2
 refine aG (env:=callEnvC (aE w.params) L' 280) (by exact S_2) (.new (by kernel_rfl)) ?_
 intro h_3 S_3
 refine ak ?_
 refine ap ?_
 refine br G S_3 gl ?_
 refine bb ?_
 refine args_nil ?_
 refine kM S_3 ?_
 intro u h_4 S4
 refine aG (env:=callEnvC (aE w.params) L' 280) (by exact S4) (.new (by kernel_rfl)) ?_
 intro h_5 S5
 refine az (by exact S5) fun s5 K5 S5=>?_
 replace K5:Kp s s5:=⟨K5.os.trans K1.os,fun z=>K5.gens (K1.gens z)⟩
 refine ak ?_
 refine bE ?_
 refine br G S5 kf ?_
 refine callWith_kw ?_
 refine args_cons ?_
 refine aw (env:=callEnvC (aE w.params) L' 280) S5 m1 ?_
 refine args_nil ?_
 refine kws_cons ?_
 refine aw (env:=callEnvC (aE w.params) L' 280) S5 m0 ?_
 refine kws_cons ?_
 refine j7 S5 (.tail _ (.tail _ (.head _))) hob ?_
 refine kws_nil ?_
 have hI:(res,ae (ay Es) nr)∈(u,(⟨.type "object", none,.plain,#[]⟩:Obj))::(L'+1,ob)::(L,oL)::T:=.tail _ (.tail _ (.tail _ hm))
 have S6:=S5.perm (T':=(I,gp res 0)::(u,(⟨.type "object", none,.plain,#[]⟩:Obj))::(L'+1,ob)::(L,oL)::T) (List.Perm.swap _ _ _)
 have fin:∀ (s':Shared) (v:Value) {E':VP}{Q':FP},(∀ v s',R (.ok (.ret v)) s'→Q' (.ret v) s')→Kp s s'→St hb tabs L' [(Str.ofString "sentinel", .ref u),(Str.ofString "it", .ref I),(Str.ofString "n", .int 1 tn),(Str.ofString "iterable", .ref res)] ((u,(⟨.type "object", none,.plain,#[]⟩:Obj))::(L'+1,ob)::(L,oL)::T) s'.heap →
   (Es=[]∧v=.ref u∨∃ e∈Es,v=.ref e.a∧∀ e'∈Es,rkS rk e'≤rkS rk e) →
   wpAny (model pw w) (A.deeper (callEnvC (aE w.params) L' 280)) (storeName (callEnvC (aE w.params) L' 280) (Str.ofString "result") v) (fun _ s_2=>wpAny (model pw w) (A.deeper (callEnvC (aE w.params) L' 280)) (execs ((match (((ao (st1 pw 8))[0]?).getD default:Stmt) with | Stmt.If _ b _ _=>b | _=>[]).drop 3) (callEnvC (aE w.params) L' 280)) Q' E' s_2) E' s':=by
  intro s' v E' Q' hq K' S' hv
  have nd:=(List.nodup_cons.mp (List.nodup_cons.mp S'.nd).2).1
  refine aG (env:=callEnvC (aE w.params) L' 280) (by exact S') (.new (by kernel_rfl)) ?_
  intro h_7 S7
  refine az (by exact S7) fun s7 K7 S7=>?_
  replace K7:Kp s s7:=⟨K7.os.trans K'.os,fun z=>K7.gens (K'.gens z)⟩
  refine b7 ?_
  refine IfExp_ ?_
  refine wpAny_isTrue_Compare1 ?_
  refine aw (env:=callEnvC (aE w.params) L' 280) S7 m0 ?_
  refine aw (env:=callEnvC (aE w.params) L' 280) S7 m1 ?_
  rcases hv with⟨rfl,rfl⟩ | ⟨e,he,rfl,hmax⟩
  ·refine rh ?_
   refine wpAny_truthy_bool ?_
   rw[if_pos rfl]
   refine bc ?_
   refine args_nil ?_
   refine⟨rfl,_,_,_,_,_,S7,?_⟩
   intro d' h_8 S8
   refine hq _ _ ?_
   have S9:=S8.perm (T':=(L,oL)::(d',ae [] 0)::([(u,(⟨.type "object", none,.plain,#[]⟩:Obj)),(L'+1,ob)]++T)) (by
    exact List.perm_middle (l₁:=[(d',ae [] 0),(u,(⟨.type "object", none,.plain,#[]⟩:Obj)),(L'+1,ob)]))
   exact k _ [(u,(⟨.type "object", none,.plain,#[]⟩:Obj)),(L'+1,ob)] d' 0 [] ⟨K7.os,K7.gens⟩ (by exact S9.leave 0 rfl r) (List.Perm.refl _) List.Pairwise.nil
  ·have hne:e.a≠u:=fun q=>nd (by
    exact List.mem_map.mpr ⟨(e.a,au [.float e.f e.ft,aj e.x]),.tail _ (.tail _ (hS e he)),q⟩)
   refine rf hne (S7.obj _ (.tail _ (.tail _ (.tail _ (hS e he))))) (S7.obj _ m0) ?_
   refine wpAny_truthy_bool ?_
   rw[if_neg (by decide)]
   refine bc ?_
   refine args_cons ?_
   refine aw (env:=callEnvC (aE w.params) L' 280) S7 m0 ?_
   refine args_nil ?_
   refine⟨rfl,_,_,_,_,_,S7,?_⟩
   intro d' h_8 S8
   refine hq _ _ ?_
   obtain⟨P,hp,hpw⟩:=iW he hmax
   have S9:=S8.perm (T':=(L,oL)::(d',ae [.ref e.a] 0)::([(u,(⟨.type "object", none,.plain,#[]⟩:Obj)),(L'+1,ob)]++T)) (by
    exact List.perm_middle (l₁:=[(d',ae [.ref e.a] 0),(u,(⟨.type "object", none,.plain,#[]⟩:Obj)),(L'+1,ob)]))
   exact k _ [(u,(⟨.type "object", none,.plain,#[]⟩:Obj)),(L'+1,ob)] d' 0 (e::P) ⟨K7.os,K7.gens⟩ (by exact S9.leave 0 rfl r) hp hpw
 refine r_max (A:=A.deeper (callEnvC (aE w.params) L' 280)) (rkv:=rkv) (vs:=ay Es) (d:=res) hh S6 ⟨rfl,rfl⟩ hI (by rw[aH];exact up 940 hl) ?_ ?_ ?_
 ·intro s' T' K' S' hin x hx y hy E Q hq
  obtain⟨e,he,rfl⟩:=List.mem_map.mp hx
  obtain⟨e',he',rfl⟩:=List.mem_map.mp hy
  rw[hrkv e he,hrkv e' he'] at hq
  exact oZ G (by show A.units+3+1<cLine;exact dn 96 hu) S' (hS.mono fun p hp=>hin _ (.tail _ (.tail _ (.tail _ hp)))) hT hR he he' hq
 ·intro he s' K' S'
  have hE:Es=[]:=by simpa [ay] using he
  exact fin s' _ (fun v s' h=>h) ⟨K'.os.trans K5.os,fun z=>K'.gens (K5.gens z)⟩ S' (.inl ⟨hE,rfl⟩)
 ·intro s' m K' hm' hmax S'
  obtain⟨e,he,rfl⟩:=List.mem_map.mp hm'
  refine fin s' _ (fun v s' h=>h) ⟨K'.os.trans K5.os,fun z=>K'.gens (K5.gens z)⟩ S' (.inr ⟨e,he,rfl,fun e' he'=>?_⟩)
  have:=hmax (.ref e'.a) (List.mem_map.mpr ⟨e',he',rfl⟩)
  rw[hrkv e he,hrkv e' he'] at this
  exact this
end
end
section
section
variable{prog:Program}{w:World}{A:Around}{E:VP}{s:Shared}{env:Env}
theorem q_try{body orelse:List Stmt}{h_0:ExceptHandler}{hs:List ExceptHandler}{rest:List Stmt}{pos:Pos}{Q:FP}
  (h:∀ {E':VP},wpAny (model prog w) A (execs body env) (fun f s₁=>f=.next∧wpAny (model prog w) A (execs orelse env) (fun f s_2=>match f with | .next=>wpAny (model prog w) A (execs rest env) Q E s_2 | f=>Q f s_2) E s₁) E' s) :
  wpAny (model prog w) A (execs (.Try body (h_0::hs) orelse [] pos::rest) env) Q E s:=by
 refine wpAny_execs_cons (wpAny_Try_except (wpAny_mono h (fun f s₁ z=>?_) fun _ _ z=>z))
 obtain⟨rfl,z⟩:=z
 exact z
end
def nlS:List Stmt:=(match ((match (((ao (st1 pw 8))[1]?).getD default:Stmt) with | Stmt.Try _ _ o _ _=>o | _=>[])[0]?).getD default with | Stmt.If _ b _ _=>b | _=>[])
section
variable{w:World}{A:Around}{E:VP}{s:Shared}{hb:Heap}{L res:Addr}{T:List (Addr×Obj)}{l:List (Str×Value)}{R:Result→Shared→Prop}{Es:List Sc}{nr n:Nat}{tn:Tok}{rk:UInt64→Str→Nat}
theorem mZ(G:Gd (KN w.params) tabs hb)(S:St hb tabs L l T s.heap)(hd:A.depth+20<recursionLimit)(hu:A.units+100<cLine)(hh:A.handled=none)(hm:(res,ae (ay Es) nr)∈T)(hl:Es.length≤60)(hn1:n≠1)
  (kbig:Es.length≤n→∀ (L':Addr) (s₁:Shared) (oL ob:Obj) (ts:Tok) {Q:FP}{E':VP},(∀ v s',R (.ok (.ret v)) s'→Q (.ret v) s')→cJ oL l→ob.data=.cell (some .none)→Kp s s₁ →
   St hb tabs L' [(Str.ofString "size", .int Es.length ts),(Str.ofString "n", .int n tn),(Str.ofString "iterable", .ref res)] ((L'+1,ob)::(L,oL)::T) s₁.heap →
   wpAny (model pw w) (A.deeper (bX w L')) (execs nlS (bX w L')) Q E' s₁)
  (kheap:n<Es.length→∀ (L':Addr) (s₁:Shared) (oL ob:Obj) (ts:Tok),cJ oL l→ob.data=.cell (some .none)→Kp s s₁ →
   St hb tabs L' [(Str.ofString "size", .int Es.length ts),(Str.ofString "n", .int n tn),(Str.ofString "iterable", .ref res)] ((L'+1,ob)::(L,oL)::T) s₁.heap →
   wpAny (model pw w) (A.deeper (bX w L')) (execs ((ao (st1 pw 8)).drop 2) (bX w L')) (fun f s'=>R (.ok (.ret (match f with | .ret v=>v | _=>.none))) s')
    (fun e s'=>wpAny (model pw w) (A.deeper (bX w L')) (leaving (bX w L') e) (fun _ s''=>R (.error e) s'') (fun e' s''=>R (.error e') s'') s') s₁) :
  codeAny (model pw w) A (.call (.ref 280) ⟨[.int n tn,.ref res],[]⟩) R s:=by
 refine l0 (lb:=[(Str.ofString "n", .int n tn),(Str.ofString "iterable", .ref res)]) (cn:=Str.ofString "key") (cv:=.none) G S (qT _) (by exact dn 20 hd) (binds:=[(Str.ofString "n", .int n tn),(Str.ofString "iterable", .ref res),(Str.ofString "key", .none)]) (body:=ao (st1 pw 8))
  (BindsTo.of_defaults (o:=mU w.params) rfl (S.kin G 275 _ (by kernel_rfl)) rfl rfl rfl) ?_ (fun L'=>by kernel_rfl) (fun L' p hp=>by rcases List.mem_cons.mp hp with rfl | hp;rfl;rw[List.mem_singleton] at hp;subst hp;rfl) (fun L'=>rfl)
  (fun y hy=>by rcases List.mem_cons.mp hy with rfl | hy;exact .inl (by kernel_rfl);rcases List.mem_cons.mp hy with rfl | hy;exact .inl (by kernel_rfl);rw[List.mem_singleton] at hy;subst hy;exact .inr ⟨by kernel_rfl,rfl⟩) (cu (by kernel_rfl))
 intro L' s₁ oL ob r hob K1 S'
 refine cP ?_
 refine wpAny_isTrue_Compare1 ?_
 refine aw (env:=callEnvC (aE w.params) L' 280) S' m0 ?_
 refine wpAny_Constant_int ?_
 refine P.eq_int ?_
 refine wpAny_truthy_bool ⟨fun q=>absurd (eq_of_beq q) (by exact z1w hn1),fun _=>?_⟩
 refine ax ?_
 refine q_try ?_
 intro E'
 refine ak ?_
 refine ap ?_
 refine br G S' boot_len ?_
 refine ag ?_
 refine args_cons ?_
 refine aw (env:=callEnvC (aE w.params) L' 280) S' m1 ?_
 refine args_nil ?_
 refine PyProof.Rows.len_list (items:=(ay Es).toArray) ⟨_,S'.obj _ (.tail _ (.tail _ hm)),rfl,nr,rfl⟩ (by rw[List.size_toArray,aH];lia) ?_
 rw[List.size_toArray,aH]
 refine aG (env:=callEnvC (aE w.params) L' 280) (by exact S') (.new (by kernel_rfl)) ?_
 intro h_2 S_2
 refine az (by exact S_2) fun s_2 K2 S_2=>?_
 replace K2:Kp s s_2:=⟨K2.os.trans K1.os,fun z=>K2.gens (K1.gens z)⟩
 refine ax ⟨rfl,?_⟩
 refine cP ?_
 refine wpAny_isTrue_Compare1 ?_
 refine aw (env:=callEnvC (aE w.params) L' 280) S_2 m1 ?_
 refine aw (env:=callEnvC (aE w.params) L' 280) S_2 m0 ?_
 refine P.ge_int ?_
 refine wpAny_truthy_bool ⟨fun q=>?_,fun q=>?_⟩
 ·have hge:Es.length≤n:=by have:=of_decide_eq_true q;exact z1y q
  exact kbig hge L' s_2 oL ob _ (fun v s' h=>h) r hob K2 S_2
 ·have hlt:n<Es.length:=by have:=of_decide_eq_false q;exact z1z q
  have h:=kheap hlt L' s_2 oL ob _ r hob K2 S_2
  refine ax ?_
  refine ax ?_
  exact h
end
end
section
open PySem.Spec
theorem mF{rkv:Value→Nat}{vs:List Value}{p:Array Nat}(hp:Pm vs.length p)(hs:aL (fun i=>rkv (vs.reverse.getD i .none)) p vs.length) :
  (p.toList.map fun i=>vs.reverse.getD i .none).reverse.Perm vs∧(p.toList.map fun i=>vs.reverse.getD i .none).reverse.Pairwise (fun a b=>rkv b≤rkv a):=by
 refine⟨(List.reverse_perm _).trans ((jI (l:=vs.reverse) (by rw[List.length_reverse];exact hp)).trans (List.reverse_perm _)),?_⟩
 rw[List.pairwise_reverse,List.pairwise_iff_getElem]
 intro i j hi hj hij
 rw[List.length_map,Array.length_toList] at hi hj
 have h:=hs i j (by exact z2f hij) (by rw[← hp.size];exact hj)
 unfold Rk at h
 rw[List.getElem_map,List.getElem_map,Array.getElem_toList,Array.getElem_toList]
 have e1:p.getD i 0=p[i]:=by simp[Array.getD,hi]
 have e2:p.getD j 0=p[j]:=by simp[Array.getD,hj]
 rw[e1,e2] at h
 exact h
section
variable{prog:Program}{w:World}{A:Around}{E:VP}{s:Shared}{hb:Heap}{tabs:List Addr}{L d:Addr}{l:List (Str×Value)}{T:List (Addr×Obj)}{vs:List Value}{n:Nat}{κ:SortKind}
theorem cE{Q:PySem.Fin→Shared→Prop}(rkv:Value→Nat)(S:St hb tabs L l ((d,ae vs n)::T) s.heap)(h64:vs.length<64)
  (hkind:2≤vs.length→∀ (s':Shared) T' {Q:SortKind→Shared→Prop}{E:VP},St hb tabs L l T' s'.heap→(∀ p∈T,p∈T')→Q κ s'→wpAny (model prog w) A (keyKind' vs.toArray) Q E s')
  (hlt:∀ (s':Shared) T',Kp s s'→St hb tabs L l T' s'.heap→(∀ p∈T,p∈T')→∀ x∈vs,∀ y∈vs,∀ C:BP,C (decide (rkv x<rkv y)) s' →
   wpAny (model prog w) A (keyLt' κ x y) C (fun _ _=>False) s')
  (k:∀ s' n' vs',Kp s s'→vs'.Perm vs→vs'.Pairwise (fun a b=>rkv b≤rkv a)→St hb tabs L l ((d,ae vs' n')::T) s'.heap→Q (.done (.ret .none)) s') :
  wpAny (model prog w) A (bu d) Q E s:=by
 by_cases h2:2≤vs.length
 ·refine iA (H:=True) (rk:=fun i=>rkv (vs.reverse.getD i .none)) S h2 h64 (hkind h2) (fun s' T' K' S' hin i j hi hj C hC=>?_) fun s' n' p K' hpm hso S'=>?_
  ·have mem:∀ i,i<vs.length→vs.reverse.getD i .none∈vs:=fun i hi=>by
    have hi':i<vs.reverse.length:=by rw[List.length_reverse];exact hi
    have e:vs.reverse.getD i .none=vs.reverse[i]:=by rw[List.getD_eq_getElem?_getD,List.getElem?_eq_getElem hi'];rfl
    rw[e]
    exact List.mem_reverse.mp (List.getElem_mem hi')
   exact hlt s' T' K' S' hin _ (mem i hi) _ (mem j hj) C (hC _ s'.toks fun _=>rfl)
  ·obtain⟨a,b⟩:=mF hpm (hso trivial)
   exact k s' n' _ K' a b S'
 ·refine eP S (by exact z0d h2) fun h' n' S'=>?_
  refine k (wh s h') n' vs ⟨rfl,id⟩ (List.Perm.refl _) ?_ S'
  match vs,h2 with
  | [],_=>exact List.Pairwise.nil
  | [a],_=>exact List.pairwise_singleton _ _
  | _::_::_,h=>exact absurd (by simp) h
theorem dS{kw:List (Str×Value)}{Q:VP}(rkv:Value→Nat)(S:St hb tabs L l T s.heap)(hd:(d,ae vs n)∈T)(h64:vs.length<64)
  (ha1:argsOk "sorted" ⟨[.ref d],kw⟩) (ha2:∀ x,argsOk "list.sort" ⟨[.ref x],kw⟩) (ht:∀ x,Builtin.«list.sort» ⟨[.ref x],kw⟩=bu x)
  (hkind:2≤vs.length→∀ (s':Shared) T' {Q:SortKind→Shared→Prop}{E:VP},St hb tabs L l T' s'.heap→(∀ p∈T,p∈T')→Q κ s'→wpAny (model prog w) A.in1.in1 (keyKind' vs.toArray) Q E s')
  (hlt:∀ (s':Shared) T',Kp s s'→St hb tabs L l T' s'.heap→(∀ p∈T,p∈T')→∀ x∈vs,∀ y∈vs,∀ C:BP,C (decide (rkv x<rkv y)) s' →
   wpAny (model prog w) A.in1.in1 (keyLt' κ x y) C (fun _ _=>False) s')
  (k:∀ s' D n' vs' X,Kp s s'→vs'.Perm vs→vs'.Pairwise (fun a b=>rkv b≤rkv a)→St hb tabs L l ((D,ae vs' n')::(X++T)) s'.heap→Q (.ref D) s') :
  wpAny (model prog w) A (call (.builtin "sorted") [.ref d] kw) Q E s:=by
 refine gC S hd (by exact ul 936 h64) ha1 ha2 ht fun D tmp c h' S'=>?_
 refine cE (κ:=κ) rkv (s:=(wh s h')) S' h64 (fun h2 s' T' {Q E} S'' hin hq=>hkind h2 s' T' S'' (fun p hp=>hin p (.tail _ hp)) hq) (fun s' T' K' S'' hin=>hlt s' T' ⟨K'.os,K'.gens⟩ S'' fun p hp=>hin p (.tail _ hp)) fun s' n' vs' K' hp hw S''=>?_
 exact⟨_,rfl,k s' D n' vs' [(tmp,ae vs c)] ⟨K'.os,K'.gens⟩ hp hw S''⟩
theorem b4{env:Env}{value:Expr}{lower upper:Option Expr}{p pos:Pos}{Q:VP}
  (h:wpAny (model prog w) A (eval value env) (fun o s₁=>wpAny (model prog w) A (eval (.Slice lower upper none p) env) (fun i s_2=>s_2.TypeIs o "list" ∧ wpAny (model prog w) A (getItem o i) Q E s_2) E s₁) E s) :
  wpAny (model prog w) A (eval (.Subscript value (.Slice lower upper none p) pos) env) Q E s:=by
 rw[eval_Subscript]
 refine wpAny_bind (wpAny_mono h (fun o s₁ h_1=>wpAny_bind (wpAny_holding (wpAny_mono h_1 (fun i s_2 h_2=>wpAny_bind (wpAny_standAt ?_)) fun _ _ x=>x)))
  fun _ _ x=>x)
 have fin:wpAny (model prog w) A (operate [i,o] (getItem o i)) (fun r s3=>wpAny (model prog w) A (letTemporaryGo value o r >>= fun _=>pure r) Q E s3) E s_2 :=
  wpAny_operating (wpAny_mono h_2.2 (fun r s3 h_3=>wpAny_bind (wpAny_letTemporaryGo (wpAny_pure h_3))) fun _ _ x=>x)
 refine wpAny_bind ?_
 rw[getitemInPython_of_ne h_2.1.not_modules]
 refine wpAny_bind (wpAny_specialOf h_2.1 list_getitem_lookup ?_)
 first
  | exact wpAny_pure (wpAny_bind fin)
  | exact wpAny_bind (wpAny_pure (wpAny_bind fin))
  | exact wpAny_bind fin
theorem cj{Q:VP}{env:Env}{value e:Expr}{p pos:Pos}
  (h:wpAny (model prog w) A (eval value env) (fun o s₁=>wpAny (model prog w) A (eval e env) (fun vu s_2=>Ex8 fun L l T d vs n b tb=>An6 (o=.ref d) (vu=.int ((b:Nat):Int) tb) (St hb tabs L l T s_2.heap) ((d,ae vs n)∈T) (vs.length≤1000) (∀ D X h',St hb tabs L l ((D,ae (vs.take b) 0)::(X++T)) h'→Q (.ref D) (wh s_2 h'))) E s₁) E s) :
  wpAny (model prog w) A (eval (.Subscript value (.Slice none (some e) none p) pos) env) Q E s:=by
 refine b4 (wpAny_mono h (fun o s₁ h_1=>?_) fun _ _ e=>e)
 refine wpAny_Slice ?_
 rw[evalPart_none]
 refine wpAny_pure ?_
 rw[evalPart_some]
 refine wpAny_mono h_1 (fun vu s_2 h_2=>?_) fun _ _ e=>e
 obtain⟨L,l,T,d,vs,n,b,tb,rfl,rfl,S,hm,hz,hQ⟩:=h_2
 refine wpAny_pure ?_
 have hl:s_2.heap.IsList d vs.toArray:=⟨_,S.obj _ hm,rfl,n,rfl⟩
 have S_1:=(S.push { cls:=.type "slice", data:=.fields #[.none,.int ((b:Nat):Int) tb,.none] }).push { cls:=.type "list", data:=.seq (slicePick vs.toArray none (some ((b:Nat):Int)) none) }
 rw[slicePick_upto' _ _] at S_1
 refine⟨(hl.push _).typeIs,wpAny_getItem_list_slice (hl.push _) (Heap.IsSliceOf.new ..) .none (.int _ _) .none (by simp) ?_ (by rw[sizeLine_eq,List.size_toArray];exact up 16776216 hz)⟩
 rw[slicePick_upto' _ _]
 exact hQ _ [(_,_)] _ S_1
end
end
section
open PySem.Spec
theorem d3{prog:Program}{w:World}{A:Around}{E:VP}{s:Shared}{a b:UInt64}{t u:Tok}{Q:BP}(h:Q (Float64.cmp a b == some Ordering.lt) s):wpAny (model prog w) A (oneLt' true (.float a t) (.float b u)) Q E s:=by
 rw[oneLt'_eq]
 simp only[if_true]
 refine wpAny_bind (wpAny_cRoomFor_byValue rfl ?_)
 refine wpAny_bind (wpAny_callSpecialIfBound?_slot (AutoFloatOps.typeIs_float s a t) F.slot_float_lt (call_gives F.slot_float_lt (AutoFloatOps.typeIs_float s a t) F.entry_float_lt (F.args_float_lt_2 _ _) (AutoFloatG5.float___lt___float_float_0 a t b u) ?_))
 exact wpAny_truthy_bool h
theorem sc_tups{h:Heap}:∀ {Es:List Sc},(∀ e∈Es,h.get? e.a=some (au [.float e.f e.ft,aj e.x]))→KatTups h (ay Es) (Es.map fun e=>.float e.f e.ft)
 | [],_=>.nil
 | e::r,hS=>.cons (hS e (.head _)) rfl rfl rfl (sc_tups fun e' he'=>hS e' (.tail _ he'))
section
variable{w:World}{A:Around}{E:VP}{s:Shared}{Es:List Sc}{rk:UInt64→Str→Nat}
theorem oY{e e':Sc}{Q:BP}(NB:NoneBooked s.heap)(hT:gU Es)(hR:gr rk Es)(he:e∈Es)(he':e'∈Es)(ha:s.heap.get? e.a=some (au [.float e.f e.ft,aj e.x]))(hb':s.heap.get? e'.a=some (au [.float e'.f e'.ft,aj e'.x]))
  (h:Q (decide (rkS rk e<rkS rk e')) s):wpAny (model pw w) A (keyLt' (tuples' true) (.ref e.a) (.ref e'.a)) Q E s:=by
 have hself:(Float64.cmp e.f e.f == some Ordering.eq)=true:=(Bool.and_eq_true_iff.mp ((hR e he e he).1.mpr rfl)).1
 obtain⟨r1,r2,r3,r4,r5⟩:=hR e he e' he'
 refine kat_lt ha rfl hb' rfl ?_
 refine kat_cons ?_
 refine cX NB (hT e he).1 (hT e' he').1 (fun q=>(hT e he).2 e' he' q) hself ?_
 refine kat_go (fun q=>?_) (fun q=>?_)
 ·refine kat_yes (kat_cons (eqBool_str (kat_go (fun q2=>?_) (fun q2=>?_))))
  ·have:rkS rk e=rkS rk e':=r1.mp (by rw[q,q2];rfl)
   rw[show decide (rkS rk e<rkS rk e')=false from decide_eq_false (by exact z20 this)] at h
   exact kat_yes (kat_nil h)
  ·refine kat_no (kat_one _ _ (lt_str ?_))
   have:=r3 q
   rw[show decide (rkS rk e<rkS rk e')=decide (e.x.1.cps.toList<e'.x.1.cps.toList) from decide_eq_decide.mpr this.symm] at h
   exact h
 ·refine kat_no (d3 ?_)
  have:=r2 q
  rw[show (Float64.cmp e.f e'.f == some Ordering.lt)=decide (rkS rk e<rkS rk e') from by
   by_cases z:rkS rk e<rkS rk e'
   ·rw[decide_eq_true z];exact this.mpr z
   ·rw[decide_eq_false z];exact Bool.eq_false_iff.mpr fun q=>z (this.mp q)]
  exact h
end
theorem ce:bootBuiltins (Str.ofString "sorted")=some (.builtin "sorted"):=by kernel_rfl
theorem mP:∀ {vs:List Value}{Es:List Sc},vs.Perm (ay Es)→∃ P:List Sc,vs=ay P∧P.Perm Es:=by
 intro vs Es h
 generalize hr:ay Es=l at h
 induction h generalizing Es with
 | nil =>
  have:Es=[]:=by simpa [ay] using hr
  subst this
  exact⟨[],rfl,List.Perm.refl _⟩
 | cons x h ih =>
  match Es,hr with
  | e::r,hr =>
   have h1:=List.cons.inj hr
   obtain⟨P,hP,hp⟩:=ih h1.2
   exact⟨e::P,by rw[← h1.1,hP];rfl,hp.cons e⟩
 | swap x y l =>
  match Es,hr with
  | e::e'::r,hr =>
   have h1:Value.ref e.a=x∧Value.ref e'.a=y∧ay r=l:=by simpa [ay] using hr
   obtain⟨a,b,c⟩:=h1
   exact⟨e'::e::r,by rw[← a,← b,← c];rfl,List.Perm.swap _ _ _⟩
 | trans h1 h2 ih1 ih2 =>
  obtain⟨P2,hP2,hp2⟩:=ih2 hr
  obtain⟨P1,hP1,hp1⟩:=ih1 hP2.symm
  exact⟨P1,hP1,hp1.trans hp2⟩
theorem pw_sc{rk:UInt64→Str→Nat}{rkv:Value→Nat}{P:List Sc}(hr:∀ e∈P,rkv (.ref e.a)=rkS rk e)(h:(ay P).Pairwise fun a b=>rkv b≤rkv a):P.Pairwise fun a b=>rkS rk b≤rkS rk a:=by
 unfold ay at h
 rw[List.pairwise_map] at h
 refine List.Pairwise.imp_of_mem ?_ h
 intro a b ha hb h
 rw[hr a ha,hr b hb] at h
 exact h
section
variable{w:World}{A:Around}{E:VP}{s:Shared}{hb:Heap}{L L' res:Addr}{T:List (Addr×Obj)}{l:List (Str×Value)}{Es:List Sc}{nr n:Nat}{tn ts:Tok}{rk:UInt64→Str→Nat}{oL ob:Obj}
theorem qM(G:Gd (KN w.params) tabs hb)(hu:A.units+100<cLine)(hm:(res,ae (ay Es) nr)∈T)(hS:SOk T Es)(hT:gU Es)(hl:Es.length≤60)(hR:gr rk Es)
  (rkv:Value→Nat) (hrkv:∀ e∈Es,rkv (.ref e.a)=rkS rk e) (hob:ob.data=.cell (some .none)) {Q:FP}
  (S:St hb tabs L' [(Str.ofString "size", .int Es.length ts),(Str.ofString "n", .int n tn),(Str.ofString "iterable", .ref res)] ((L'+1,ob)::(L,oL)::T) s.heap)
  (k:∀ (s':Shared) (X:List (Addr×Obj)) (r:Addr) (P:List Sc),Kp s s'→P.Perm Es→P.Pairwise (fun a b=>rkS rk b≤rkS rk a) →
   St hb tabs L' [(Str.ofString "size", .int Es.length ts),(Str.ofString "n", .int n tn),(Str.ofString "iterable", .ref res)] ((r,ae (ay (P.take n)) 0)::(X++((L'+1,ob)::(L,oL)::T))) s'.heap→Q (.ret (.ref r)) s') :
  wpAny (model pw w) (A.deeper (bX w L')) (execs nlS (bX w L')) Q E s:=by
 refine b7 ?_
 refine cj (hb:=hb) (tabs:=tabs) ?_
 refine bE ?_
 refine br G S ce ?_
 refine callWith_kw ?_
 refine args_cons ?_
 refine aw (env:=callEnvC (aE w.params) L' 280) S m2 ?_
 refine args_nil ?_
 refine kws_cons ?_
 refine j7 S (.head _) hob ?_
 refine kws_cons ?_
 refine wpAny_Constant_bool ?_
 refine kws_nil ?_
 have hin:∀ T',(∀ p∈(L'+1,ob)::(L,oL)::T,p∈T')→SOk T' Es:=fun T' h=>hS.mono fun p hp=>h _ (.tail _ (.tail _ hp))
 refine dS (κ:=tuples' true) rkv S (.tail _ (.tail _ hm)) (by rw[aH];exact z21 hl) (ksk_s2 _ _ _) (fun x=>ksk_l2 _ _ _) (fun x=>dA x) ?_ ?_ ?_
 ·intro h2 s' T' Q' E' S' hT' hq
  have hS':=hin T' hT'
  exact kat_kind (T:=.type "float") (sc_tups fun e he=>S'.obj _ (hS' e he)) (by rw[List.length_map];rw[aH] at h2;exact z22 h2) (fun v hv=>by
   obtain⟨e,-,rfl⟩:=List.mem_map.mp hv
   exact .now) rfl hq
 ·intro s' T' K' S' hT' x hx y hy C hC
  obtain⟨e,he,rfl⟩:=List.mem_map.mp hx
  obtain⟨e',he',rfl⟩:=List.mem_map.mp hy
  have hS':=hin T' hT'
  rw[hrkv e he,hrkv e' he'] at hC
  exact oY (S'.nb G) hT hR he he' (S'.obj _ (hS' e he)) (S'.obj _ (hS' e' he')) hC
 ·intro s' D n' vs' X K' hp hw S'
  obtain⟨P,rfl,hP⟩:=mP hp
  refine aw (env:=callEnvC (aE w.params) L' 280) S' m1 ?_
  refine⟨_,_,_,D,ay P,n',n,tn,rfl,rfl,S',.head _,by rw[aH,hP.length_eq];exact up 940 hl,?_⟩
  intro D2 X2 h' S_2
  have e1:(ay P).take n=ay (P.take n):=by unfold ay;rw[List.map_take]
  rw[e1] at S_2
  refine k (wh s' h') (X2++((D,ae (ay P) n')::X)) D2 P ⟨K'.os,K'.gens⟩ hP (pw_sc (fun e he=>hrkv e (hP.mem_iff.mp he)) hw) ?_
  rw[List.append_assoc]
  exact S_2
end
end
section
abbrev rg3O (a b c:Int) (t u v:Tok):Obj:={ cls:=.type "range", dict:=none,data:=.fields #[.int a t,.int b u,.int c v],slots:=#[] }
abbrev dQ (x left c:Int):Obj:={ cls:=.type "range_iterator", dict:=none,data:=.fields #[rawInt x,rawInt left,rawInt c],slots:=#[] }
abbrev eL (f0:Value) (TI TO:Addr):Obj:={ cls:=.type "zip", dict:=none,data:=.fields #[f0,.bool false,.bool false,.ref TI,.ref TO],slots:=#[] }
theorem fZ(r it d:Addr)(b c:Int)(t u v:Tok)(i:Nat)(hsm:Builtin.Range.small 0 b c=true)(oi:Obj)(hoi:bC oi d i) :
  Meets (Builtin.«zip.__new__» ⟨[.type "zip", .ref r,.ref it],[]⟩) (fun _ R s=>s.heap.get? r=some (rg3O 0 b c t u v)∧s.heap.get? it=some oi ∧
   R (.ok (.ret (.ref (((s.heap.push (dQ 0 (Builtin.Range.rangeSize 0 b c) c)).push (au [.ref s.heap.objs.size,.ref it])).push (au [.none,.none])).objs.size)))
    { s with heap:=(((s.heap.push (dQ 0 (Builtin.Range.rangeSize 0 b c) c)).push (au [.ref s.heap.objs.size,.ref it])).push (au [.none,.none])).push (eL .none (s.heap.push (dQ 0 (Builtin.Range.rangeSize 0 b c) c)).objs.size ((s.heap.push (dQ 0 (Builtin.Range.rangeSize 0 b c) c)).push (au [.ref s.heap.objs.size,.ref it])).objs.size) }) :=
 .of_wp fun prog w A R s h=>by
  obtain⟨hp,g,dr,tk,os⟩:=s;obtain⟨hr,hi,h⟩:=h
  have hR:IsRange (Shared.heap ⟨hp,g,dr,tk,os⟩) r 0 b c t u v:=hr
  have hI:Heap.IsListIter (Shared.heap ⟨hp.push (dQ 0 (Builtin.Range.rangeSize 0 b c) c),g,dr,tk,os⟩) it d i:=⟨oi,Heap.get?_push_of_some _ hi,hoi.1,hoi.2⟩
  have hsub:=sub_zip
  wp_walk using wpAny_pyIter_range hR hsm,wpAny_pyIter_listiter hI
  exact⟨_,rfl,h⟩
section
variable{prog:Program}{w:World}{A:Around}{E:VP}{s:Shared}{hb:Heap}{tabs:List Addr}{L d r it:Addr}{l:List (Str×Value)}{T:List (Addr×Obj)}{vs:List Value}{b c:Int}{t u v:Tok}{i:Nat}{oi:Obj}
theorem kK{a:Int}{Q:VP}(S:St hb tabs L l T s.heap)(hc:c≠0)(hp:Builtin.divisionGoesByPylong (b - a) c=false)(h:∀ r h',St hb tabs L l ((r,rg3O a b c t u v)::T) h'→Q (.ref r) (wh s h')) :
  wpAny (model prog w) A (call (.type "range") [.int a t,.int b u,.int c v]) Q E s :=
 call_range_3 hc (h _ _ (S.push _)) (.inl hp)
theorem oM{Q:VP}(S:St hb tabs L l T s.heap)(hr:(r,rg3O 0 b c t u v)∈T)(hi:(it,oi)∈T)(hoi:bC oi d i)(hsm:Builtin.Range.small 0 b c=true)
  (h:∀ z TI TO ri h',St hb tabs L l ((z,eL .none TI TO)::(TO,au [.none,.none])::(TI,au [.ref ri,.ref it])::(ri,dQ 0 (Builtin.Range.rangeSize 0 b c) c)::T) h'→Q (.ref z) (wh s h')) :
  wpAny (model prog w) A (call (.type "zip") [.ref r,.ref it]) Q E s:=by
 have S':=(((S.push (dQ 0 (Builtin.Range.rangeSize 0 b c) c)).push (au [.ref s.heap.objs.size,.ref it])).push (au [.none,.none])).push (eL .none (s.heap.push (dQ 0 (Builtin.Range.rangeSize 0 b c) c)).objs.size ((s.heap.push (dQ 0 (Builtin.Range.rangeSize 0 b c) c)).push (au [.ref s.heap.objs.size,.ref it])).objs.size)
 refine callType_new F.called_zip (by decide) (F.typeCall_zip_2 _ _) (F.newCall_zip_2 _ _) (fun obj=>F.args_object_init_3 obj _ _) F.entry_zip_new (fZ r it d b c t u v i hsm oi hoi) ⟨S.obj _ hr,S.obj _ hi,⟨_,S'.obj _ m0,rfl⟩,h _ _ _ _ _ S'⟩
theorem fX{x left:Int}{Q:VP}(hit:s.heap.get? it=some (dQ x left c))(hleft:0<left)
  (hQ:∀ h',h'.get? it=some (dQ (x+c) (left - 1) c)→Heap.SameBut it s.heap h'→Q (.int x s.toks) (wht s h' (s.toks+1))) :
  wpAny (model prog w) A (Builtin.SmallTypes.nextOf (.ref it)) Q E s:=by
 have hT:s.TypeIs (.ref it) "range_iterator" := ⟨_,hit,rfl⟩
 unfold Builtin.SmallTypes.nextOf
 refine wpAny_bind (wpAny_callSpecial?_slot (name:=Str.ofString "__next__") hT F.slot_range_iterator_next
  (call_meets F.slot_range_iterator_next hT F.entry_range_iterator_next (F.args_range_iterator_next_1 _) (AutoRange.range_iterator___next___range_iterator_1 it x left c (by exact zj5 hleft)) ⟨hit,?_⟩))
 exact wpAny_pure (hQ _ (Heap.get?_update_self _ (Heap.get?_update_self _ hit rfl) rfl) ((Heap.SameBut.update ..).trans (Heap.SameBut.update ..)))
theorem l9{z TI TO ri:Addr}{a_0 b0 xv:Value}{x left:Int}{n:Nat}{Q:Option Value→Shared→Prop}
  (S:St hb tabs L l ((z,eL .none TI TO)::(TO,au [a_0,b0])::(TI,au [.ref ri,.ref it])::(ri,dQ x left c)::(it,oi)::T) s.heap) (hoi:bC oi d i) (hd:(d,ae vs n)∈T) (hx:vs[i]? = some xv) (hleft:0<left)
  (h:∀ P oi' h',bC oi' d (i+1)→St hb tabs L l ((P,au [.int x s.toks,xv])::(z,eL (rawInt P) TI TO)::(TO,au [.int x s.toks,xv])::(TI,au [.ref ri,.ref it])::(ri,dQ (x+c) (left - 1) c)::(it,oi')::T) h'→Q (some (.ref P)) (wht s h' (s.toks+1))) :
  wpAny (model prog w) A (pyNext (.ref z)) Q E s:=by
 have hz:=S.obj _ m0
 have hT:s.TypeIs (.ref z) "zip" := ⟨_,hz,rfl⟩
 unfold pyNext
 refine wpAny_bind (wpAny_attempt (wpAny_callSpecial?_slot (name:=Str.ofString "__next__") hT F.slot_zip_next
  (wpAny_call_entry F.slot_zip_next hT F.entry_zip_next ?_ (F.args_zip_next_1 _))))
 show wpAny _ _ (field (.ref z) 2 >>= _) _ _ _
 refine wpAny_bind (wpAny_field hz rfl (x:=.bool false) rfl ?_)
 show wpAny _ _ (field (.ref z) 3 >>= _) _ _ _
 refine wpAny_bind (wpAny_field hz rfl (x:=.ref TI) rfl ?_)
 refine wpAny_bind (wpAny_seqItems (S.obj _ m2) rfl ?_)
 show wpAny _ _ (Builtin.SmallTypes.ownedTupleIsFree (.ref z) >>= _) _ _ _
 refine wpAny_bind ?_
 unfold Builtin.SmallTypes.ownedTupleIsFree
 refine wpAny_bind (wpAny_field hz rfl (x:=.none) rfl (wpAny_pure ?_))
 simp only[if_true]
 refine wpAny_bind (wpAny_rule ?_)
 refine wpAny_bind (wpAny_field hz rfl (x:=.ref TO) rfl ?_)
 refine wpAny_bind (wpAny_setField_rec hz (by simp) fun h_1 hz_1 hs_1=>?_)
 have S_1:=S.change (o':=eL .ellipsis TI TO) 0 rfl hs_1 hz_1
 refine wpAny_bind ?_
 show wpAny _ _ (forIn [(Value.ref ri,0),(Value.ref it,1)] _ _) _ _ _
 rw[List.forIn_cons]
 refine wpAny_bind (wpAny_bind (wpAny_onRaise ?_))
 show wpAny _ _ (Builtin.SmallTypes.nextOf (.ref ri) >>= _) _ _ _
 refine wpAny_bind (fX (c:=c) (S_1.obj _ m3) hleft fun h_2 hr_2 hs_2=>wpAny_pure ?_)
 have S_2:=S_1.change (o':=dQ (x+c) (left - 1) c) 3 rfl hs_2 hr_2
 refine wpAny_bind (wpAny_seqItems (S_2.obj _ m1) rfl ?_)
 refine wpAny_bind (wpAny_updateSeq_pair (S_2.obj _ m1) fun h_3 hT3 hs_3=>?_)
 have S_3:=S_2.change (o':=au [.int x s.toks,b0]) 1 rfl hs_3 hT3
 refine wpAny_bind (wpAny_letGo (wpAny_pure ?_))
 show wpAny _ _ (forIn [(Value.ref it,1)] _ _) _ _ _
 rw[List.forIn_cons]
 refine wpAny_bind (wpAny_bind (wpAny_onRaise ?_))
 show wpAny _ _ (Builtin.SmallTypes.nextOf (.ref it) >>= _) _ _ _
 refine wpAny_bind (wpAny_nextOf_list_item (items:=vs.toArray) ⟨oi,S_3.obj _ m4,hoi.1,hoi.2⟩ ⟨_,S_3.obj _ (.tail _ (.tail _ (.tail _ (.tail _ (.tail _ hd))))),rfl,n,rfl⟩ (by simpa using hx) fun h_4 hi4 hs4=>wpAny_pure ?_)
 obtain⟨oi',ho',hc',hd'⟩:=hi4
 have S4:=S_3.change (o':=oi') 4 rfl hs4 ho'
 refine wpAny_bind (wpAny_seqItems (S4.obj _ m1) rfl ?_)
 refine wpAny_bind (wpAny_updateSeq_pair (S4.obj _ m1) fun h_5 hT_5 hs5=>?_)
 have S5:=S4.change (o':=au [.int x s.toks,xv]) 1 rfl hs5 hT_5
 refine wpAny_bind (wpAny_letGo (wpAny_pure ?_))
 show wpAny _ _ (forIn [] _ _) _ _ _
 rw[List.forIn_nil]
 refine wpAny_pure ?_
 refine wpAny_bind (wpAny_seqItems (S5.obj _ m1) rfl ?_)
 refine wpAny_bind (wpAny_newTuple ?_)
 have S6:=S5.push (au [.int x s.toks,xv])
 show wpAny _ _ (Builtin.SmallTypes.ownedTupleHandOut (.ref z) (.ref h_5.objs.size) >>= _) _ _ _
 refine wpAny_bind ?_
 unfold Builtin.SmallTypes.ownedTupleHandOut
 refine wpAny_bind (wpAny_setField_rec (S6.obj _ m1) (by simp) fun h_7 hz7 hs7=>?_)
 have S7:=S6.change (o':=eL (rawInt h_5.objs.size) TI TO) 1 rfl hs7 hz7
 refine wpAny_setField_rec (S7.obj _ m1) (by simp) fun h_8 hz8 hs8=>?_
 have S8:=S7.change (o':=eL (rawInt h_5.objs.size) TI TO) 1 rfl hs8 hz8
 exact wpAny_pure ⟨_,rfl,wpAny_pure (h _ oi' h_8 ⟨hc',hd'⟩ S8)⟩
theorem zp_go{z TI TO P:Addr}{elts:List Expr}{k:Nat}{pos:Pos}{Q:UP}(j:Nat)(S:St hb tabs L l T s.heap)(hz:T[j]? = some (z,eL (rawInt P) TI TO))
  (h:∀ h',St hb tabs L l (T.set j (z,eL .none TI TO)) h'→Q () (wh s h')):wpAny (model prog w) A (letOwnedTupleGo (.Tuple elts k pos) (.ref z) (.ref P)) Q E s:=by
 refine wpAny_letOwnedTupleGo_zip (S.obj _ (List.mem_of_getElem? hz)) fun h' hz' hs'=>h h' (S.change j hz hs' hz')
theorem oN{z TI TO ri:Addr}{a_0 b0:Value}{x left:Int}{Q:Option Value→Shared→Prop}(hh:A.handled=none)
  (S:St hb tabs L l ((z,eL .none TI TO)::(TO,au [a_0,b0])::(TI,au [.ref ri,.ref it])::(ri,dQ x left c)::T) s.heap) (hleft:left≤0)
  (h:∀ h',St hb tabs L l T h'→Q none (wh s h')):wpAny (model prog w) A (pyNext (.ref z)) Q E s:=by
 have hz:=S.obj _ m0
 have hT:s.TypeIs (.ref z) "zip" := ⟨_,hz,rfl⟩
 unfold pyNext
 refine wpAny_bind (wpAny_attempt (wpAny_callSpecial?_slot (name:=Str.ofString "__next__") hT F.slot_zip_next
  (wpAny_call_entry F.slot_zip_next hT F.entry_zip_next ?_ (F.args_zip_next_1 _))))
 show wpAny _ _ (field (.ref z) 2 >>= _) _ _ _
 refine wpAny_bind (wpAny_field hz rfl (x:=.bool false) rfl ?_)
 show wpAny _ _ (field (.ref z) 3 >>= _) _ _ _
 refine wpAny_bind (wpAny_field hz rfl (x:=.ref TI) rfl ?_)
 refine wpAny_bind (wpAny_seqItems (S.obj _ m2) rfl ?_)
 show wpAny _ _ (Builtin.SmallTypes.ownedTupleIsFree (.ref z) >>= _) _ _ _
 refine wpAny_bind ?_
 unfold Builtin.SmallTypes.ownedTupleIsFree
 refine wpAny_bind (wpAny_field hz rfl (x:=.none) rfl (wpAny_pure ?_))
 simp only[if_true]
 refine wpAny_bind (wpAny_rule ?_)
 refine wpAny_bind (wpAny_field hz rfl (x:=.ref TO) rfl ?_)
 refine wpAny_bind (wpAny_setField_rec hz (by simp) fun h_1 hz_1 hs_1=>?_)
 have S_1:=S.change (o':=eL .ellipsis TI TO) 0 rfl hs_1 hz_1
 refine wpAny_bind ?_
 show wpAny _ _ (forIn [(Value.ref ri,0),(Value.ref it,1)] _ _) _ _ _
 rw[List.forIn_cons]
 refine wpAny_bind (wpAny_bind (wpAny_onRaise ?_))
 show wpAny _ _ (Builtin.SmallTypes.nextOf (.ref ri) >>= _) _ _ _
 refine wpAny_bind ?_
 unfold Builtin.SmallTypes.nextOf
 have hri:=S_1.obj _ m3
 have hTr:Shared.TypeIs (wh s h_1) (.ref ri) "range_iterator" := ⟨_,hri,rfl⟩
 refine wpAny_bind (wpAny_callSpecial?_slot (name:=Str.ofString "__next__") hTr F.slot_range_iterator_next
  (wpAny_call_entry F.slot_range_iterator_next hTr F.entry_range_iterator_next ?_ (F.args_range_iterator_next_1 _)))
 show wpAny _ _ (field (.ref ri) 0 >>= _) _ _ _
 refine wpAny_bind (wpAny_field hri rfl (x:=rawInt x) rfl ?_)
 show wpAny _ _ (field (.ref ri) 1 >>= _) _ _ _
 refine wpAny_bind (wpAny_field hri rfl (x:=rawInt left) rfl ?_)
 show wpAny _ _ (field (.ref ri) 2 >>= _) _ _ _
 refine wpAny_bind (wpAny_field hri rfl (x:=rawInt c) rfl ?_)
 show wpAny _ _ (if left≤0 then _ else _) _ _ _
 rw[if_pos hleft]
 refine wpAny_bind (wpAny_rule ?_)
 refine wpAny_bind ?_
 show wpAny _ _ (newExc (.type "StopIteration") [] >>= _) _ _ _
 refine wpAny_bind ?_
 simp only[newExc,newTuple]
 refine wpAny_bind (wpAny_newObj_type ?_ (by size_fits))
 refine wpAny_bind (m:=firstArgMember _ _) (wpAny_of_eq (a:=Value.none) (by first | rfl | (simp only[firstArgMember];rfl)) ?_)
 refine wpAny_newObj_type ?_ (by size_fits)
 simp only[raiseNew]
 refine wpAny_bind (wpAny_handled ?_)
 first | rw[show A.in1.handled=none from hh] | rw[show A.in1.in1.handled=none from hh] | rw[hh]
 refine wpAny_bind (wpAny_pure (wpAny_throw ?_))
 have S_2:=(S_1.push { cls:=.type "tuple", data:=.seq #[] }).push { cls:=.type "StopIteration", data:=.fields (#[Value.ref h_1.objs.size,Value.none,Value.none,Value.none,Value.bool false,Value.none]++ownMembersOf (Value.type "StopIteration") []) }
 refine wpAny_setField_rec (S_2.obj _ m2) (by simp) fun h_2 hz_2 hs_2=>?_
 have S_3:=S_2.change (o':=eL .none TI TO) 2 rfl hs_2 hz_2
 refine wpAny_bind (wpAny_isInstance (T := "StopIteration") (b:=true) ⟨_,S_3.obj _ m0,rfl⟩ isSubtype_stop ?_)
 exact wpAny_pure (h _ (S_3.sub (.cons _ (.cons _ (.cons _ (.cons _ (.cons _ (.cons _ (List.Sublist.refl _)))))))))
end
end
section
def ZkOk(X:List (Addr×Obj))(vs:List Value)(ps:List (Addr×Tok)):Prop:=∀ j p,ps[j]? = some p→(p.1,au [vs.getD j .none,.int (-(j:Int)) p.2])∈X
def cL(ps:List (Addr×Tok)):List Value:=ps.map fun p=>.ref p.1
section
variable{prog:Program}{w:World}{A:Around}{E:VP}{s:Shared}{hb:Heap}{tabs:List Addr}{env:Env}{pos:Pos}
end
end
section
open PySem.Spec
theorem bq{α β:Type}(f:α→β):∀ {vs:List β}{Es:List α},vs.Perm (Es.map f)→∃ P:List α,vs=P.map f∧P.Perm Es:=by
 intro vs Es h
 generalize hr:Es.map f=l at h
 induction h generalizing Es with
 | nil =>
  have:Es=[]:=by simpa using hr
  subst this
  exact⟨[],rfl,List.Perm.refl _⟩
 | cons x h ih =>
  match Es,hr with
  | e::r,hr =>
   have h1:=List.cons.inj hr
   obtain⟨P,hP,hp⟩:=ih h1.2
   exact⟨e::P,by rw[← h1.1,hP];rfl,hp.cons e⟩
 | swap x y l =>
  match Es,hr with
  | e::e'::r,hr =>
   have h1:f e=x∧f e'=y∧r.map f=l:=by simpa using hr
   obtain⟨a,b,c⟩:=h1
   exact⟨e'::e::r,by rw[← a,← b,← c];rfl,List.Perm.swap _ _ _⟩
 | trans h1 h2 ih1 ih2 =>
  obtain⟨P2,hP2,hp2⟩:=ih2 hr
  obtain⟨P1,hP1,hp1⟩:=ih1 hP2.symm
  exact⟨P1,hP1,hp1.trans hp2⟩
def aS(Hs:List HI):List Value:=Hs.map fun h=>.ref h.a
def HOk(T:List (Addr×Obj))(Hs:List HI):Prop:=∀ h∈Hs,(h.a,au [.ref h.e.a,.int h.ord h.ot])∈T
theorem aO(l:List HI):(aS l).length=l.length:=by simp[aS]
def lE(Hs:List HI):Prop:=∀ h∈Hs,-60≤h.ord∧h.ord≤0
def fk(rk:UInt64→Str→Nat)(Hs:List HI):Value→Int
 | .ref a=>((Hs.find? fun h=>h.a == a).map (cK rk)).getD 0
 | _=>0
theorem jl{hp:Heap}{e e':Sc}(h:hp.get? e.a=some (au [.float e.f e.ft,aj e.x]))(h':hp.get? e'.a=some (au [.float e'.f e'.ft,aj e'.x]))(ha:e.a=e'.a):e.f=e'.f∧e.x.1=e'.x.1:=by
 rw[ha,h'] at h
 have e1:=congrArg Obj.data (Option.some.inj h)
 injection e1 with e1 _
 have e2:[Value.float e'.f e'.ft,aj e'.x]=[Value.float e.f e.ft,aj e.x]:=by
  have:=congrArg Array.toList e1
  simpa using this
 injection e2 with h1 h2
 injection h2 with h2 _
 injection h1 with f1 _
 injection h2 with x1 _
 exact⟨f1.symm,x1.symm⟩
theorem fj{rk:UInt64→Str→Nat}{Hs:List HI}{Es:List Sc}{hp:Heap}(hH:∀ h∈Hs,hp.get? h.a=some (au [.ref h.e.a,.int h.ord h.ot]))(hE:∀ e∈Es,hp.get? e.a=some (au [.float e.f e.ft,aj e.x]))(hHE:∀ h∈Hs,h.e∈Es){h:HI}(hm:h∈Hs) :
  fk rk Hs (.ref h.a)=cK rk h:=by
 show ((Hs.find? fun h'=>h'.a == h.a).map (cK rk)).getD 0=cK rk h
 cases hf:Hs.find? fun h'=>h'.a == h.a with
 | none=>exact absurd (List.find?_eq_none.mp hf h hm) (by simp)
 | some h' =>
  have ha:h'.a=h.a:=by simpa using List.find?_some hf
  have hm':=List.mem_of_find?_eq_some hf
  have o1:=hH h' hm'
  rw[ha,hH h hm] at o1
  have e1:=congrArg Obj.data (Option.some.inj o1)
  injection e1 with e1 _
  have e2:[Value.ref h.e.a,.int h.ord h.ot]=[Value.ref h'.e.a,.int h'.ord h'.ot]:=by
   have:=congrArg Array.toList e1
   simpa using this
  injection e2 with h1 h2
  injection h2 with h2 _
  injection h1 with a1
  injection h2 with x1 _
  obtain⟨s1,s2⟩:=jl (hE _ (hHE _ hm')) (hE _ (hHE _ hm)) a1.symm
  show cK rk h'=cK rk h
  unfold cK rkS
  rw[s1,s2,x1]
theorem aJ.congr{K K':Nat→Int}{n t:Nat}(h:aJ K n t)(e:∀ i,i<n→K i=K' i):aJ K' n t:=by
 intro i i1 im ht
 rw[← e i im,← e (par i) (by unfold par;exact zjb im)]
 exact h i i1 im ht
def iM(rk:UInt64→Str→Nat)(Hs:List HI)(i:Nat):Int:=((Hs[i]?).map (cK rk)).getD 0
theorem cG{rk:UInt64→Str→Nat}{key:Value→Int}{Hs:List HI}(hk:∀ h∈Hs,key (.ref h.a)=cK rk h){i:Nat}(hi:i<Hs.length):cH key (aS Hs) i=iM rk Hs i:=by
 unfold cH iM aS
 have e:(Hs.map fun h=>Value.ref h.a).getD i .none=.ref Hs[i].a:=by
  rw[List.getD_eq_getElem?_getD,List.getElem?_map,List.getElem?_eq_getElem hi];rfl
 rw[e,hk _ (List.getElem_mem hi),List.getElem?_eq_getElem hi]
 rfl
theorem fP{rk:UInt64→Str→Nat}{h h':HI}(o : -60≤h.ord∧h.ord≤0)(o' : -60≤h'.ord∧h'.ord≤0)(hk:cK rk h≤cK rk h'):rkS rk h.e≤rkS rk h'.e:=by
 unfold cK at hk
 exact zjd o.1 o'.2 hk
section
variable{prog:Program}{w:World}{A:Around}{E:VP}{s:Shared}{env:Env}{pos:Pos}
theorem cA {value e:Expr}{T id:String}{Q:VP} (hl:typeLookup (.type T) "__getitem__" = pure (some (.builtin id)))
  (h:wpAny (model prog w) A (eval value env) (kGet (model prog w) A env E T e Q) E s)
  (hs:∀ o i,subscripted e false o i=operate [o,i] (getItem o i):=by intro _ _;rfl):wpAny (model prog w) A (eval (.Subscript value e pos) env) Q E s:=by
 rw[eval_Subscript]
 refine wpAny_bind (wpAny_mono h (fun o s₁ h_1=>wpAny_bind (wpAny_holding (wpAny_mono h_1 (fun i s_2 h_2=>wpAny_bind (wpAny_standAt ?_)) fun _ _ x=>x)))
  fun _ _ x=>x)
 have fin:wpAny (model prog w) A (subscripted e false o i) (fun r s3=>wpAny (model prog w) A (letTemporaryGo value o r >>= fun _=>pure r) Q E s3) E s_2:=by
  rw[hs]
  exact wpAny_operating (wpAny_mono h_2.2 (fun r s3 h_3=>wpAny_bind (wpAny_letTemporaryGo (wpAny_pure h_3))) fun _ _ x=>x)
 refine wpAny_bind ?_
 rw[getitemInPython_of_ne h_2.1.not_modules]
 refine wpAny_bind (wpAny_specialOf h_2.1 hl ?_)
 first
  | exact wpAny_pure (wpAny_bind fin)
  | exact wpAny_bind (wpAny_pure (wpAny_bind fin))
  | exact wpAny_bind fin
variable{hb:Heap}{tabs:List Addr}{L d I:Addr}{l:List (Str×Value)}{T:List (Addr×Obj)}{vs:List Value}{n:Nat}{o:Obj}{target:Expr}{body:List Stmt}
theorem bk{k:Nat}{t:Tok}{x:Value}{Q:VP}(S:St hb tabs L l T s.heap)(hm:(d,ae vs n)∈T)(hz:vs.length≤1000)(hx:vs[k]? = some x)(h:Q x s):wpAny (model prog w) A (getItem (.ref d) (.int (k:Int) t)) Q E s:=by
 have hk:k<vs.length:=(List.getElem?_eq_some_iff.mp hx).1
 exact wpAny_getItem_list (items:=vs.toArray) ⟨_,S.obj _ hm,rfl,n,rfl⟩ (by exact z13) (by lia) (by simpa using hx) h
theorem lr{k:Nat}{t:Tok}{x:Value}{Q:VP}(S:St hb tabs L l T s.heap)(hm:(d,au vs)∈T)(hz:vs.length≤1000)(hx:vs[k]? = some x)(h:Q x s):wpAny (model prog w) A (getItem (.ref d) (.int (k:Int) t)) Q E s:=by
 have hk:k<vs.length:=(List.getElem?_eq_some_iff.mp hx).1
 have ho:=S.obj _ hm
 have hT:s.TypeIs (.ref d) "tuple" := ⟨_,ho,rfl⟩
 have hseq:seqIndex? (k:Int) vs.toArray.size=some k:=by rw[seqIndex_of (by exact z13) (by rw[List.size_toArray];exact zjc hk)];rfl
 unfold getItem
 try with_reducible refine wpAny_holding ?_
 first | refine wpAny_bind (wpAny_pure ?_) | skip
 refine wpAny_bind (wpAny_sequenceKey hT (by decide) ?_)
 exact wpAny_bind (wpAny_callSpecial?_slot (name:=Str.ofString "__getitem__") hT F.slot_tuple_getitem
  (call_meets F.slot_tuple_getitem hT F.entry_tuple_getitem (F.args_tuple_getitem_2 _ _) (MeetsSeq.tuple_getitem_at d vs.toArray 0 k t k x (by lia) (by lia) hseq (by simpa using hx)) ⟨ho,wpAny_pure h⟩))
theorem bo:typeLookup (.type "tuple") "__getitem__" = pure (some (.builtin "tuple.__getitem__")):=F.slot_tuple_getitem.lookup
theorem nP{R:Result→Shared→Prop}{i₀:Nat}(hh:A.handled=none)(J:Nat→List (Str×Value)→List (Addr×Obj)→Prop)(S:St hb tabs L l ((I,o)::T) s.heap)(ho:bC o d i₀)(hi0:i₀≤vs.length)(h0:J i₀ l T)(hd:(d,ae vs n)∈T)
  (step:∀ E i v l₁ T1 o_1 s₁,i₀≤i→vs[i]? = some v→J i l₁ T1→(d,ae vs n)∈T1→St hb tabs L l₁ ((I,o_1)::T1) s₁.heap→Kp s s₁ →
   wpAny (model prog w) A (assign target env v) (fun _ s_2=>wpAny (model prog w) A (execs body env) (fun f s3=>match f with
    | .next | .cont=>Ex2 fun l₂ T₂=>An4 (St hb tabs L l₂ ((I,o_1)::T₂) s3.heap) (J (i+1) l₂ T₂) ((d,ae vs n)∈T₂) (Kp s s3)
    | .brk=>R (.ok .next) s3
    | .ret v=>R (.ok (.ret v)) s3) E s_2) E s₁)
  (hR:∀ s' l' T',Kp s s'→St hb tabs L l' T' s'.heap→J vs.length l' T'→R (.ok .next) s')
  (ht:∀ v,letOwnedTupleGo target (.ref I) v=pure ():=by intro _;rfl) :
  codeAny (model prog w) A (.forLoop target (.ref I) body [] env) R s:=by
 refine codeAny_forLoop (fun k s'=>Ex4 fun i l₁ T1 o_1=>An8 (i₀≤i) (St hb tabs L l₁ ((I,o_1)::T1) s'.heap) (bC o_1 d i) (J i l₁ T1) ((d,ae vs n)∈T1) (Kp s s') (i≤vs.length) (k=vs.length - i)) ?_ (vs.length - i₀) ⟨i₀,l,T,o,Nat.le_refl _,S,ho,h0,hd,Kp.refl,hi0,rfl⟩ ht
 rintro k s' ⟨i,l₁,T1,o_1,hi1,S_1,ho_1,hJ,hd1,hKp,hi,rfl⟩
 by_cases hlt:i<vs.length
 ·have hx:vs[i]? = some vs[i]:=List.getElem?_eq_getElem hlt
  refine fh 0 S_1 rfl ho_1 (.tail _ hd1) hx fun h_2 o_2 ho_2 S_2=>?_
  refine wpAny_mono (step _ i vs[i] l₁ T1 o_2 (wh s' h_2) hi1 hx hJ hd1 (by exact S_2) hKp.with) (fun _ s_2 z_2=>wpAny_mono z_2 (fun f s3 z3=>?_) fun _ _ e=>e) fun _ _ e=>e
  have fin:(Ex2 fun l₂ T₂=>An4 (St hb tabs L l₂ ((I,o_2)::T₂) s3.heap) (J (i+1) l₂ T₂) ((d,ae vs n)∈T₂) (Kp s s3))→∃ m,m<vs.length - i∧Ex4 fun i l₁ T1 o_1=>An8 (i₀≤i) (St hb tabs L l₁ ((I,o_1)::T1) s3.heap) (bC o_1 d i) (J i l₁ T1) ((d,ae vs n)∈T1) (Kp s s3) (i≤vs.length) (m=vs.length - i):=by
   rintro⟨l₂,T₂,S_3,hJ3,hd_3,hKp3⟩
   exact⟨vs.length - (i+1),by exact z8t hlt,i+1,l₂,T₂,o_2,by exact z78 hi1,S_3,ho_2,hJ3,hd_3,hKp3,hlt,rfl⟩
  cases f with
  | next=>exact fin z3
  | cont=>exact fin z3
  | brk=>exact z3
  | ret v=>exact z3
 ·have hin:i=vs.length:=by exact z8u hi hlt
  subst hin
  refine fi hh S_1.last ho_1 hd1 fun h_2 S_2=>wpAny_execs_nil ?_
  exact hR _ l₁ T1 hKp.with S_2 hJ
end
end
section
open PySem.Spec
section
variable{M:Model}{A:Around}{E:VP}{s:Shared}{env:Env}
theorem gd{f:Value}{keywords:List (Option Str×Sem Value)}{Q:Args→Shared→Prop}(hall:keywords.all (·.1.isSome)=true)
  (h:wpAny M A (evalAll (keywords.map (·.2))) (fun kvs s_2=>Q ⟨[],(keywords.filterMap (·.1)).zip kvs⟩ s_2) E s) :
  wpAny M A (evalArgs f true [] keywords) Q E s:=by
 unfold evalArgs
 show wpAny M A (spliced [] >>= _) Q E s
 refine wpAny_bind (wpAny_pure (wpAny_bind (wpAny_pure ?_)))
 refine wpAny_holding ?_
 rw[if_pos hall]
 refine wpAny_bind (wpAny_mono h (fun kvs s_2 h_2=>?_) fun _ _ x=>x)
 exact wpAny_bind (wpAny_pure (wpAny_pure h_2))
theorem rD{pos:Pos}{id:String}{first:List Value}{kws:List Keyword}{Q:VP}
  (h:wpAny M A (evalAll ((backToKw pos (keywordEach kws env)).map (·.2))) (fun kvs s_2=>wpAny M A (call (.builtin id) (first++[]) (((backToKw pos (keywordEach kws env)).filterMap (·.1)).zip kvs)) Q E s_2) E s)
  (hall:(backToKw pos (keywordEach kws env)).all (·.1.isSome)=true:=by rfl)
  (hkw:(backToKw pos (keywordEach kws env)).any (·.1.isNone)=false:=by rfl) :
  wpAny M A (callWith pos (.builtin id) first (backTo pos (starEach [] env)) (backToKw pos (keywordEach kws env))) Q E s :=
 callWith_builtin_kwB rfl hkw (gd hall h)
end
theorem fg (x:Addr):argsOk "list.sort" ⟨[.ref x],[(Str.ofString "reverse", .bool true)]⟩:=by unfold argsOk;kernel_rfl
theorem kc:bootBuiltins (Str.ofString "zip")=some (.type "zip"):=by kernel_rfl
theorem jn:∀ n:Fin 61,Builtin.Range.small 0 (-((n.val:Nat):Int)) (-1)=true∧Builtin.Range.rangeSize 0 (-((n.val:Nat):Int)) (-1)=((n.val:Nat):Int):=by decide +kernel
theorem hi_tups{h:Heap}:∀ {Hs:List HI},(∀ e∈Hs,h.get? e.a=some (au [.ref e.e.a,.int e.ord e.ot]))→KatTups h (aS Hs) (Hs.map fun e=>.ref e.e.a)
 | [],_=>.nil
 | e::r,hS=>.cons (hS e (.head _)) rfl rfl rfl (hi_tups fun e' he'=>hS e' (.tail _ he'))
section
variable{w:World}{A:Around}{E:VP}{s:Shared}{Es:List Sc}{rk:UInt64→Str→Nat}
theorem rm{x y:HI}{Q:BP}(hu:A.units+4<cLine)(NB:NoneBooked s.heap)(hT:gU Es)(hR:gr rk Es)(he:x.e∈Es)(he':y.e∈Es)(ha:s.heap.get? x.e.a=some (au [.float x.e.f x.e.ft,aj x.e.x]))(hb':s.heap.get? y.e.a=some (au [.float y.e.f y.e.ft,aj y.e.x]))
  (hx:s.heap.get? x.a=some (au [.ref x.e.a,.int x.ord x.ot])) (hy:s.heap.get? y.a=some (au [.ref y.e.a,.int y.ord y.ot])) (ox : -60≤x.ord∧x.ord≤0) (oy : -60≤y.ord∧y.ord≤0)
  (h:Q (decide (cK rk x<cK rk y)) s):wpAny (model pw w) A (keyLt' (tuples' false) (.ref x.a) (.ref y.a)) Q E s:=by
 refine kat_lt hx rfl hy rfl ?_
 refine kat_cons ?_
 refine lJ (by exact dn 4 hu) NB hT hR he he' ha hb' ?_
 unfold cK at h
 refine kat_go (fun q=>?_) (fun q=>?_)
 ·have hq:=of_decide_eq_true q
  refine kat_yes (kat_cons (wpAny_eqBool_int (kat_go (fun q2=>?_) (fun q2=>?_))))
  ·have e1:x.ord=y.ord:=eq_of_beq q2
   rw[show decide ((rkS rk x.e:Int) * 1000+x.ord<(rkS rk y.e:Int) * 1000+y.ord)=false from decide_eq_false (by exact z27 q q2)] at h
   exact kat_yes (kat_nil h)
  ·refine kat_no (kat_one _ _ (P.lt_int ?_))
   rw[show decide ((rkS rk x.e:Int) * 1000+x.ord<(rkS rk y.e:Int) * 1000+y.ord)=decide (x.ord<y.ord) from decide_eq_decide.mpr (by lia)] at h
   exact h
 ·have hq:=of_decide_eq_false q
  refine kat_no (kat_one _ _ (mB (by exact dn 4 hu) NB hT hR he he' ha hb' ?_))
  rw[show decide ((rkS rk x.e:Int) * 1000+x.ord<(rkS rk y.e:Int) * 1000+y.ord)=decide (rkS rk x.e<rkS rk y.e) from decide_eq_decide.mpr (by lia)] at h
  exact h
end
section
variable{w:World}{A:Around}{E:VP}{s:Shared}{hb:Heap}{L L' res:Addr}{T:List (Addr×Obj)}{l:List (Str×Value)}{Es:List Sc}{nr n:Nat}{tn ts:Tok}{rk:UInt64→Str→Nat}{oL ob:Obj}
theorem jV{a:Addr}{Hs:List HI}{T':List (Addr×Obj)}{l':List (Str×Value)}{key:Value→Int}(G:Gd (KN w.params) tabs hb)(hu:A.units+10<cLine)(hS:SOk T' Es)(hT:gU Es)(hR:gr rk Es)(hHE:∀ h∈Hs,h.e∈Es)(hH:HOk T' Hs)(hO:lE Hs)
  (hk:∀ h∈Hs,key (.ref h.a)=cK rk h):dk pw w A hb tabs L' a l' T' (aS Hs) key s:=by
 intro s' c' vs' K' S' x hx y hy E Q hq
 obtain⟨h_1,m1,rfl⟩:=List.mem_map.mp hx
 obtain⟨h_2,m2,rfl⟩:=List.mem_map.mp hy
 have o1:=hO _ m1
 have o2:=hO _ m2
 rw[hk _ m1,hk _ m2] at hq
 exact hi_lt (by show A.units+1+2<cLine;exact dn 7 hu) (S'.nb G) hT hR (hHE _ m1) (hHE _ m2) (S'.obj _ (.tail _ (hS _ (hHE _ m1)))) (S'.obj _ (.tail _ (hS _ (hHE _ m2)))) (S'.obj _ (.tail _ (hH _ m1))) (S'.obj _ (.tail _ (hH _ m2))) (by exact z26 o1.1 o1.2) (by exact z26 o2.1 o2.2) hq
abbrev nlB:List Stmt:=match ((ao (st1 pw 8))[2]?).getD default with | Stmt.If _ b _ _=>b | _=>[]
structure dl(rk:UInt64→Str→Nat)(Es:List Sc)(n i:Nat)(Hs:List HI)(outs:List Sc)(ord:Int):Prop where
 len:Hs.length=n
 sub:∀ h∈Hs,h.e∈Es
 ords:lE Hs
 perm:(Hs.map (·.e)++outs).Perm (Es.take i)
 heap:aJ (iM rk Hs) n 0
 below:∀ o∈outs,∀ h∈Hs,rkS rk o≤rkS rk h.e
 o0:ord≤0
 o1 : -(i:Int)≤ord
theorem dl.least{n i:Nat}{Hs:List HI}{outs:List Sc}{ord:Int}{h_0:HI}{r:List HI}(J:dl rk Es n i (h_0::r) outs ord):∀ h∈h_0::r,rkS rk h_0.e≤rkS rk h.e:=by
 intro h hm
 obtain⟨j,hj,e⟩:=List.mem_iff_getElem.mp hm
 have hl:=J.len
 have:=ln J.heap j (by exact z2a hj hl)
 unfold iM at this
 rw[List.getElem?_eq_getElem hj,e] at this
 exact fP (J.ords _ (.head _)) (J.ords _ hm) (by simpa using this)
theorem dl.skip{n i:Nat}{h_0:HI}{r:List HI}{outs:List Sc}{ord:Int}{e:Sc}(J:dl rk Es n i (h_0::r) outs ord)(he:Es[i]? = some e)(hle:rkS rk e≤rkS rk h_0.e):dl rk Es n (i+1) (h_0::r) (e::outs) ord where
 len:=J.len
 sub:=J.sub
 ords:=J.ords
 perm:=by
  rw[List.take_add_one,he]
  exact List.perm_middle.trans ((List.Perm.cons e J.perm).trans (List.perm_append_comm (l₁:=[e])))
 heap:=J.heap
 below:=fun o ho h hm=>by
  rcases List.mem_cons.mp ho with rfl | ho
  ·exact Nat.le_trans hle (J.least (Hs:=[]) h hm)
  ·exact J.below o ho h hm
 o0:=J.o0
 o1:=by have:=J.o1;exact z2b this
theorem dl.swap{n i:Nat}{h_0:HI}{r Hs':List HI}{outs:List Sc}{ord:Int}{e:Sc}{new:HI}(J:dl rk Es n i (h_0::r) outs ord)(he:Es[i]? = some e)(hlt:rkS rk h_0.e<rkS rk e)(hi:i<60)(hne:new.e=e)(hno:new.ord=ord)
  (hp:Hs'.Perm (new::r)) (hH:aJ (iM rk Hs') n 0):dl rk Es n (i+1) Hs' (h_0.e::outs) (ord - 1):=by
 have h0:=J.o0
 have h1:=J.o1
 refine⟨by rw[hp.length_eq];exact J.len,fun h hm=>?_,fun h hm=>?_,?_,hH,fun o ho h hm=>?_,by exact z2c h0,by exact z2d h1⟩
 ·rcases List.mem_cons.mp (hp.mem_iff.mp hm) with rfl | q
  ·rw[hne];exact List.mem_of_getElem? he
  ·exact J.sub h (.tail _ q)
 ·rcases List.mem_cons.mp (hp.mem_iff.mp hm) with rfl | q
  ·rw[hno];exact z2e hi h0 h1
  ·exact J.ords h (.tail _ q)
 ·rw[List.take_add_one,he]
  have e1:(Hs'.map (·.e)).Perm (e::r.map (·.e)):=by
   have:=hp.map (·.e)
   rw[List.map_cons,hne] at this
   exact this
  refine (e1.append_right _).trans ?_
  refine List.Perm.trans ?_ (List.perm_append_comm (l₁:=[e]))
  refine List.Perm.cons e ?_
  refine List.Perm.trans List.perm_middle ?_
  exact J.perm
 ·have hl:rkS rk h_0.e≤rkS rk h.e:=by
   rcases List.mem_cons.mp (hp.mem_iff.mp hm) with rfl | q
   ·rw[hne];exact z2f hlt
   ·exact J.least (Hs:=[]) h (.tail _ q)
  rcases List.mem_cons.mp ho with rfl | ho
  ·exact hl
  ·exact Nat.le_trans (J.below o ho h_0 (.head _)) hl
end
end
section
section
variable{hb h:Heap}{tabs:List Addr}{L C:Addr}{l l':List (Str×Value)}{T:List (Addr×Obj)}
theorem St.turn{oL:Obj}(S:St hb tabs C l' ((L,oL)::T) h)(r:cJ oL l):∃ oC,cJ oC l'∧St hb tabs L l ((C,oC)::T) h:=by
 obtain⟨oC,e,rC⟩:=S.fm
 have nd:=List.nodup_cons.mp S.nd
 have nd2:=List.nodup_cons.mp nd.2
 refine⟨oC,rC,⟨oL,S.obj _ (.head _),r⟩,S.new _ (.head _),S.keep,S.tab,fun p hp=>?_,fun p hp=>?_,?_⟩
 ·rcases List.mem_cons.mp hp with rfl | hp
  ·exact e
  ·exact S.obj _ (.tail _ hp)
 ·rcases List.mem_cons.mp hp with rfl | hp
  ·exact S.lnew
  ·exact S.new _ (.tail _ hp)
 ·exact (List.Perm.swap _ _ _).nodup_iff.mp S.nd
end
section
variable{prog:Program}{w:World}{A:Around}{E:VP}{s:Shared}{hb:Heap}{tabs:List Addr}{env:Env}{pos spos py:Pos}{y:Str}{l l':List (Str×Value)}{T:List (Addr×Obj)}
theorem ec{C:Addr}{oL:Obj}{lC:List (Str×Value)}{D:Addr}{Q:Shared→Prop}(S:St hb tabs C lC ((env.locals,oL)::T) s.heap)(r:cJ oL l)(hst:cg l y (.ref D) l')
  (h:∀ h' tk,St hb tabs env.locals l' T h'→Q (wht s h' tk)) (hk:env.scope.kind=.function) (hl:env.kindOf y=some .local) :
  wpAny (model prog w) A (assign (.Name y py) env (.ref D)) (fun _ s''=>∃ m,s''.heap.Ns C m∧∀ h',Heap.SameBut C s''.heap h'→Q (wh s'' h')) E s:=by
 obtain⟨oC,rC,S_1⟩:=S.turn r
 refine wpAny_assign_Name (aG S_1 hst (fun h_2 S_2=>?_) hk hl)
 have fC:Fm h_2 C lC:=⟨oC,S_2.obj _ (.head _),rC⟩
 obtain⟨m,hm,_,_⟩:=fC.ns
 refine⟨m,hm,fun h' hs'=>h h' _ ?_⟩
 have nd:=List.nodup_cons.mp S_2.nd
 have nd2:=List.nodup_cons.mp nd.2
 refine (S_2.sub (List.sublist_cons_self _ _)).off (wr:=[C]) (fun b hb'=>?_) (fun b ob hb' e=>hs'.extBut b ob (fun q=>hb' (by rw[q];exact .head _)) e)
 rw[List.mem_singleton] at hb';subst hb'
 refine⟨S_2.new _ (.head _),fun q=>?_⟩
 rcases List.mem_cons.mp q with q | q
 ·exact nd.1 (by rw[← q];exact .head _)
 ·exact nd2.1 q
end
section
variable{prog:Program}{w:World}{A:Around}{E:VP}{s:Shared}{R:Result→Shared→Prop}{hb:Heap}{tabs:List Addr}{env:Env}{pos spos py:Pos}{y:Str}
theorem jF{l':Addr→List (Str×Value)}{elt target iter:Expr}{scope:Scope}{rest:List Stmt}{Q:FP}(hh:A.handled=none)
  (h:wpAny (model prog w) A (eval iter env) (fun xv s₁=>Ex13 fun l T z TI TO ri it oi d vs nn a_0 b0=>∃ n:Nat,An8 (xv=.ref z) (St hb tabs env.locals l ((z,eL .none TI TO)::(TO,au [a_0,b0])::(TI,au [.ref ri,.ref it])::(ri,dQ 0 (n:Int) (-1))::(it,oi)::T) s₁.heap) ((∀ D,cg l y (.ref D) (l' D))) (bC oi d 0) ((d,ae vs nn)∈T) (n≤vs.length) (vs.length≤1000) ((∀ s' D c X oi' ps,Kp s₁ s'→St hb tabs env.locals (l' D) ((D,ae (cL ps) c)::(it,oi')::(X++T)) s'.heap→ps.length=n→ZkOk X vs ps→bC oi' d n→wpAny (model prog w) A (execs rest env) Q E s'))) E s)
  (turn:∀ (C:Addr) Tt (s_2:Shared) P (i:Nat) v tk (E':VP),St hb tabs C [] Tt s_2.heap→(P,au [.int (-(i:Int)) tk,v])∈Tt →
   wpAny (model prog w) A (assign target (compEnv scope C env) (.ref P)) (fun _ s3=>wpAny (model prog w) A (eval elt (compEnv scope C env)) (fun y s4=>Ex2 fun a l'=>An3 (y=.ref a) (Kp s_2 s4) (St hb tabs C l' ((a,au [v,.int (-(i:Int)) tk])::Tt) s4.heap)) E' s3) E' s_2)
  (hyk:env.scope.kind=.function) (hyl:env.kindOf y=some .local)
  (htgt:Ex3 fun es k p=>target=.Tuple es k p)
  (hfree:∀ x∈scope.names,x.2≠.free) (hcell:∀ y∈scope.names,y.2≠.cell) (hkind:scope.kind=.function) (hnames:∀ x∈scope.names,x.2=.local→scope.names.lookup x.1=some .local)
  (hsw:swapsWith (.ListComp elt [⟨target,iter,[],0⟩] scope pos) (some (.Name y py)) spos.line env=pure true:=by rfl) (hs:∀ x,foldedSetIterable iter env x=pure x:=by intro _;rfl) :
  wpAny (model prog w) A (execs (.Assign [.Name y py] (.ListComp elt [⟨target,iter,[],0⟩] scope pos) spos::rest) env) Q E s:=by
 refine wpAny_execs_cons ?_
 rw[exec_Assign_Name_used _ _ _ _ hsw]
 refine wpAny_bind (wpAny_standAt (wpAny_bind ?_))
 show wpAny _ A (do let _ ← comprehension (.ListComp elt [⟨target,iter,[],0⟩] scope pos) scope env _ (newList []) false (eval iter env) (some (assign (.Name y py) env))) _ _ s
 refine wpAny_bind (wpAny_mono (wpAny_comprehension_use (Q:=fun _ s'=>wpAny (model prog w) A (execs rest env) Q E s') rfl hs hfree hkind hnames (wpAny_mono h (fun xv s₁ z=>?_) fun _ _ e=>e))
  (fun _ s' hq=>wpAny_pure (wpAny_pure hq)) fun _ _ e=>e)
 obtain⟨l,T,z,TI,TO,ri,it,oi,d,vs,nn,a_0,b0,n,rfl,S,hst,hoi,hm,hn,hlen,fin⟩:=z
 refine wpAny_pyIter_zip (S.obj _ m0) ?_
 refine wpAny_newObj_type (hd:=by size_fits) ?_
 have S_3:=S.push (ae [] 0)
 refine wpAny_newFunctionEnv hcell (by intro y hy;simp at hy) (fun h_3 hn_3 hs_3=>?_) hkind
 generalize hD:s₁.heap.objs.size=D at S_3
 generalize hC:(s₁.heap.push (ae [] 0)).objs.size=C
 generalize hL:env.locals=L at S_3
 obtain⟨oL,r,S4⟩:=S_3.enter (L':=C) (l':=[]) (h':=h_3) hC.symm (Fm.of_ns (by rw[← hC];exact hn_3) (fun p hp=>by cases hp) List.nodup_nil) (fun b o e=>hs_3.extBut b o (Nat.ne_of_lt (Heap.lt_size e)) (Heap.get?_push_of_some _ e))
 have S5:St hb tabs C [] ((z,eL .none TI TO)::(TO,au [a_0,b0])::(TI,au [.ref ri,.ref it])::(ri,dQ (-((0:Nat):Int)) ((n:Int) - ((0:Nat):Int)) (-1))::(it,oi)::(D,ae (cL []) 0)::(L,oL)::([]++T)) h_3:=by
  have e:dQ (-((0:Nat):Int)) ((n:Int) - ((0:Nat):Int)) (-1)=dQ 0 (n:Int) (-1):=by simp
  rw[e]
  exact S4.perm (by
   exact ((List.perm_append_comm (l₁:=[(L,oL),(D,ae [] 0)]) (l₂:=[(z,eL .none TI TO),(TO,au [a_0,b0]),(TI,au [.ref ri,.ref it]),(ri,dQ 0 (n:Int) (-1)),(it,oi)])).append_right T).trans
    ((List.Perm.append_left [(z,eL .none TI TO),(TO,au [a_0,b0]),(TI,au [.ref ri,.ref it]),(ri,dQ 0 (n:Int) (-1)),(it,oi)] (List.Perm.swap _ _ _)).append_right T))
 have loop:∀ s_2:Shared,s_2=(wht s₁ h_3 (s₁.toks+([]:List (Str×Value)).length)) →
   codeAny (model prog w) A (.compLoop (.ListComp elt [⟨target,iter,[],0⟩] scope pos) 0 (.ref z) (.ref D) (compEnv scope C env))
    (fun r s'=>match r with
     | .ok _=>wpAny (model prog w) A (assign (.Name y py) env (.ref D)) (fun _ s''=>∃ m,s''.heap.Ns C m∧∀ h',Heap.SameBut C s''.heap h'→wpAny (model prog w) A (execs rest env) Q E (wh s'' h')) E s'
     | .error x=>∃ m,s'.heap.Ns C m∧∀ h',Heap.SameBut C s'.heap h'→wpAny (model prog w) A (passOn "comprehension.variables-let-go" x (compEnv scope C env)) (fun (_:Value) s'=>wpAny (model prog w) A (execs rest env) Q E s') E (wh s' h')) s_2:=by
  rintro s_2 rfl
  refine dv (fun k s'=>Ex8 fun i ps c X a b oi' l'=>An7 (St hb tabs C l' ((z,eL .none TI TO)::(TO,au [a,b])::(TI,au [.ref ri,.ref it])::(ri,dQ (-((i:Nat):Int)) ((n:Int) - ((i:Nat):Int)) (-1))::(it,oi')::(D,ae (cL ps) c)::(L,oL)::(X++T)) s'.heap) (ZkOk X vs ps) (ps.length=i) (bC oi' d i) (Kp s₁ s') (i≤n) (k=n - i)) ?_ n
   ⟨0,[],0,[],a_0,b0,oi,[],S5,(fun j p e=>by simp at e),rfl,hoi,⟨rfl,id⟩,Nat.zero_le _,rfl⟩
  rintro k s' ⟨i,ps,c,X,a,b,oi',l',S',hZ,hps,hoi',hKp,hi,rfl⟩
  have hd':(d,ae vs nn)∈(D,ae (cL ps) c)::(L,oL)::(X++T):=.tail _ (.tail _ (List.mem_append_right _ hm))
  by_cases hlt:i<n
  ·have hx:vs[i]? = some (vs.getD i .none):=by
    have:i<vs.length:=by exact zgf hn hlt
    simp[this]
   refine l9 S' hoi' hd' hx (by exact zj6 hlt) fun P oi2 h_4 ho_2 S6=>?_
   obtain⟨es,kk,pp,rfl⟩:=htgt
   refine zp_go 1 S6 rfl fun h_5 S7=>?_
   refine wpAny_mono (turn C _ _ P i (vs.getD i .none) s'.toks _ ((by exact S7.forget (List.nil_sublist _)):St hb tabs C [] _ (Shared.heap (wht s' h_5 (s'.toks+1)))) (.head _)) (fun _ s6 z6=>wpAny_mono z6 (fun y s7 z7=>?_) fun _ _ e=>e) fun _ _ e=>e
   obtain⟨ad,l'',rfl,K8,S8⟩:=z7
   refine aW 7 S8 rfl ?_ (by simp[cL];exact zj7 hn hlen hps hlt)
   intro h_9 S9
   have e1:(-((i:Nat):Int))+(-1) = -(((i+1:Nat)):Int):=by exact zj8
   have e2:((n:Int) - ((i:Nat):Int)) - 1=(n:Int) - ((i+1:Nat):Int):=by exact zbm
   have e3:cL ps++[Value.ref ad]=cL (ps++[(ad,s'.toks)]):=by simp[cL]
   rw[e1,e2] at S9
   refine⟨n - (i+1),by exact z8t hlt,i+1,ps++[(ad,s'.toks)],c+1,(ad,au [vs.getD i .none,.int (-(i:Int)) s'.toks])::(P,au [.int (-(i:Int)) s'.toks,vs.getD i .none])::X,.int (-(i:Int)) s'.toks,vs.getD i .none,oi2,l'',S9.perm ?_,?_,by simp[hps],ho_2,⟨K8.os.trans hKp.os,fun z=>K8.gens (hKp.gens z)⟩,hlt,rfl⟩
   ·rw[← e3]
    exact ((List.perm_append_comm (l₁:=[_,_]) (l₂:=[_,_,_,_,_,_,_])).append_right (X++T))
   ·intro j p hj
    rcases Nat.lt_or_ge j ps.length with q | q
    ·rw[List.getElem?_append_left q] at hj
     exact .tail _ (.tail _ (hZ j p hj))
    ·rw[List.getElem?_append_right q] at hj
     have:j=ps.length:=by
      have:=(List.getElem?_eq_some_iff.mp hj).1
      simp at this;exact zj9 q this
     subst this
     simp at hj
     subst hj
     rw[hps]
     exact .head _
  ·have hin:i=n:=by exact z8u hi hlt
   subst hin
   refine oN hh (T:=(it,oi')::(D,ae (cL ps) c)::(L,oL)::(X++T)) S' (by exact zja) fun h_4 S6=>?_
   have S7:=S6.perm (T':=(L,oL)::(D,ae (cL ps) c)::(it,oi')::(X++T)) (by
    exact (List.perm_append_comm (l₁:=[(it,oi'),(D,ae (cL ps) c)]) (l₂:=[(L,oL)])).append_right (X++T) |>.trans (List.Perm.cons _ (List.Perm.swap _ _ _)))
   subst hL
   exact ec (s:=(wh s' h_4)) (by exact S7) r (hst D) (fun h' tk S8=>fin _ D c X oi' ps ⟨hKp.os,hKp.gens⟩ (by exact S8) hps hZ hoi') hyk hyl
 subst hC
 subst hD
 have hz_3:IsZip h_3 z TI TO .none:=S5.obj _ m0
 exact codeAny_compStart_list (loop _ rfl) (wpAny_pyIter_zip hz_3 (loop _ rfl))
theorem eB{l':Addr→List (Str×Value)}{elt target iter:Expr}{scope:Scope}{rest:List Stmt}{Q:FP}(hh:A.handled=none)
  (h:wpAny (model prog w) A (eval iter env) (fun xv s₁=>Ex5 fun l T d vs n=>∃ J:Nat→List Value→List (Addr×Obj)→Prop,An8 (xv=.ref d) (St hb tabs env.locals l T s₁.heap) ((∀ D,cg l y (.ref D) (l' D))) ((d,ae vs n)∈T) (vs.length≤1000) (J 0 [] []) ((∀ C D oL E' i v acc c X own s_2,vs[i]? = some v→acc.length=i→J i acc X→cJ oL l→Kp s₁ s_2→St hb tabs C [] ((D,ae acc c)::(X++((env.locals,oL)::T))++own) s_2.heap →
    wpAny (model prog w) A (assign target (compEnv scope C env) v) (fun _ s3=>wpAny (model prog w) A (eval elt (compEnv scope C env)) (fun y s4=>Ex2 fun X' l''=>An3 (Kp s₁ s4) (St hb tabs C l'' ((D,ae acc c)::(X'++((env.locals,oL)::T))++own) s4.heap) (J (i+1) (acc++[y]) X')) E' s3) E' s_2)) ((∀ s' D acc c X,Kp s₁ s'→St hb tabs env.locals (l' D) ((D,ae acc c)::(X++T)) s'.heap→acc.length=vs.length→J vs.length acc X→wpAny (model prog w) A (execs rest env) Q E s'))) E s)
  (hyk:env.scope.kind=.function) (hyl:env.kindOf y=some .local)
  (htgt:(Ex2 fun y p=>target=.Name y p)∨Ex3 fun es k p=>target=.Tuple es k p)
  (hfree:∀ x∈scope.names,x.2≠.free) (hcell:∀ y∈scope.names,y.2≠.cell) (hkind:scope.kind=.function) (hnames:∀ x∈scope.names,x.2=.local→scope.names.lookup x.1=some .local)
  (hsw:swapsWith (.ListComp elt [⟨target,iter,[],0⟩] scope pos) (some (.Name y py)) spos.line env=pure true:=by rfl) (hs:∀ x,foldedSetIterable iter env x=pure x:=by intro _;rfl) :
  wpAny (model prog w) A (execs (.Assign [.Name y py] (.ListComp elt [⟨target,iter,[],0⟩] scope pos) spos::rest) env) Q E s:=by
 refine wpAny_execs_cons ?_
 rw[exec_Assign_Name_used _ _ _ _ hsw]
 refine wpAny_bind (wpAny_standAt (wpAny_bind ?_))
 show wpAny _ A (do let _ ← comprehension (.ListComp elt [⟨target,iter,[],0⟩] scope pos) scope env _ (newList []) false (eval iter env) (some (assign (.Name y py) env))) _ _ s
 refine wpAny_bind (wpAny_mono (wpAny_comprehension_use (Q:=fun _ s'=>wpAny (model prog w) A (execs rest env) Q E s') rfl hs hfree hkind hnames (wpAny_mono h (fun xv s₁ z=>?_) fun _ _ e=>e))
  (fun _ s' hq=>wpAny_pure (wpAny_pure hq)) fun _ _ e=>e)
 obtain⟨l,T,d,vs,n,J,rfl,S,hst,hm,hlen,hJ0,step,fin⟩:=z
 refine dI S hm fun I o Wt fp h_2 IV hown hw S_2=>?_
 refine wpAny_newObj_type (hd:=by size_fits) ?_
 have S_3:=S_2.push (ae [] 0)
 refine wpAny_newFunctionEnv hcell (by intro y hy;simp at hy) (fun h_3 hn_3 hs_3=>?_) hkind
 generalize hD:h_2.objs.size=D at S_3
 generalize hC:(h_2.push (ae [] 0)).objs.size=C
 generalize hL:env.locals=L at S_3 step
 obtain⟨oL,r,S4⟩:=S_3.enter (L':=C) (l':=[]) (h':=h_3) hC.symm (Fm.of_ns (by rw[← hC];exact hn_3) (fun p hp=>by cases hp) List.nodup_nil) (fun b o e=>hs_3.extBut b o (Nat.ne_of_lt (Heap.lt_size e)) (Heap.get?_push_of_some _ e))
 have W:=IV.walks A hh
 have how0:([(I,o)]:List (Addr×Obj)).map (·.1)=[I]:=rfl
 have hw3:Wt 0 h_3:=W.frame _ _ _ hw fun b hb' ob e=>hs_3.extBut b ob (Nat.ne_of_lt (Heap.lt_size (Heap.get?_push_of_some _ e))) (Heap.get?_push_of_some _ (Heap.get?_push_of_some _ e))
 have S5:St hb tabs C [] ((D,ae [] 0)::([]++((L,oL)::T))++[(I,o)]) h_3:=S4.perm (by
  rw[List.nil_append]
  exact ((List.perm_append_comm (l₁:=[(L,oL)]) (l₂:=[(D,ae [] 0)])).append_right (T++[(I,o)])))
 have loop:∀ s_2:Shared,s_2=(wht s₁ h_3 (s₁.toks+([]:List (Str×Value)).length)) →
   codeAny (model prog w) A (.compLoop (.ListComp elt [⟨target,iter,[],0⟩] scope pos) 0 (.ref I) (.ref D) (compEnv scope C env))
    (fun r s'=>match r with
     | .ok _=>wpAny (model prog w) A (assign (.Name y py) env (.ref D)) (fun _ s''=>∃ m,s''.heap.Ns C m∧∀ h',Heap.SameBut C s''.heap h'→wpAny (model prog w) A (execs rest env) Q E (wh s'' h')) E s'
     | .error x=>∃ m,s'.heap.Ns C m∧∀ h',Heap.SameBut C s'.heap h'→wpAny (model prog w) A (passOn "comprehension.variables-let-go" x (compEnv scope C env)) (fun (_:Value) s'=>wpAny (model prog w) A (execs rest env) Q E s') E (wh s' h')) s_2:=by
  rintro s_2 rfl
  refine gk (s₁:=s₁) (T:=T) hh IV hown hm hlen hJ0 r hw3 S5 ⟨rfl,id⟩ (step C D oL) htgt ?_
  intro s' acc c X lc hKp S7 hacc hJ
  subst hL
  exact ec (s:=s') (by exact S7) r (hst D) (fun h' tk S8=>fin _ D acc c X ⟨hKp.os,hKp.gens⟩ (by exact S8) hacc hJ) hyk hyl
 subst hC
 subst hD
 exact codeAny_compStart_list (loop _ rfl) (W.self 0 _ _ _ hw3 (loop _ rfl))
end
end
section
open PySem.Spec
def mkH:List (Addr×Tok)→List Sc→Nat→List HI
 | p::ps,e::es,j=>⟨p.1,e,-(j:Int),p.2⟩::mkH ps es (j+1)
 | _,_,_=>[]
theorem g9:∀ (ps:List (Addr×Tok)) (es:List Sc) (j:Nat),ps.length≤es.length→aS (mkH ps es j)=cL ps
 | [],_,_,_=>by unfold mkH;rfl
 | p::ps,[],_,h=>by simp at h
 | p::ps,e::es,j,h=>by
  have:=g9 ps es (j+1) (by simpa using h)
  show Value.ref p.1::aS (mkH ps es (j+1))=.ref p.1::cL ps
  rw[this]
theorem lT:∀ (ps:List (Addr×Tok)) (es:List Sc) (j:Nat),ps.length≤es.length→(mkH ps es j).map (·.e)=es.take ps.length
 | [],_,_,_=>by unfold mkH;rfl
 | p::ps,[],_,h=>by simp at h
 | p::ps,e::es,j,h=>by
  have:=lT ps es (j+1) (by simpa using h)
  show e::(mkH ps es (j+1)).map (·.e)=e::es.take ps.length
  rw[this]
theorem jP:∀ (ps:List (Addr×Tok)) (es:List Sc) (j:Nat),∀ h∈mkH ps es j,-((j:Int)+ps.length)≤h.ord∧h.ord≤0
 | [],_,_,h,hm=>by unfold mkH at hm;cases hm
 | p::ps,[],_,h,hm=>by unfold mkH at hm;cases hm
 | p::ps,e::es,j,h,hm=>by
  rcases List.mem_cons.mp hm with rfl | hm
  ·constructor
   ·show -((j:Int)+(p::ps).length)≤-(j:Int)
    simp only[List.length_cons];exact z2g
   ·show -(j:Int)≤0
    exact z2h
  ·have:=jP ps es (j+1) h hm
   simp only[List.length_cons]
   exact z2j this.1 this.2
theorem lS{X:List (Addr×Obj)}:∀ (ps:List (Addr×Tok)) (es:List Sc) (j:Nat),(∀ k p,ps[k]? = some p→(p.1,au [(ay es).getD k .none,.int (-(((j+k:Nat)):Int)) p.2])∈X)→HOk X (mkH ps es j)
 | [],_,_,_=>fun h hm=>by unfold mkH at hm;cases hm
 | p::ps,[],_,_=>fun h hm=>by unfold mkH at hm;cases hm
 | p::ps,e::es,j,hX=>fun h hm=>by
  rcases List.mem_cons.mp hm with rfl | hm
  ·exact hX 0 p rfl
  ·refine lS ps es (j+1) (fun k q hq=>?_) h hm
   have:=hX (k+1) q (by simpa using hq)
   have e1:j+(k+1)=j+1+k:=by exact z2i
   rw[e1] at this
   exact this
section
variable{w:World}{A:Around}{E:VP}{s:Shared}{hb:Heap}{L L' res:Addr}{T:List (Addr×Obj)}{l:List (Str×Value)}{Es:List Sc}{nr n:Nat}{tn ts:Tok}{rk:UInt64→Str→Nat}{oL ob:Obj}
abbrev nmH (L' res I D:Addr) (n sz:Nat) (tn ts:Tok):List (Str×Value):=[(Str.ofString "result", .ref D),(Str.ofString "it", .ref I),(Str.ofString "size", .int sz ts),(Str.ofString "n", .int n tn),(Str.ofString "iterable", .ref res)]
theorem kS(G:Gd (KN w.params) tabs hb)(hd:A.depth+10<recursionLimit)(hu:A.units+100<cLine)(hh:A.handled=none)(hm:(res,ae (ay Es) nr)∈T)(hS:SOk T Es)(hT:gU Es)(hl:Es.length≤60)(hR:gr rk Es)
  (hn0:0<n) (hn:n<Es.length) (hob:ob.data=.cell (some .none)) {Q:FP}
  (S:St hb tabs L' [(Str.ofString "size", .int Es.length ts),(Str.ofString "n", .int n tn),(Str.ofString "iterable", .ref res)] ((L'+1,ob)::(L,oL)::T) s.heap)
  (k:∀ (s':Shared) (X:List (Addr×Obj)) (I D:Addr) (oi:Obj) (c:Nat) (Hs:List HI) {Q':FP},(∀ f s',(match f with | .next=>False | f=>Q f s')→Q' f s')→Kp s s'→bC oi res n→HOk X Hs→dl rk Es n n Hs [] (-(n:Int)) →
   St hb tabs L' (nmH L' res I D n Es.length tn ts) ((D,ae (aS Hs) c)::(I,oi)::(X++((L'+1,ob)::(L,oL)::T))) s'.heap →
   wpAny (model pw w) (A.deeper (bX w L')) (execs (nlB.drop 4) (bX w L')) Q' E s') :
  wpAny (model pw w) (A.deeper (bX w L')) (execs ((ao (st1 pw 8)).drop 2) (bX w L')) Q E s:=by
 refine cP ?_
 refine wpAny_isTrue_Compare1 ?_
 refine j7 S (.head _) hob ?_
 refine wpAny_Constant_none ?_
 refine is_none ?_
 refine wpAny_truthy_bool ⟨fun _=>?_,nofun⟩
 refine ak ?_
 refine ap ?_
 refine br G S eK ?_
 refine ag ?_
 refine args_cons ?_
 refine aw (env:=callEnvC (aE w.params) L' 280) S m2 ?_
 refine args_nil ?_
 refine jx S (.tail _ (.tail _ hm)) ?_
 intro I h_1 S_1
 refine aG (env:=callEnvC (aE w.params) L' 280) (by exact S_1) (.new (by kernel_rfl)) ?_
 intro h_2 S_2
 have hrf:=jn ⟨n,by exact z2k hl hn⟩
 refine jF (l':=fun D=>nmH L' res I D n Es.length tn ts) (hb:=hb) (tabs:=tabs) hh ?_ ?turn rfl rfl ⟨_,_,_,rfl⟩ (by decide) (by decide) rfl (by decide)
 case turn =>
  intro C Tt s3 P i v tk E' S_3 hP
  refine bG hh S_3 hP ?_
  intro h_4 S4
  refine aA ?_
  refine aG (env:=compEnv _ C _) (by exact S4) (.new (by kernel_rfl)) ?_
  intro h_5 S5
  refine aA ?_
  refine aG (env:=compEnv _ C _) (by exact S5) (.new (by kernel_rfl)) ?_
  intro h_6 S6
  refine bx ?_
  refine aX ?_
  refine args_cons ?_
  refine aw (env:=compEnv _ C _) (by exact S6) m0 ?_
  refine args_cons ?_
  refine aw (env:=compEnv _ C _) (by exact S6) m1 ?_
  refine args_nil ?_
  refine⟨rfl,_,_,_,_,_,S6,?_⟩
  intro a h_7 S7
  exact⟨a,_,rfl,⟨rfl,id⟩,S7⟩
 refine ap ?_
 refine br G S_2 kc ?_
 refine bb ?_
 refine args_cons ?_
 refine ap ?_
 refine br G S_2 di ?_
 refine bb ?_
 refine args_cons ?_
 refine wpAny_Constant_int ?_
 refine args_cons ?_
 refine UnaryOp_ ?_
 refine aw (env:=callEnvC (aE w.params) L' 280) (by exact S_2) m2 ?_
 refine P.neg_int ?_
 refine args_cons ?_
 refine UnaryOp_ ?_
 refine wpAny_Constant_int ?_
 refine P.neg_int ?_
 refine args_nil ?_
 refine kK S_2 (by decide) (PyProof.noPylong_small (by decide)) ?_
 intro r h_3 S_3
 refine args_cons ?_
 refine aw (env:=callEnvC (aE w.params) L' 280) (by exact S_3) m0 ?_
 refine args_nil ?_
 refine oM (d:=res) (i:=0) S_3 m0 m1 ⟨rfl,rfl⟩ hrf.1 ?_
 intro z TI TO ri h_4 S4
 rw[hrf.2] at S4
 obtain⟨ro,S5⟩:∃ ro:Obj,St hb tabs L' [(Str.ofString "it", .ref I),(Str.ofString "size", .int Es.length ts),(Str.ofString "n", .int n tn),(Str.ofString "iterable", .ref res)] ((z,eL .none TI TO)::(TO,au [.none,.none])::(TI,au [.ref ri,.ref I])::(ri,dQ 0 (n:Int) (-1))::(I,gp res 0)::((r,ro)::(L'+1,ob)::(L,oL)::T)) h_4 :=
  ⟨_,S4.perm (List.Perm.cons _ (List.Perm.cons _ (List.Perm.cons _ (List.Perm.cons _ (List.Perm.swap _ _ _)))))⟩
 refine⟨_,_,z,TI,TO,ri,I,gp res 0,res,ay Es,nr,.none,.none,n,rfl,S5,(fun D=>.new (by kernel_rfl)),⟨rfl,rfl⟩,(.tail _ (.tail _ (.tail _ hm))),by rw[aH];exact z2f hn,by rw[aH];exact up 940 hl,?_⟩
 intro s6 D c X oi' ps K6 S6 hps hZ hoi'
 replace K6:Kp s s6:=⟨K6.os,K6.gens⟩
 have hpl:ps.length≤Es.length:=by exact z2l hn hps
 have hHr:=g9 ps Es 0 hpl
 have hHe:=lT ps Es 0 hpl
 have hHo:=jP ps Es 0
 have hHk:HOk X (mkH ps Es 0):=lS ps Es 0 fun k p hp=>by
  rw[Nat.zero_add]
  exact hZ k p hp
 rw[← hHr] at S6
 generalize mkH ps Es 0=Hs at S6 hHr hHe hHo hHk
 have hHl:Hs.length=n:=by
  have:=congrArg List.length hHr
  rw[aO] at this
  simpa [cL,hps] using this
 have hHE:∀ h∈Hs,h.e∈Es:=fun h hm=>by
  have:h.e∈Hs.map (·.e):=List.mem_map.mpr ⟨h,hm,rfl⟩
  rw[hHe] at this
  exact List.mem_of_mem_take this
 have hO:lE Hs:=fun h hm=>by
  have:=hHo h hm
  exact z2m hl hn hps this.1 this.2
 refine cP ?_
 refine isTrue_not ?_
 refine isTrue_plain ?_
 refine aw (env:=callEnvC (aE w.params) L' 280) (by exact S6) m0 ?_
 refine g8 S6 m0 (by rw[aO];exact z2n hl hn hHl) fun tk=>⟨fun hb'=>?_,fun hb'=>?_⟩
 ·exfalso
  have e1:aS Hs=[]:=by simpa using hb'
  have:(aS Hs).length=0:=by rw[e1];rfl
  rw[aO] at this
  exact z2o hn0 hHl this
 refine ax ?_
 refine aZ ?_
 refine ap ?_
 refine ie G (by exact S6) (v:=.builtin "_heapq.heapify") (by kernel_rfl) ?_
 refine ag ?_
 refine args_cons ?_
 refine aw (env:=callEnvC (aE w.params) L' 280) (by exact S6) m0 ?_
 refine args_nil ?_
 have hSX:SOk ((I,oi')::(X++((r,ro)::(L'+1,ob)::(L,oL)::T))) Es:=hS.mono fun p hp=>.tail _ (List.mem_append_right _ (.tail _ (.tail _ (.tail _ hp))))
 have hHX:HOk ((I,oi')::(X++((r,ro)::(L'+1,ob)::(L,oL)::T))) Hs:=fun h hm=>.tail _ (List.mem_append_left _ (hHk h hm))
 have hkey:∀ h∈Hs,fk rk Hs (.ref h.a)=cK rk h:=fun h hm=>fj (fun h hm=>S6.obj _ (.tail _ (hHX h hm))) (fun e he=>S6.obj _ (.tail _ (hSX e he))) hHE hm
 refine jy (key:=fk rk Hs) (by exact S6) (by rw[aO];exact z2n hl hn hHl) (jV G (by show A.units+3+10<cLine;exact dn 87 hu) hSX hT hR hHE hHX hO hkey) ?_
 intro s7 vs' c' K7 hp7 hh7 S7
 obtain⟨Hs',rfl,hp'⟩:=bq _ hp7
 have hkey':∀ h∈Hs',fk rk Hs (.ref h.a)=cK rk h:=fun h hm=>hkey h (hp'.mem_iff.mp hm)
 rw[aO] at hh7
 have hl':Hs'.length=n:=by rw[hp'.length_eq];exact hHl
 refine k s7 (X++[(r,ro)]) I D oi' c' Hs' (fun f s' z=>by cases f<;> first | exact z | exact z.elim) ⟨K7.os.trans K6.os,fun z=>K7.gens (K6.gens z)⟩ hoi' (fun h hm=>List.mem_append_left _ (hHk h (hp'.mem_iff.mp hm))) ⟨hl',fun h hm=>hHE h (hp'.mem_iff.mp hm),fun h hm=>hO h (hp'.mem_iff.mp hm),?_,?_,(fun o ho=>by cases ho),by exact z2h,by exact z2q⟩ ?_
 ·rw[List.append_nil,← hps,← hHe]
  exact hp'.map _
 ·rw[← hHl]
  exact hh7.congr fun i hi=>cG hkey' (by exact z2r hHl hl' hi)
 ·rw[List.append_assoc]
  exact S7
end
end
section
open PySem.Spec
section
variable{prog:Program}{w:World}{A:Around}{E:VP}{s:Shared}{hb:Heap}{tabs:List Addr}{L d:Addr}{l:List (Str×Value)}{T:List (Addr×Obj)}{vs:List Value}{n:Nat}{env:Env}
theorem hV{t:Tok}{x:Value}{Q:VP}(S:St hb tabs L l T s.heap)(hm:(d,ae (x::vs) n)∈T)(hz:vs.length≤900)(h:Q x s):wpAny (model prog w) A (getItem (.ref d) (.int 0 t)) Q E s :=
 bk (k:=0) S hm (by simp;exact up 99 hz) rfl h
theorem f9{t:Tok}{x:Value}{Q:VP}(S:St hb tabs L l T s.heap)(hm:(d,au (x::vs))∈T)(hz:vs.length≤900)(h:Q x s):wpAny (model prog w) A (getItem (.ref d) (.int 0 t)) Q E s :=
 lr (k:=0) S hm (by simp;exact up 99 hz) rfl h
theorem rB{x:Str}{v:Value}{Q:VP}(S:St hb tabs env.locals l T s.heap)(hv:(x,v)∈l)(h:Q v s)
  (hk:env.scope.kind=.function:=by rfl) (hl:env.kindOf x=some .local:=by rfl):wpAny (model prog w) A (loadName env x) Q E s:=by
 obtain⟨m,a,b,_⟩:=S.fm.ns
 exact wpAny_loadName_local hk hl a (b _ hv) h
theorem jE{e:Expr}{pos:Pos}{rest:List Stmt}{Q:FP}(h:wpAny (model prog w) A (eval e env) (fun _ s'=>wpAny (model prog w) A (execs rest env) Q E s') E s)
  (hi:interactive env=false:=by rfl) (hs:swapsWith e none pos.line env=pure false:=by rfl):wpAny (model prog w) A (execs (.Expr e pos::rest) env) Q E s :=
 wpAny_execs_cons (wpAny_Expr_any h hi hs)
end
section
variable{w:World}{A:Around}{E:VP}{s:Shared}{hb:Heap}{L L' res I D:Addr}{T T₂ X:List (Addr×Obj)}{l:List (Str×Value)}{Es:List Sc}{nr n i c:Nat}{tn ts:Tok}{rk:UInt64→Str→Nat}{Hs:List HI}{oi:Obj}{outs:List Sc}{ord:Int}{to:Tok}{h_0:HI}{r:List HI}
abbrev mY (L' res I D:Addr) (n sz:Nat) (tn ts:Tok) (tp:Addr) (ord:Int) (to:Tok):List (Str×Value):=(Str.ofString "_heapreplace", .builtin "_heapq.heapreplace")::(Str.ofString "order", .int ord to)::(Str.ofString "top", .ref tp)::nmH L' res I D n sz tn ts
theorem jW(G:Gd (KN w.params) tabs hb)(hu:A.units+100<cLine)(hh:A.handled=none)(hS:SOk T₂ Es)(hT:gU Es)(hR:gr rk Es)(hi:i<60){e:Sc}(he:Es[i]? = some e)(hl:Es.length≤60)(hnl:n≤60)
  (J:dl rk Es n i (h_0::r) outs ord) (hH:HOk X (h_0::r)) {oi':Obj} (S:St hb tabs L' (mY L' res I D n Es.length tn ts h_0.e.a ord to) ((I,oi')::(D,ae (aS (h_0::r)) c)::(X++T₂)) s.heap) {Q:FP}
  (k:∀ s' X' c' h' r' outs' ord' to',Kp s s'→dl rk Es n (i+1) (h'::r') outs' ord'→HOk (X'++X) (h'::r')→St hb tabs L' (mY L' res I D n Es.length tn ts h'.e.a ord' to') ((I,oi')::(D,ae (aS (h'::r')) c')::(X'++X++T₂)) s'.heap→Q .next s')
  {tgt:Expr} (htg:tgt=(match (nlB[7]?).getD default with | .For t _ _ _ _=>t | _=>default)) :
  wpAny (model pw w) (A.deeper (bX w L')) (assign tgt (bX w L') (.ref e.a)) (fun _ s_2=>wpAny (model pw w) (A.deeper (bX w L')) (execs (d5 ((nlB[7]?).getD default)) (bX w L')) Q E s_2) E s:=by
 subst htg
 have heE:e∈Es:=List.mem_of_getElem? he
 have hrl:r.length+1=n:=J.len
 refine aT ?_
 refine aG (env:=callEnvC (aE w.params) L' 280) S (.new (by kernel_rfl)) ?_
 intro h_1 S_1
 have hSX:SOk ((I,oi')::(X++T₂)) Es:=hS.mono fun p hp=>.tail _ (List.mem_append_right _ hp)
 have hHX:HOk ((I,oi')::(X++T₂)) (h_0::r):=fun h hm=>.tail _ (List.mem_append_left _ (hH h hm))
 have hSY:∀ e∈Es,(e.a,au [.float e.f e.ft,aj e.x])∈(I,oi')::(D,ae (aS (h_0::r)) c)::(X++T₂):=fun e he=>.tail _ (.tail _ (List.mem_append_right _ (hS e he)))
 refine cP ?_
 refine wpAny_isTrue_Compare1 ?_
 refine aw (env:=callEnvC (aE w.params) L' 280) (by exact S_1) m3 ?_
 refine aw (env:=callEnvC (aE w.params) L' 280) (by exact S_1) m0 ?_
 have h0E:=J.sub h_0 (.head _)
 refine mB (by show A.units+3<cLine;exact dn 97 hu) (S_1.nb G) hT hR h0E heE (S_1.obj _ (hSY _ h0E)) (S_1.obj _ (hSY _ heE)) ?_
 refine wpAny_truthy_bool ⟨fun q=>?_,fun q=>?_⟩
 ·have hlt:=of_decide_eq_true q
  refine jE ?_
  refine ap ?_
  refine aw (env:=callEnvC (aE w.params) L' 280) (by exact S_1) m1 ?_
  refine ag ?_
  refine args_cons ?_
  refine aw (env:=callEnvC (aE w.params) L' 280) (by exact S_1) m4 ?_
  refine args_cons ?_
  refine aX ?_
  refine args_cons ?_
  refine aw (env:=callEnvC (aE w.params) L' 280) (by exact S_1) m0 ?_
  refine args_cons ?_
  refine aw (env:=callEnvC (aE w.params) L' 280) (by exact S_1) m2 ?_
  refine args_nil ?_
  refine⟨rfl,_,_,_,_,_,S_1,?_⟩
  intro na h_2 S_2
  refine args_nil ?_
  have S_3:=S_2.perm (T':=(D,ae (aS (h_0::r)) c)::(na,au [.ref e.a,.int ord to])::(I,oi')::(X++T₂)) (List.perm_append_comm (l₁:=[(na,au [.ref e.a,.int ord to]),(I,oi')]) (l₂:=[(D,ae (aS (h_0::r)) c)]) |>.append_right (X++T₂))
  generalize hnew:(⟨na,e,ord,to⟩:HI)=new
  have hne:new.e=e:=by rw[← hnew]
  have hna:new.a=na:=by rw[← hnew]
  have hno:new.ord=ord:=by rw[← hnew]
  have hnt:new.ot=to:=by rw[← hnew]
  have hHE:∀ h∈new::h_0::r,h.e∈Es:=fun h hm=>by
   rcases List.mem_cons.mp hm with rfl | hm
   ·rw[hne];exact heE
   ·exact J.sub h hm
  have o0:=J.o0
  have o1:=J.o1
  have hO:lE (new::h_0::r):=fun h hm=>by
   rcases List.mem_cons.mp hm with rfl | hm
   ·rw[hno];exact z2e hi o0 o1
   ·exact J.ords h hm
  have hSX':SOk ((na,au [.ref e.a,.int ord to])::(I,oi')::(X++T₂)) Es:=hSX.mono fun p hp=>.tail _ hp
  have hHX':HOk ((na,au [.ref e.a,.int ord to])::(I,oi')::(X++T₂)) (new::h_0::r):=fun h hm=>by
   rcases List.mem_cons.mp hm with rfl | hm
   ·rw[hne,hna,hno,hnt];exact .head _
   ·exact .tail _ (hHX h hm)
  have hkey:∀ h∈new::h_0::r,fk rk (new::h_0::r) (.ref h.a)=cK rk h:=fun h hm=>fj (fun h hm=>S_3.obj _ (.tail _ (hHX' h hm))) (fun e he=>S_3.obj _ (.tail _ (hSX' e he))) hHE hm
  have hsub:∀ h∈new::r,h∈new::h_0::r:=fun h hm=>by
   rcases List.mem_cons.mp hm with rfl | hm
   ·exact .head _
   ·exact .tail _ (.tail _ hm)
  have eN:aS (new::r)=.ref na::aS r:=by rw[← hna];rfl
  refine eU (first:=.ref h_0.a) (rest:=aS r) (key:=fk rk (new::h_0::r)) (by exact S_3) (by simp[aS];exact z2u hnl hrl) (by
   rw[← eN]
   exact jV G (by show A.units+3+10<cLine;exact dn 87 hu) hSX' hT hR (fun h hm=>hHE h (hsub h hm)) (fun h hm=>hHX' h (hsub h hm)) (fun h hm=>hO h (hsub h hm)) (fun h hm=>hkey h (hsub h hm))) (by
   have e1:(Value.ref h_0.a::aS r)=aS (h_0::r):=rfl
   rw[e1,aO,show (h_0::r).length=n from J.len]
   exact J.heap.congr fun j hj=>(cG (fun h hm=>hkey h (.tail _ hm)) (by rw[show (h_0::r).length=n from J.len];exact hj)).symm) ?_
  intro s4 vs' c' K4 hp4 hh4 S4
  rw[← eN] at hp4 hh4
  obtain⟨Hs',rfl,hp'⟩:=bq _ hp4
  have hl':Hs'.length=n:=by rw[hp'.length_eq];exact J.len
  have hkey':∀ h∈Hs',fk rk (new::h_0::r) (.ref h.a)=cK rk h:=fun h hm=>hkey h (hsub h (hp'.mem_iff.mp hm))
  rw[aO,show (new::r).length=n from J.len] at hh4
  have hheap:aJ (iM rk Hs') n 0:=hh4.congr fun j hj=>cG hkey' (by exact z2v hl' hj)
  have J':=J.swap he hlt hi hne hno hp' hheap
  have hHX'':HOk ((na,au [.ref e.a,.int ord to])::(I,oi')::(X++T₂)) Hs':=fun h hm=>hHX' h (hsub h (hp'.mem_iff.mp hm))
  have hHk:HOk ((na,au [.ref e.a,.int ord to])::X) Hs':=fun h hm=>by
   rcases List.mem_cons.mp (hp'.mem_iff.mp hm) with rfl | hm
   ·rw[hne,hna,hno,hnt];exact .head _
   ·exact .tail _ (hH h (.tail _ hm))
  match Hs',hl',J',hHX'',hHk,S4 with
  | [],hl',_,_,_,_=>simp at hl';exact z2w hrl hl'
  | h'::r',hl',J',hHX'',hHk,S4 =>
  refine eX ?_
  refine cA list_getitem_lookup ?_
  refine aw (env:=callEnvC (aE w.params) L' 280) (by exact S4) m4 ?_
  refine wpAny_Constant_int ?_
  refine⟨⟨_,S4.obj _ m0,rfl⟩,?_⟩
  refine hV (x:=.ref h'.a) (vs:=aS r') (by exact S4) m0 (by rw[aO];simp at hl';exact z2x hnl hl') ?_
  refine bG hh (by exact S4) (.tail _ (hHX'' h' (.head _))) ?_
  intro h_5 S5
  refine aA ?_
  refine aG (env:=callEnvC (aE w.params) L' 280) (by exact S5) (.old (.there (.there (.there .here)))) ?_
  intro h_6 S6
  refine aA ?_
  refine aG (env:=callEnvC (aE w.params) L' 280) (by exact S6) (.new (by kernel_rfl)) ?_
  intro h_7 S7
  refine bx ?_
  refine pn ?_
  refine rB (env:=callEnvC (aE w.params) L' 280) (by exact S7) m3 ?_
  refine wpAny_Constant_int ?_
  refine PySem.P.isub_int ?_
  refine aG (env:=callEnvC (aE w.params) L' 280) (by exact S7) (.old (.there (.there (.there .here)))) ?_
  intro h_8 S8
  refine ax ?_
  refine ax ?_
  have S9:=S8.forget (l':=mY L' res I D n Es.length tn ts h'.e.a (ord - 1) _) (.cons _ (.cons _ (List.Sublist.refl _)))
  have S10:=S9.perm (T':=(I,oi')::(D,ae (aS (h'::r')) c')::((na,au [.ref e.a,.int ord to])::X++T₂)) (List.perm_append_comm (l₁:=[(D,ae (aS (h'::r')) c'),(na,au [.ref e.a,.int ord to])]) (l₂:=[(I,oi')]) |>.append_right (X++T₂))
  exact k _ [(na,au [.ref e.a,.int ord to])] c' h' r' _ (ord - 1) _ ⟨K4.os,K4.gens⟩ J' hHk (by exact S10)
 ·have hle:rkS rk e≤rkS rk h_0.e:=by have:=of_decide_eq_false q;exact z2y q
  refine ax ?_
  refine ax ?_
  have S_2:=S_1.forget (l':=mY L' res I D n Es.length tn ts h_0.e.a ord to) (List.sublist_cons_self _ _)
  exact k _ [] c h_0 r (e::outs) ord to ⟨rfl,id⟩ (J.skip he hle) hH (by exact S_2)
end
end
section
open PySem.Spec
section
variable{w:World}{A:Around}{E:VP}{s:Shared}{hb:Heap}{L L' res I D:Addr}{T T₂ X:List (Addr×Obj)}{l:List (Str×Value)}{Es:List Sc}{nr n c:Nat}{tn ts:Tok}{rk:UInt64→Str→Nat}{Hs:List HI}{oi:Obj}
theorem kR(G:Gd (KN w.params) tabs hb)(hu:A.units+100<cLine)(hh:A.handled=none)(hm:(res,ae (ay Es) nr)∈T₂)(hS:SOk T₂ Es)(hT:gU Es)(hR:gr rk Es)(hl:Es.length≤60)(hn0:0<n)(hn:n<Es.length)
  (hoi:bC oi res n) (J:dl rk Es n n Hs [] (-(n:Int))) (hH:HOk X Hs) (S:St hb tabs L' (nmH L' res I D n Es.length tn ts) ((D,ae (aS Hs) c)::(I,oi)::(X++T₂)) s.heap) {Q:FP}
  (k:∀ (s':Shared) (Y:List (Addr×Obj)) (r:Addr) (nr':Nat) (P:List Sc) (l':List (Str×Value)),Kp s s'→P.Perm Es→P.Pairwise (fun a b=>rkS rk b≤rkS rk a)→St hb tabs L' l' ((r,ae (ay (P.take n)) nr')::(Y++T₂)) s'.heap→Q (.ret (.ref r)) s') :
  wpAny (model pw w) (A.deeper (bX w L')) (execs (nlB.drop 4) (bX w L')) Q E s:=by
 match Hs,J,hH,S with
 | [],J,_,_=>have:=J.len;simp at this;exact z2z hn0 this
 | h_0::r,J,hH,S =>
 have hrl:r.length+1=n:=J.len
 have hHX:HOk ((D,ae (aS (h_0::r)) c)::(I,oi)::(X++T₂)) (h_0::r):=fun h hm=>.tail _ (.tail _ (List.mem_append_left _ (hH h hm)))
 refine ak ?_
 refine cA bo ?_
 refine cA list_getitem_lookup ?_
 refine aw (env:=callEnvC (aE w.params) L' 280) S m0 ?_
 refine wpAny_Constant_int ?_
 refine⟨⟨_,S.obj _ m0,rfl⟩,?_⟩
 refine hV (x:=.ref h_0.a) (vs:=aS r) (by exact S) m0 (by rw[aO];exact z30 hl hn hrl) ?_
 refine wpAny_Constant_int ?_
 refine⟨⟨_,S.obj _ (hHX h_0 (.head _)),rfl⟩,?_⟩
 refine f9 (by exact S) (hHX h_0 (.head _)) (by simp) ?_
 refine aG (env:=callEnvC (aE w.params) L' 280) (by exact S) (.new (by kernel_rfl)) ?_
 intro h_1 S_1
 refine ak ?_
 refine UnaryOp_ ?_
 refine aw (env:=callEnvC (aE w.params) L' 280) (by exact S_1) m4 ?_
 refine P.neg_int ?_
 refine aG (env:=callEnvC (aE w.params) L' 280) (by exact S_1) (.new (by kernel_rfl)) ?_
 intro h_2 S_2
 refine ak ?_
 refine ie G (by exact S_2) (v:=.builtin "_heapq.heapreplace") (by kernel_rfl) ?_
 refine aG (env:=callEnvC (aE w.params) L' 280) (by exact S_2) (.new (by kernel_rfl)) ?_
 intro h_3 S_3
 refine el ?_
 refine aw (env:=callEnvC (aE w.params) L' 280) (by exact S_3) m4 ?_
 obtain⟨tok,S4⟩:∃ tok,St hb tabs L' (mY L' res I D n Es.length tn ts h_0.e.a (-(n:Int)) tok) ((I,oi)::(D,ae (aS (h_0::r)) c)::(X++T₂)) h_3:=⟨_,S_3.perm (List.Perm.swap _ _ _)⟩
 refine az (by exact S4) fun s4 K4 S4=>?_
 refine wpAny_pyIter_listiter (l:=res) (i:=n) ⟨_,S4.obj _ m0,hoi.1,hoi.2⟩ ?_
 refine nP (d:=res) (vs:=ay Es) (n:=nr) (i₀:=n) (l:=mY L' res I D n Es.length tn ts h_0.e.a (-(n:Int)) tok) (T:=(D,ae (aS (h_0::r)) c)::(X++T₂)) hh
  (fun i l₁ T1=>Ex7 fun h' r' outs ord to c X=>An4 (dl rk Es n i (h'::r') outs ord) (l₁=mY L' res I D n Es.length tn ts h'.e.a ord to) (T1=(D,ae (aS (h'::r')) c)::(X++T₂)) (HOk X (h'::r'))) S4 hoi (by rw[aH];exact z2f hn) ⟨h_0,r,[],_,tok,c,X,J,rfl,rfl,hH⟩ (.tail _ (List.mem_append_right _ hm)) ?_ ?_
 ·rintro E1 i v l₁ T1 o_1 s₁ hi0 hv ⟨h',r',outs,ord,to,c',X',J',rfl,rfl,hH'⟩ hd1 S5 K5
  have hv':∃ e,Es[i]? = some e∧v=.ref e.a:=by
   rw[ay,List.getElem?_map] at hv
   obtain⟨e,h1,h2⟩:=Option.map_eq_some_iff.mp hv
   exact⟨e,h1,h2.symm⟩
  obtain⟨e,he,rfl⟩:=hv'
  have hi60:i<60:=by
   have:=(List.getElem?_eq_some_iff.mp he).1
   exact z31 hl this
  refine jW (T₂:=T₂) (X:=X') G hu hh hS hT hR hi60 he hl (by exact z32 hl hn) J' hH' (by exact S5) ?_ rfl
  intro s' X2 c_2 h_2' r_2 outs2 ord2 to2 K2 J2 hH2 S2'
  exact⟨_,_,S2',⟨h_2',r_2,outs2,ord2,to2,c_2,X2++X',J2,rfl,rfl,hH2⟩,.tail _ (List.mem_append_right _ hm),K5.trans K2⟩
 ·rintro s5 l5 T5 K5 S5 ⟨h',r',outs,ord,to,c',X',J',rfl,rfl,hH'⟩
  replace K5:Kp s s5:=⟨K5.os.trans K4.os,fun z=>K5.gens (K4.gens z)⟩
  rw[aH] at J'
  have hrl':r'.length+1=n:=J'.len
  have hSX:SOk (X'++T₂) Es:=hS.mono fun p hp=>List.mem_append_right _ hp
  have hHX':HOk (X'++T₂) (h'::r'):=fun h hm=>List.mem_append_left _ (hH' h hm)
  refine aZ ?_
  refine methodCall_KW ?_
  refine aw (env:=callEnvC (aE w.params) L' 280) (by exact S5) m3 ?_
  refine ba (by exact S5) m0 PySem.F.slot_list_sort PySem.F.type_list_sort ?_
  refine rD ?_
  refine kws_cons ?_
  refine wpAny_Constant_bool ?_
  refine kws_nil ?_
  refine wpAny_call_entry_kw PySem.F.slot_list_sort ⟨_,S5.obj _ m0,rfl⟩ PySem.F.entry_list_sort ?body (fg D)
  show wpAny (model pw w) (A.deeper (bX w L')).in1 (bu D) _ _ _
  have hkey:∀ h∈h'::r',fk rk (h'::r') (.ref h.a)=cK rk h:=fun h hm=>fj (fun h hm=>S5.obj _ (.tail _ (hHX' h hm))) (fun e he=>S5.obj _ (.tail _ (hSX e he))) J'.sub hm
  have hpos:∀ h∈h'::r',0≤cK rk h+60:=fun h hm=>by
   have:=J'.ords h hm
   unfold cK;exact z33 this.1
  refine cE (κ:=tuples' false) (T:=X'++T₂) (fun v=>(fk rk (h'::r') v+60).toNat) (by exact S5) (by rw[aO];simp;exact z34 hl hn hrl') ?_ ?_ ?_
  ·intro h2 s' T' Q' E' S' hin hq
   refine kat_kind (T:=.type "tuple") (hi_tups fun h hm=>S'.obj _ (hin _ (hHX' h hm))) (by simp) (fun v hv=>?_) rfl hq
   obtain⟨h,hm,rfl⟩:=List.mem_map.mp hv
   exact (Looks.ld (S'.obj _ (hin _ (hSX _ (J'.sub h hm))))).andThen .now
  ·intro s' T' K' S' hin x hx y hy C hC
   obtain⟨h_1,m1,rfl⟩:=List.mem_map.mp hx
   obtain⟨h_2,m2,rfl⟩:=List.mem_map.mp hy
   have p1:=hpos _ m1
   have p2:=hpos _ m2
   rw[hkey _ m1,hkey _ m2] at hC
   refine rm (Es:=Es) (rk:=rk) (by show A.units+3+1+4<cLine;exact dn 92 hu) (S'.nb G) hT hR (J'.sub _ m1) (J'.sub _ m2) (S'.obj _ (hin _ (hSX _ (J'.sub _ m1)))) (S'.obj _ (hin _ (hSX _ (J'.sub _ m2)))) (S'.obj _ (hin _ (hHX' _ m1))) (S'.obj _ (hin _ (hHX' _ m2))) (J'.ords _ m1) (J'.ords _ m2) ?_
   rw[show decide (cK rk h_1<cK rk h_2)=decide ((cK rk h_1+60).toNat<(cK rk h_2+60).toNat) from decide_eq_decide.mpr (by lia)]
   exact hC
  ·intro s6 c_6 vs' K6 hp6 hw6 S6
   obtain⟨Hf,rfl,hpf⟩:=bq _ hp6
   replace K6:Kp s s6:=K5.trans K6
   have hsub:∀ h∈Hf,h∈h'::r':=fun h hm=>hpf.mem_iff.mp hm
   have hfall:(Hf.map (·.e)).Pairwise fun a b=>rkS rk b≤rkS rk a:=by
    rw[List.pairwise_map] at hw6 ⊢
    refine List.Pairwise.imp_of_mem ?_ hw6
    intro a b ha hb h
    rw[hkey a (hsub a ha),hkey b (hsub b hb)] at h
    have p1:=hpos _ (hsub a ha)
    have p2:=hpos _ (hsub b hb)
    exact fP (J'.ords _ (hsub b hb)) (J'.ords _ (hsub a ha)) (by exact z37 h p1)
   have hpe:(Hf.map (·.e)++outs).Perm Es:=by
    have:=J'.perm
    rw[List.take_length] at this
    exact ((hpf.map (·.e)).append_right outs).trans this
   obtain⟨P,hP,hPw,hPt⟩:=i5 hpe hfall (fun o ho e he=>by
    obtain⟨h,hm,rfl⟩:=List.mem_map.mp he
    exact J'.below o ho h (hsub h hm))
   have hfl:Hf.length=n:=by rw[hpf.length_eq];exact J'.len
   rw[List.length_map,hfl] at hPt
   refine⟨_,rfl,?_⟩
   refine b7 ?_
   refine eA (hb:=hb) (tabs:=tabs) hh ?_ (.inr ⟨_,_,_,rfl⟩) (by decide) (by decide) rfl (by decide)
   refine aw (env:=callEnvC (aE w.params) L' 280) (by exact S6) m3 ?_
   refine⟨L',_,_,D,aS Hf,c_6,fun i acc X=>X=[]∧acc=(ay (P.take n)).take i,rfl,by exact S6,m0,?_,⟨rfl,rfl⟩,?_,?_⟩
   ·rw[aO];exact z2n hl hn hfl
   ·rintro C' D' oL' E' i v acc c X'' own s_2 hi hacc ⟨rfl,hJ⟩ hr_2 K2 S_2
    have hv:∃ h,Hf[i]? = some h∧v=.ref h.a:=by
     rw[aS,List.getElem?_map] at hi
     obtain⟨h,h1,h2⟩:=Option.map_eq_some_iff.mp hi
     exact⟨h,h1,h2.symm⟩
    obtain⟨h,he,rfl⟩:=hv
    have hm:=hHX' h (hsub h (List.mem_of_getElem? he))
    refine bG hh S_2 (List.mem_append_left _ (.tail _ (.tail _ (.tail _ hm)))) ?_
    intro h_3 S_3
    refine aA ?_
    refine aG (env:=compEnv _ C' _) (by exact S_3) (.new (by kernel_rfl)) ?_
    intro h_4 S4
    refine aA ?_
    refine aG (env:=compEnv _ C' _) (by exact S4) (.new (by kernel_rfl)) ?_
    intro h_5 S5
    refine bx ?_
    refine aw (env:=compEnv _ C' _) (by exact S5) m1 ?_
    refine⟨[],_,⟨K2.os,K2.gens⟩,(by exact S5),rfl,?_⟩
    have e2:(ay (P.take n))[i]? = some (.ref h.e.a):=by
     rw[hPt]
     unfold ay
     rw[List.getElem?_map,List.getElem?_map,he];rfl
    rw[List.take_add_one,e2,hJ]
    simp
   ·rintro s7 D' acc c7 X'' K7 S7 hl7 ⟨rfl,rfl⟩
    have e3:(ay (P.take n)).take (aS Hf).length=ay (P.take n):=by
     rw[List.take_of_length_le]
     rw[aH,aO,List.length_take,hfl]
     exact z38
    rw[e3] at S7
    exact k s7 ((D,ae (aS Hf) c_6)::X') D' c7 P _ (K6.trans K7) hP hPw (by exact S7)
end
end
section
open PySem.Spec
def kH(rk:UInt64→Str→Nat)(Es:List Sc):Value→Nat
 | .ref a=>((Es.find? fun e=>e.a == a).map (rkS rk)).getD 0
 | _=>0
theorem kG{rk:UInt64→Str→Nat}{Es:List Sc}{hp:Heap}(hE:∀ e∈Es,hp.get? e.a=some (au [.float e.f e.ft,aj e.x])){e:Sc}(hm:e∈Es):kH rk Es (.ref e.a)=rkS rk e:=by
 show ((Es.find? fun e'=>e'.a == e.a).map (rkS rk)).getD 0=rkS rk e
 cases hf:Es.find? fun e'=>e'.a == e.a with
 | none=>exact absurd (List.find?_eq_none.mp hf e hm) (by simp)
 | some e' =>
  have ha:e'.a=e.a:=by simpa using List.find?_some hf
  obtain⟨s1,s2⟩:=jl (hE _ (List.mem_of_find?_eq_some hf)) (hE _ hm) ha
  show rkS rk e'=rkS rk e
  unfold rkS
  rw[s1,s2]
theorem nl_c{w:World}{hb:Heap}(G:Gd (KN w.params) tabs hb):NLC w hb:=by
 intro A s L l T R res Es nr n tn rk S hd hu hh hm hS hT hws hl hn0 hn60 hR k
 have hrkv:∀ e∈Es,kH rk Es (.ref e.a)=rkS rk e:=fun e he=>kG (fun e he=>S.obj _ (hS e he)) he
 by_cases h1:n=1
 ·subst h1
  exact qL G S hd hu hh hm hS hT hl hR (kH rk Es) hrkv k
 ·refine mZ G S hd hu hh hm hl h1 ?_ ?_
  ·intro hge L' s₁ oL ob ts Q E' hq r hob K1 S_1
   refine qM G hu hm hS hT hl hR (kH rk Es) hrkv hob S_1 ?_
   intro s_2 X d P K2 hP hw S_2
   refine hq _ _ ?_
   have S_3:=S_2.perm (T':=(L,oL)::(d,ae (ay (P.take n)) 0)::((X++[(L'+1,ob)])++T)) (by
    have e:(d,ae (ay (P.take n)) 0)::(X++((L'+1,ob)::(L,oL)::T))=((d,ae (ay (P.take n)) 0)::(X++[(L'+1,ob)]))++((L,oL)::T):=by simp
    rw[e]
    exact List.perm_middle)
   exact k s_2 (X++[(L'+1,ob)]) d 0 P (K1.trans K2) (by exact S_3.leave 0 rfl r) hP hw
  ·intro hlt L' s₁ oL ob ts r hob K1 S_1
   refine kS G (by exact dn 10 hd) hu hh hm hS hT hl hR hn0 hlt hob S_1 ?_
   intro s_2 X I D oi c Hs Q' hq K2 hoi hH J S_2
   refine kR G hu hh (.tail _ (.tail _ hm)) (hS.mono fun p hp=>.tail _ (.tail _ hp)) hT hR hl hn0 hlt hoi J hH S_2 ?_
   intro s3 Y d nr' P l' K3 hP hw S_3
   refine hq _ _ ?_
   have S4:=S_3.perm (T':=(L,oL)::(d,ae (ay (P.take n)) nr')::((Y++[(L'+1,ob)])++T)) (by
    have e:(d,ae (ay (P.take n)) nr')::(Y++((L'+1,ob)::(L,oL)::T))=((d,ae (ay (P.take n)) nr')::(Y++[(L'+1,ob)]))++((L,oL)::T):=by simp
    rw[e]
    exact List.perm_middle)
   exact k s3 (Y++[(L'+1,ob)]) d nr' P ((K1.trans K2).trans K3) (by exact S4.leave 0 rfl r) hP hw
end
section
open PySem.Spec PySem.SeqAt
section
variable{prog:Program}{w:World}{A:Around}{E:VP}{s:Shared}{hb:Heap}{tabs:List Addr}{L a d:Addr}{l:List (Str×Value)}{T:List (Addr×Obj)}{vs us:List Value}{n k:Nat}{env:Env}
theorem St.isList(S:St hb tabs L l T s.heap)(hm:(d,ae vs n)∈T):s.heap.IsList d vs.toArray:=⟨_,S.obj _ hm,rfl,n,rfl⟩
theorem dX{Q:VP}(S:St hb tabs L l T s.heap)(h1:(a,ae vs n)∈T)(h2:(d,ae us k)∈T)(hz:vs.length+us.length≤1000)(h:∀ D h',St hb tabs L l ((D,ae (vs++us) 0)::T) h'→Q (.ref D) (wh s h')) :
  wpAny (model prog w) A (binaryOp .Add (.ref a) (.ref d)) Q E s:=by
 have ho:=S.obj _ h1
 have ho2:=S.obj _ h2
 have e:vs.toArray++us.toArray=(vs++us).toArray:=by simp
 refine concat_meets ⟨_,ho,rfl⟩ ⟨_,ho2,rfl⟩ noFill_list_add seq_list_add PySem.F.slot_list_add PySem.F.entry_list_add (PySem.F.args_list_add_2 _ _) (list_addW a d vs.toArray us.toArray n k none none #[] #[] (by rw[sizeLine_eq,List.size_toArray,List.size_toArray];exact zay hz)) ⟨ho,ho2,?_⟩
 rw[e]
 exact h _ _ (S.push (ae (vs++us) 0))
theorem pc{x:Int}{u:Tok}{Q:VP}(S:St hb tabs L l T s.heap)(h1:(a,ae vs n)∈T)(hne:vs≠[])(hlo:0≤x)(hhi:x≤100)(hz:vs.length≤1000)(h:∀ D h',St hb tabs L l ((D,ae (List.replicate x.toNat vs).flatten 0)::T) h'→Q (.ref D) (wh s h')) :
  wpAny (model prog w) A (binaryOp .Mult (.ref a) (.int x u)) Q E s:=by
 have hl:=S.obj _ h1
 have hsz:vs.length * x.toNat≤100000:=by
  have:x.toNat≤100:=by exact zax hhi
  exact Nat.le_trans (Nat.mul_le_mul hz this) (by decide)
 have e:(List.foldl (fun x1 x2=>x1++x2) (#[]:Array Value) (List.replicate (if vs.toArray.isEmpty=true then 0 else x.toNat) vs.toArray))=(List.replicate x.toNat vs).flatten.toArray:=listMul_foldl_if vs.toArray x.toNat
 refine wpAny_binaryOp_repeat_ref (T := "list") (U := "int") (by decide) ⟨_,hl,rfl⟩ (fun s'=>typeIs_int s' x u) noFill_list_mul PySem.F.fills_int_mul PySem.F.slot_int_rmul repeat_list PySem.F.slot_int_index.lookup
  (call_meets PySem.F.slot_int_rmul (typeIs_int s x u) PySem.F.entry_int_rmul (PySem.F.args_int_rmul_2 _ _) (int___rmul___int_list x u a vs.toArray n)
   ⟨hl,rfl,⟨_,hl,rfl⟩,call_meets PySem.F.slot_list_mul ⟨_,hl,rfl⟩ PySem.F.entry_list_mul (PySem.F.args_list_mul_2 _ _)
    (AutoListH.list___mul___list_int_3 a vs.toArray n x u (by simp[Builtin.List.listFitsIndex];exact zb1 hlo hhi) (by rw[List.size_toArray];lia) (by simp[Builtin.List.listTooLong,sizeLine];exact zb4 hsz))
    ⟨hl,?_⟩⟩)
 rw[e]
 exact h _ _ (S.push (ae (List.replicate x.toNat vs).flatten 0))
theorem eS {o:Obj}{c:String}{Q:VP} (S:St hb tabs L l T s.heap) (hT:c = "list" ∨ c = "tuple") (ho:s.heap.get? a=some o) (hc:o.cls=.type c) (hd:o.data=.seq vs.toArray n) (hz:vs.length≤1000)
  (h:∀ D c' h',St hb tabs L l ((D,ae vs c')::T) h'→Q (.ref D) (wh s h')):wpAny (model prog w) A (call (.type "list") [.ref a]) Q E s:=by
 refine call_list_seq a hT ho hc hd (fun h' c' hk hn=>?_) (by rw[sizeLine_eq,List.size_toArray];exact up 16776216 hz)
 have S':=S.adds (own:=[(s.heap.objs.size,ae vs c')]) hk (fun p hp=>by rw[List.mem_singleton] at hp;subst hp;exact hn) (fun p hp=>by rw[List.mem_singleton] at hp;subst hp;exact Nat.le_refl _) (by simp)
 exact h _ c' h' S'.front
theorem kN{x:Int}{u:Tok}{v:Value}{Q:VP}(i:Nat)(S:St hb tabs L l T s.heap)(hi:T[i]? = some (d,ae vs n))(h0:0≤x)(h1:x≤vs.length)(hz:vs.length≤1000)
  (h:∀ h' c,St hb tabs L l (T.set i (d,ae (vs.take x.toNat++v::vs.drop x.toNat) c)) h'→Q .none (wh s h')) :
  wpAny (model prog w) A (call (.builtin "list.insert") [.ref d,.int x u,v]) Q E s:=by
 have ho:=S.obj _ (List.mem_of_getElem? hi)
 refine call_meets PySem.F.slot_list_insert ⟨_,ho,rfl⟩ PySem.F.entry_list_insert (PySem.F.args_list_insert_3 _ _ _) (AutoSeq1.list_insert_list_int_val_1 d vs.toArray n x u v (by simp[Builtin.List.listFitsIndex];exact zb0 h0 h1 hz) (by rw[sizeLine_eq,List.size_toArray];exact up 16776216 hz)) ⟨ho,?_⟩
 have hs:=Heap.SameBut.update s.heap d (Obj.mapSeq fun xs=>have k:=if x<0 then (x+(xs.size:Int)).toNat else min x.toNat xs.size;(xs.extract 0 k).push v++xs.extract k)
 obtain⟨c,e⟩:∃ c,(Obj.mapSeq (fun xs=>have k:=if x<0 then (x+(xs.size:Int)).toNat else min x.toNat xs.size;(xs.extract 0 k).push v++xs.extract k) (ae vs n))=ae (vs.take x.toNat++v::vs.drop x.toNat) c:=by
  have hk:(if x<0 then (x+(vs.toArray.size:Int)).toNat else min x.toNat vs.toArray.size)=x.toNat:=by
   rw[if_neg (by exact zb3 h0),List.size_toArray];exact zb5 h1
  have e1:(vs.toArray.extract 0 (if x<0 then (x+(vs.toArray.size:Int)).toNat else min x.toNat vs.toArray.size)).push v++vs.toArray.extract (if x<0 then (x+(vs.toArray.size:Int)).toNat else min x.toNat vs.toArray.size)=(vs.take x.toNat++v::vs.drop x.toNat).toArray:=by
   rw[hk]
   apply Array.toList_inj.mp
   simp[List.take_of_length_le]
  have h0:∃ c,(Obj.mapSeq (fun xs=>have k:=if x<0 then (x+(xs.size:Int)).toNat else min x.toNat xs.size;(xs.extract 0 k).push v++xs.extract k) (ae vs n)) =
   { ae vs n with data:=.seq ((vs.toArray.extract 0 (if x<0 then (x+(vs.toArray.size:Int)).toNat else min x.toNat vs.toArray.size)).push v++vs.toArray.extract (if x<0 then (x+(vs.toArray.size:Int)).toNat else min x.toNat vs.toArray.size)) c }:=⟨_,rfl⟩
  rw[e1] at h0
  exact h0
 exact h _ c (S.change i hi hs (by rw[Heap.get?_update_self _ ho (by rw[e];rfl),e]))
theorem dO{Q:VP}{value e:Expr}{p pos:Pos}
  (h:wpAny (model prog w) A (eval value env) (fun o s₁=>wpAny (model prog w) A (eval e env) (fun vu s_2=>Ex6 fun L l T d b tb=>∃ vs:List Value,An6 (o=.ref d) (vu=.int ((b:Nat):Int) tb) (St hb tabs L l T s_2.heap) (s_2.heap.IsList d vs.toArray) (vs.length≤1000) (∀ D X h',St hb tabs L l ((D,ae (vs.take b) 0)::(X++T)) h'→Q (.ref D) (wh s_2 h'))) E s₁) E s) :
  wpAny (model prog w) A (eval (.Subscript value (.Slice none (some e) none p) pos) env) Q E s:=by
 refine b4 (wpAny_mono h (fun o s₁ h_1=>?_) fun _ _ e=>e)
 refine wpAny_Slice ?_
 rw[evalPart_none]
 refine wpAny_pure ?_
 rw[evalPart_some]
 refine wpAny_mono h_1 (fun vu s_2 h_2=>?_) fun _ _ e=>e
 obtain⟨L,l,T,d,b,tb,vs,rfl,rfl,S,hl,hz,hQ⟩:=h_2
 refine wpAny_pure ?_
 have S_1:=(S.push { cls:=.type "slice", data:=.fields #[.none,.int ((b:Nat):Int) tb,.none] }).push { cls:=.type "list", data:=.seq (slicePick vs.toArray none (some ((b:Nat):Int)) none) }
 rw[slicePick_upto' _ _] at S_1
 refine⟨(hl.push _).typeIs,wpAny_getItem_list_slice (hl.push _) (Heap.IsSliceOf.new ..) .none (.int _ _) .none (by simp) ?_ (by rw[sizeLine_eq,List.size_toArray];exact up 16776216 hz)⟩
 rw[slicePick_upto' _ _]
 exact hQ _ [(_,_)] _ S_1
theorem mJ{Q:VP}(S:St hb tabs L l T s.heap)(hm:(d,ae vs n)∈T)
  (h:∀ I J o o' Wt Mid fp h',ItU prog w hb tabs [(d,ae vs n)] I [I,J] vs.length (fun i vals=>Ex2 fun t x=>vs[i]? = some x∧vals = #[.int i t,x]) Wt Mid fp→Wt 0 h'→St hb tabs L l (T++[(I,o),(J,o')]) h'→Q (.ref I) (wh s h')) :
  wpAny (model prog w) A (call (.type "enumerate") [.ref d]) Q E s:=by
 refine call_enumerate_list (S.isList hm) fun h' he hi hz hk=>?_
 obtain⟨oe,hoe⟩:=cY he
 obtain⟨oi,hoi,-⟩:=id hi
 have hlt:=S.lt hm
 have S':St hb tabs L l (T++[(s.heap.objs.size+1,oe),(s.heap.objs.size,oi)]) h':=S.adds hk (fun p hp=>by
  rcases List.mem_cons.mp hp with rfl | hp
  ·exact hoe
  ·rcases List.mem_cons.mp hp with rfl | hp
   ·exact hoi
   ·cases hp) (fun p hp=>by
  rcases List.mem_cons.mp hp with rfl | hp
  ·exact Nat.le_succ _
  ·rcases List.mem_cons.mp hp with rfl | hp
   ·exact Nat.le_refl _
   ·cases hp) (by simp)
 have hl':h'.IsList d vs.toArray:=⟨_,S'.obj _ (List.mem_append_left _ hm),rfl,n,rfl⟩
 have hle:d≠s.heap.objs.size+1:=Nat.ne_of_lt (Nat.lt_succ_of_lt hlt)
 have hli:d≠s.heap.objs.size:=Nat.ne_of_lt hlt
 refine h _ _ _ _ (fun i h=>(∃ old,IsEnum h (s.heap.objs.size+1) s.heap.objs.size i old)∧h.IsListIter s.heap.objs.size d i∧h.IsList d vs.toArray) (fun i T h=>(∃ x,IsEnumOut h (s.heap.objs.size+1) s.heap.objs.size ((i:Int)+1) x T)∧h.IsListIter s.heap.objs.size d (i+1)∧h.IsList d vs.toArray∧T≠s.heap.objs.size+1∧T≠s.heap.objs.size) [s.heap.objs.size+1,s.heap.objs.size,d] _ ⟨fun A hA=>?_,?_,?_⟩ ⟨⟨_,he⟩,hi,hl'⟩ S'
 ·have W:=toU (WalksT.enumerate (prog:=prog) (w:=w) hA (s.heap.objs.size+1) s.heap.objs.size d (Nat.succ_ne_self _) hle hli vs.toArray)
  rw[List.size_toArray] at W
  exact cD W fun i v ⟨t,x,e1,e2⟩=>⟨t,x,by simpa using e1,e2⟩
 ·rintro i h ⟨⟨old,q⟩,⟨o,e,_⟩,_⟩ b hb'
  rcases List.mem_cons.mp hb' with rfl | hb'
  ·exact cY q
  ·rw[List.mem_singleton] at hb';subst hb'
   exact⟨o,e⟩
 ·intro b hb' hn
  rcases List.mem_cons.mp hb' with rfl | hb'
  ·exact absurd (.head _) hn
  ·rcases List.mem_cons.mp hb' with rfl | hb'
   ·exact absurd (.tail _ (.head _)) hn
   ·rw[List.mem_singleton] at hb';subst hb'
    exact .inl ⟨_,.head _⟩
theorem ic{A:Around}{s:Shared}(x y:Str)(t u:Tok):EqAt A s (.str x t) (.str y u) (x == y):=fun prog w E Q hq=>eqBool_str hq
theorem iz(xs ys:List (Str×Tok))(hl:xs.length=ys.length):((List.range xs.length).all fun j=>(xs.map (·.1))[j]? == (ys.map (·.1))[j]?)=decide (xs.map (·.1)=ys.map (·.1)):=by
 by_cases h:xs.map (·.1)=ys.map (·.1)
 ·rw[decide_eq_true h,h]
  simp
 ·rw[decide_eq_false h]
  rw[List.all_eq_false]
  refine Classical.byContradiction fun hc=>h ?_
  apply List.ext_getElem?
  intro j
  by_cases hj:j<xs.length
  ·refine Classical.byContradiction fun hne=>hc ⟨j,List.mem_range.mpr hj,?_⟩
   intro q
   exact hne (eq_of_beq q)
  ·rw[List.getElem?_eq_none (by simp;exact z0c hj),List.getElem?_eq_none (by simp;exact zaz hl hj)]
section
variable{xs ys:List (Str×Tok)}
theorem i8(hl:xs.length=ys.length):∀ j (h1:j<(xs.map aj).toArray.size) (h2:j<(ys.map aj).toArray.size),EqAt A.in1 s (xs.map aj).toArray[j] (ys.map aj).toArray[j] ((xs.map (·.1))[j]? == (ys.map (·.1))[j]?):=by
 intro j h1 h2
 have h1':j<xs.length:=by simpa using h1
 have h2':j<ys.length:=by simpa using h2
 have e1:(xs.map aj).toArray[j]=aj xs[j]:=by simp
 have e2:(ys.map aj).toArray[j]=aj ys[j]:=by simp
 have e3:((xs.map (·.1))[j]? == (ys.map (·.1))[j]?)=(xs[j].1 == ys[j].1):=by
  rw[List.getElem?_map,List.getElem?_map,List.getElem?_eq_getElem h1',List.getElem?_eq_getElem h2']
  rfl
 rw[e1,e2,e3]
 exact ic _ _ _ _
theorem jp(hl1:s.heap.IsList a (xs.map aj).toArray)(hl2:s.heap.IsList d (ys.map aj).toArray)(hu:A.units<cLine):RcAt A s (.ref a) (.ref d) (decide (xs.map (·.1)=ys.map (·.1))):=by
 by_cases hl:xs.length=ys.length
 ·have:=RcAt.lists (e:=fun j=>(xs.map (·.1))[j]? == (ys.map (·.1))[j]?) hl1 hl2 (by simpa using hl) hu (i8 hl)
  rw[List.size_toArray,List.length_map,iz xs ys hl] at this
  exact this
 ·have:=RcAt.lists_lengths (A:=A) (s:=s) hl1 hl2 (by simpa using hl) hu
  rw[decide_eq_false (fun q=>hl (by simpa using congrArg List.length q))]
  exact this
theorem dH{Q:VP}(hl1:s.heap.IsList a (xs.map aj).toArray)(hl2:s.heap.IsList d (ys.map aj).toArray)(hu:A.units<cLine)(h:Q (.bool (!decide (xs.map (·.1)=ys.map (·.1)))) s):wpAny (model prog w) A (compareOp .NotEq (.ref a) (.ref d)) Q E s:=by
 by_cases hl:xs.length=ys.length
 ·have:=RcNeAt.lists (e:=fun j=>(xs.map (·.1))[j]? == (ys.map (·.1))[j]?) hl1 hl2 (by simpa using hl) hu (i8 hl)
  rw[List.size_toArray,List.length_map,iz xs ys hl] at this
  exact this prog w E Q h
 ·have:=RcNeAt.lists_lengths (A:=A) (s:=s) hl1 hl2 (by simpa using hl) hu
  rw[decide_eq_false (fun q=>hl (by simpa using congrArg List.length q))] at h
  exact this prog w E Q h
theorem iE{x:Str}{t:Tok}{Q:VP}(S:St hb tabs L l T s.heap)(hm:(d,ae (xs.map aj) n)∈T)(h:Q (.int ((xs.countP fun p=>p.1 == x:Nat):Int) s.toks) (wt s (s.toks+1))) :
  wpAny (model prog w) A (call (.builtin "list.count") [.ref d,.str x t]) Q E s:=by
 have ho:=S.obj _ hm
 refine call_meets PySem.F.slot_list_count ⟨_,ho,rfl⟩ PySem.F.entry_list_count (PySem.F.args_list_count_2 _ _) (list_countAt d (xs.map aj).toArray n none #[] (.str x t) (fun v=>match v with | .str y _=>y == x | _=>false)) ⟨ho,?_,?_⟩
 ·intro y hy
  obtain⟨p,hp,rfl⟩:∃ p∈xs,aj p=y:=by simpa using hy
  exact ic _ _ _ _
 ·have e:(xs.map aj).toArray.toList.countP (fun v=>match v with | .str y _=>y == x | _=>false)=xs.countP fun p=>p.1 == x:=by
   show (xs.map aj).countP _=_
   rw[List.countP_map]
   rfl
  rw[e]
  exact h
end
end
end
section
open PySem.Spec PySem.SeqAt PySem.Builtin.Str
def WRD:Str:=Str.ofString "abcdefghi"
def cutW(k:Nat):Str:=⟨(WRD.cps.toList.take k).toArray⟩
def gL(k:Nat):Str:=⟨(WRD.cps.toList.drop k).toArray⟩
def zW(p:Nat):Str:=⟨(WRD.cps.toList.take p++122::WRD.cps.toList.drop (p+1)).toArray⟩
theorem j9:∀ k:Fin 9,((strSliceIndices none (some ((k.val:Nat):Int)) 1 9).length == 9)=false∧((strSliceIndices none (some ((k.val:Nat):Int)) 1 9).filterMap (WRD.cps[·]?)).toArray=(cutW k.val).cps:=by decide +kernel
theorem iP:∀ k:Fin 9,((strSliceIndices (some ((k.val:Nat)+1:Int)) none 1 9).length == 9)=false∧((strSliceIndices (some ((k.val:Nat)+1:Int)) none 1 9).filterMap (WRD.cps[·]?)).toArray=(gL (k.val+1)).cps:=by decide +kernel
theorem k8{k:Nat}(hk:k<9)(t u:Tok):sliceMade WRD t none (some ((k:Int),u)) none=.str (cutW k):=by
 have h:=j9 ⟨k,hk⟩
 unfold sliceMade slicePicked
 have e1:WRD.length=9:=by decide +kernel
 simp only[Option.map_some,Option.map_none,Option.getD_none,e1]
 rw[h.1,h.2]
 rfl
theorem jR{k:Nat}(hk:k<9)(t u:Tok):sliceMade WRD t (some ((k:Int)+1,u)) none none=.str (gL (k+1)):=by
 have h:=iP ⟨k,hk⟩
 unfold sliceMade slicePicked
 have e1:WRD.length=9:=by decide +kernel
 simp only[Option.map_some,Option.map_none,Option.getD_none,e1]
 rw[h.1,h.2]
 rfl
theorem fw:∀ k:Fin 10,(cutW k.val).length=k.val∧(gL k.val).length=9 - k.val:=by decide +kernel
section
variable{prog:Program}{w:World}{A:Around}{E:VP}{s:Shared}{hb:Heap}{tabs:List Addr}{env:Env}{p pos:Pos}{value e:Expr}{Q:VP}
theorem mK(h:wpAny (model prog w) A (eval value env) (fun o s₁=>wpAny (model prog w) A (eval e env) (fun vu s_2=>Ex5 fun t L l T tk=>∃ k:Nat,An5 (o=.str WRD t) (vu=.int (k:Int) tk) (k<9) (St hb tabs L l T s_2.heap) (∀ (s':Shared) (t':Nat),Kp s_2 s'→s_2.toks≤t'→t'<s'.toks→St hb tabs L l T s'.heap→Q (.str (cutW k) t') s')) E s₁) E s)(ht:∀ o r,letTemporaryGo value o r=pure ():=by intro _ _;rfl) :
  wpAny (model prog w) A (eval (.Subscript value (.Slice none (some e) none p) pos) env) Q E s:=by
 refine wpAny_Subscript_str_slice (wpAny_mono h (fun o s₁ h_1=>?_) fun _ _ e=>e) ht
 rw[evalPart_none]
 refine wpAny_pure ?_
 rw[evalPart_some]
 refine wpAny_mono h_1 (fun vu s_2 h_2=>?_) fun _ _ e=>e
 obtain⟨t,L,l,T,tk,k,rfl,rfl,hk,S,hQ⟩:=h_2
 refine⟨WRD,t,none,some ((k:Int),tk),rfl,rfl,rfl,?_⟩
 rw[k8 hk]
 have hl:=(fw ⟨k,by exact z3f hk⟩).1
 dsimp only at hl
 refine⟨by rw[hl,sizeLine_eq];exact ul 16777207 hk,?_⟩
 exact hQ _ _ ⟨rfl,id⟩ (Nat.le_refl _) (Nat.lt_succ_self _) ((S.push _).sub (List.sublist_cons_self _ _))
theorem ph(h:wpAny (model prog w) A (eval value env) (fun o s₁=>wpAny (model prog w) A (eval e env) (fun vl s_2=>Ex5 fun t L l T tk=>∃ k:Nat,An5 (o=.str WRD t) (vl=.int ((k:Int)+1) tk) (k<9) (St hb tabs L l T s_2.heap) (∀ (s':Shared) (t':Nat),Kp s_2 s'→s_2.toks≤t'→t'<s'.toks→St hb tabs L l T s'.heap→Q (.str (gL (k+1)) t') s')) E s₁) E s)(ht:∀ o r,letTemporaryGo value o r=pure ():=by intro _ _;rfl) :
  wpAny (model prog w) A (eval (.Subscript value (.Slice (some e) none none p) pos) env) Q E s:=by
 refine wpAny_Subscript_str_slice (wpAny_mono h (fun o s₁ h_1=>?_) fun _ _ e=>e) ht
 rw[evalPart_some]
 refine wpAny_mono h_1 (fun vl s_2 h_2=>?_) fun _ _ e=>e
 rw[evalPart_none]
 refine wpAny_pure ?_
 obtain⟨t,L,l,T,tk,k,rfl,rfl,hk,S,hQ⟩:=h_2
 refine⟨WRD,t,some ((k:Int)+1,tk),none,rfl,rfl,rfl,?_⟩
 rw[jR hk]
 have hl:=(fw ⟨k+1,by exact z3e hk⟩).2
 dsimp only at hl
 refine⟨by rw[hl,sizeLine_eq];exact z3g,?_⟩
 exact hQ _ _ ⟨rfl,id⟩ (Nat.le_refl _) (Nat.lt_succ_self _) ((S.push _).sub (List.sublist_cons_self _ _))
theorem r_zW{x:Nat}(hp:x<9){t1 t2:Nat}{Q:VP}{L:Addr}{l:List (Str×Value)}{T:List (Addr×Obj)}(S:St hb tabs L l T s.heap)(h:∀ (s':Shared) (t:Nat),Kp s s'→(t=t2∨s.toks≤t∧t<s'.toks)→s.toks≤s'.toks→St hb tabs L l T s'.heap→Q (.str ⟨(WRD.cps.toList.take x++[122]).toArray⟩ t) s') :
  wpAny (model prog w) A (binaryOp .Add (.str (cutW x) t1) (.str (Str.ofString "z") t2)) Q E s:=by
 have hz:(Str.ofString "z").length=1:=by decide +kernel
 have hl:=(fw ⟨x,by exact z3f hp⟩).1
 dsimp only at hl
 refine PySem.P.add_str ?_
 by_cases h0:x=0
 ·subst h0
  rw[if_pos (by rw[hl];rfl)]
  have e:(Str.ofString "z")=⟨(WRD.cps.toList.take 0++[122]).toArray⟩:=by decide +kernel
  show Q (.str (Str.ofString "z") t2) s
  rw[e]
  exact h s t2 Kp.refl (.inl rfl) (Nat.le_refl _) S
 ·rw[if_neg (by rw[hl];simpa using h0),if_neg (by rw[hz];decide)]
  have e:(cutW x++Str.ofString "z")=⟨(WRD.cps.toList.take x++[122]).toArray⟩:=by
   have:∀ k:Fin 9,(cutW k.val++Str.ofString "z")=⟨(WRD.cps.toList.take k.val++[122]).toArray⟩:=by decide +kernel
   exact this ⟨x,hp⟩
  rw[e]
  refine⟨?_,h _ _ ⟨rfl,id⟩ (.inr ⟨Nat.le_refl _,Nat.lt_succ_self _⟩) (Nat.le_succ _) S⟩
  have:∀ k:Fin 9,(Str.mk (WRD.cps.toList.take k.val++[122]).toArray).length≤10:=by decide +kernel
  have:=this ⟨x,hp⟩
  dsimp only at this
  rw[sizeLine_eq];exact up 16777206 this
theorem r_zW2{x:Nat}(hp:x<9){t1 t2:Nat}{Q:VP}{L:Addr}{l:List (Str×Value)}{T:List (Addr×Obj)}(S:St hb tabs L l T s.heap)(h:∀ (s':Shared) (t:Nat),Kp s s'→(t=t1∨s.toks≤t∧t<s'.toks)→s.toks≤s'.toks→St hb tabs L l T s'.heap→Q (.str (zW x) t) s') :
  wpAny (model prog w) A (binaryOp .Add (.str ⟨(WRD.cps.toList.take x++[122]).toArray⟩ t1) (.str (gL (x+1)) t2)) Q E s:=by
 have hl:=(fw ⟨x+1,by exact z3e hp⟩).2
 dsimp only at hl
 have h1:((Str.mk (WRD.cps.toList.take x++[122]).toArray).length == 0)=false:=by
  have:∀ k:Fin 9,((Str.mk (WRD.cps.toList.take k.val++[122]).toArray).length == 0)=false:=by decide +kernel
  exact this ⟨x,hp⟩
 have e:((Str.mk (WRD.cps.toList.take x++[122]).toArray)++gL (x+1))=zW x:=by
  have:∀ k:Fin 9,((Str.mk (WRD.cps.toList.take k.val++[122]).toArray)++gL (k.val+1))=zW k.val:=by decide +kernel
  exact this ⟨x,hp⟩
 refine PySem.P.add_str ?_
 rw[if_neg (by rw[h1];decide)]
 by_cases h8:x=8
 ·subst h8
  rw[if_pos (by rw[hl];rfl)]
  have e2:(Str.mk (WRD.cps.toList.take 8++[122]).toArray)=zW 8:=by decide +kernel
  show Q (.str _ t1) s
  rw[e2]
  exact h s t1 Kp.refl (.inl rfl) (Nat.le_refl _) S
 ·rw[if_neg (by rw[hl];simp;exact z3j hp h8),e]
  refine⟨?_,h _ _ ⟨rfl,id⟩ (.inr ⟨Nat.le_refl _,Nat.lt_succ_self _⟩) (Nat.le_succ _) S⟩
  have:∀ k:Fin 9,(zW k.val).length≤10:=by decide +kernel
  have:=this ⟨x,hp⟩
  dsimp only at this
  rw[sizeLine_eq];exact up 16777206 this
end
end
section
open PySem.Spec
structure Nr where
 a:Addr
 x:Str×Tok
 b:Nat
 bt:Tok
 c:Nat
 ct:Tok
abbrev Nr.vs(e:Nr):List Value:=[aj e.x,.int (e.b:Int) e.bt,.int (e.c:Int) e.ct]
def bf(ns:List Nr):List Value:=ns.map fun e=>.ref e.a
def n8(T:List (Addr×Obj))(ns:List Nr):Prop:=∀ e∈ns,(e.a,au e.vs)∈T
theorem bp(l:List Nr):(bf l).length=l.length:=by simp[bf]
def lQ(i:Nat):Str×Nat×Nat:=(cutW (7 - i),14 - 2 * i,16 - i)
def kW(p:Nat):List (Str×Nat×Nat):=[(WRD,18,18),(cutW 8,16,17),(zW p,16,18)]
def b8(p:Nat):List (Str×Nat×Nat):=kW p++(List.range 7).map lQ
abbrev Nr.k(e:Nr):Str×Nat×Nat:=(e.x.1,e.b,e.c)
abbrev Nr.t(e:Nr):Nat:=e.x.2
structure NTk(t0 t1:Nat)(ns:List Nr):Prop where
 tok:∀ e∈ns,(e.t=741∧e.x.1=WRD)∨(t0≤e.t∧e.t<t1)
 inj:ns.Pairwise fun a b=>a.t<b.t
theorem cast2{P:Int→Int→Prop}{a b a' b':Int}(h:P a b)(e1:a=a')(e2:b=b'):P a' b':=by subst e1;subst e2;exact h
section
variable{w:World}{A:Around}{E:VP}{s:Shared}{hb:Heap}{L:Addr}{T:List (Addr×Obj)}{l:List (Str×Value)}{R:Result→Shared→Prop}{x:Nat}{tp:Tok}
theorem qN(G:Gd (KN w.params) tabs hb)(S:St hb tabs L l T s.heap)(hd:A.depth+10<recursionLimit)(hh:A.handled=none)(hx:x<9)(htk:776≤s.toks)
  (k:∀ (s':Shared) (X:List (Addr×Obj)) (r:Addr) (nr:Nat) (ns:List Nr),Kp s s'→St hb tabs L l ((r,ae (bf ns) nr)::(X++T)) s'.heap→n8 X ns→ns.map Nr.k=b8 x→NTk s.toks s'.toks ns→R (.ok (.ret (.ref r))) s') :
  codeAny (model pw w) A (.call (.ref 294) ⟨[.int (x:Int) tp],[]⟩) R s:=by
 refine cc G S (lk294 _) (by exact dn 10 hd) (binds:=[(Str.ofString "place", .int (x:Int) tp)]) (body:=ao (st1 pw 14)) (BindsTo.of_eq (by kernel_rfl)) ?_
 intro L' h_1 oL r S_1
 have htk0:s.toks≤(s.toks+[(Str.ofString "place", Value.int (x:Int) tp)].length):=Nat.le_add_right _ _
 refine bD (by exact S_1) fun s₁ K1 hk_1 S_1=>?_
 replace K1:Kp s s₁:=⟨K1.os,K1.gens⟩
 replace hk_1:s.toks≤s₁.toks:=Nat.le_trans htk0 hk_1
 refine ak ?_
 refine wpAny_with_toks hk_1 ?_
 refine bc ?_
 refine args_cons ?_
 refine aX ?_
 refine args_cons ?_
 refine aq G S_1 (v:=.str WRD 741) (by kernel_rfl) ?_
 refine args_cons ?_
 refine wpAny_Constant_int ?_
 refine args_cons ?_
 refine wpAny_Constant_int ?_
 refine args_nil ?_
 refine⟨rfl,_,_,_,_,_,S_1,?_⟩
 intro a1 h_2 S_2
 refine args_cons ?_
 refine aX ?_
 refine args_cons ?_
 refine mK (hb:=hb) (tabs:=tabs) ?_
 refine aq G S_2 (v:=.str WRD 741) (by kernel_rfl) ?_
 refine wpAny_Constant_int ?_
 refine⟨741,_,_,_,_,8,rfl,rfl,by decide,S_2,?_⟩
 intro s3 t2 K3 hl_3 hu3 S_3
 replace K3:Kp s s3:=⟨K3.os.trans K1.os,fun z=>K3.gens (K1.gens z)⟩
 replace hl_3:s₁.toks≤t2:=by simp only at hl_3;exact z3l hl_3
 refine args_cons ?_
 refine wpAny_Constant_int ?_
 refine args_cons ?_
 refine wpAny_Constant_int ?_
 refine args_nil ?_
 refine⟨rfl,_,_,_,_,_,S_3,?_⟩
 intro a2 h_4 S4
 refine args_cons ?_
 refine aX ?_
 refine args_cons ?_
 refine wpAny_BinOp ?_
 refine wpAny_BinOp ?_
 refine mK (hb:=hb) (tabs:=tabs) ?_
 refine aq G S4 (v:=.str WRD 741) (by kernel_rfl) ?_
 refine ac S4 m0 ?_
 refine⟨741,_,_,_,_,x,rfl,rfl,hx,S4,?_⟩
 intro s5 t3 K5 hl5 hu5 S5
 replace K5:Kp s s5:=⟨K5.os.trans K3.os,fun z=>K5.gens (K3.gens z)⟩
 replace hl5:s3.toks≤t3:=by simp only at hl5;exact z3m hl5
 refine wpAny_Constant_str ?_
 refine r_zW hx (by exact S5) ?_
 intro s6 t4 K6 ht_6 hu6 S6
 replace K6:Kp s s6:=⟨K6.os.trans K5.os,fun z=>K6.gens (K5.gens z)⟩
 have ht4:s5.toks≤t4∧t4<s6.toks:=by
  simp only at hu6
  rcases ht_6 with rfl | ⟨h1,h2⟩
  ·exact⟨Nat.le_refl _,hu6⟩
  ·simp only at h1
   exact⟨by exact z1f h1,h2⟩
 refine ph (hb:=hb) (tabs:=tabs) ?_
 refine aq G S6 (v:=.str WRD 741) (by kernel_rfl) ?_
 refine wpAny_BinOp ?_
 refine ac S6 m0 ?_
 refine wpAny_Constant_int ?_
 refine P.add_int ?_
 refine⟨741,_,_,_,_,x,rfl,rfl,hx,S6,?_⟩
 intro s7 t5 K7 hl7 hu7 S7
 replace K7:Kp s s7:=⟨K7.os.trans K6.os,fun z=>K7.gens (K6.gens z)⟩
 replace hl7:s6.toks≤t5:=by simp only at hl7;exact z3m hl7
 refine r_zW2 hx (by exact S7) ?_
 intro s8 t6 K8 ht8 hu8 S8
 replace K8:Kp s s8:=⟨K8.os.trans K7.os,fun z=>K8.gens (K7.gens z)⟩
 have ht6:s5.toks≤t6∧t6<s8.toks:=by
  rcases ht8 with rfl | ⟨h1,h2⟩
  ·exact⟨ht4.1,by exact z3n hu7 hl7 hu8 ht4.2⟩
  ·exact⟨by exact z3o hu6 hu7 hl7 h1,h2⟩
 refine args_cons ?_
 refine wpAny_Constant_int ?_
 refine args_cons ?_
 refine wpAny_Constant_int ?_
 refine args_nil ?_
 refine⟨rfl,_,_,_,_,_,S8,?_⟩
 intro a3 h_9 S9
 refine args_nil ?_
 refine⟨rfl,_,_,_,_,_,S9,?_⟩
 intro fo h_10 S10 htk10
 have htk11:s8.toks≤s8.toks+1+1:=by exact z3p
 refine af S10 (.new (by kernel_rfl)) ?_
 intro h_11 S11
 refine bD (by exact S11) fun s12 K12 hk12 S12=>?_
 replace K12:Kp s s12:=⟨K12.os.trans K8.os,fun z=>K12.gens (K8.gens z)⟩
 have hk12':s8.toks≤s12.toks:=by simp only at hk12;exact z3l hk12
 obtain⟨ns,hns⟩:∃ ns:List Nr,ns=[⟨a1,(WRD,741),18,s₁.toks,18,s₁.toks+1⟩,⟨a2,(cutW 8,t2),16,s3.toks,17,s3.toks+1⟩,⟨a3,(zW x,t6),16,s8.toks,18,s8.toks+1⟩]:=⟨_,rfl⟩
 have hN:NTk s.toks s12.toks ns:=by
  rw[hns]
  refine⟨fun e he=>?_,?_⟩
  ·rcases List.mem_cons.mp he with rfl | he
   ·exact .inl ⟨rfl,rfl⟩
   ·rcases List.mem_cons.mp he with rfl | he
    ·exact .inr ⟨by show s.toks≤t2;exact z3q hk_1 hl_3,by show t2<s12.toks;exact z3r hu3 hu5 hl5 hu6 hu7 hl7 hu8 hk12⟩
    ·rw[List.mem_singleton] at he;subst he
     exact .inr ⟨by show s.toks≤t6;exact z3s hk_1 hu3 hl_3 hu5 hl5 ht6.1,by show t6<s12.toks;exact z3t ht6.2 hk12⟩
  ·refine List.pairwise_cons.mpr ⟨fun e he=>?_,List.pairwise_cons.mpr ⟨fun e he=>?_,List.pairwise_singleton _ _⟩⟩
   ·rcases List.mem_cons.mp he with rfl | he
    ·show 741<t2;exact z3u htk hk_1 hl_3
    ·rw[List.mem_singleton] at he;subst he
     show 741<t6;exact z3v htk hk_1 hu3 hl_3 hu5 hl5 ht6.1
   ·rw[List.mem_singleton] at he;subst he
    show t2<t6;exact z3w hu3 hu5 hl5 ht6.1
 have S13:St hb tabs L' [(Str.ofString "found", .ref fo),(Str.ofString "place", .int (x:Int) tp)] ((fo,ae (bf ns) 0)::((a3,au [aj (zW x,t6),.int 16 s8.toks,.int 18 (s8.toks+1)])::(a2,au [aj (cutW 8,t2),.int 16 s3.toks,.int 17 (s3.toks+1)])::(a1,au [aj (WRD,741),.int 18 s₁.toks,.int 18 (s₁.toks+1)])::(L,oL)::T)) s12.heap:=by
  rw[hns];exact S12
 have hNr:n8 [(a3,au [aj (zW x,t6),.int 16 s8.toks,.int 18 (s8.toks+1)]),(a2,au [aj (cutW 8,t2),.int 16 s3.toks,.int 17 (s3.toks+1)]),(a1,au [aj (WRD,741),.int 18 s₁.toks,.int 18 (s₁.toks+1)])] ns:=by
  rw[hns]
  intro e he
  rcases List.mem_cons.mp he with rfl | he
  ·exact .tail _ (.tail _ (.head _))
  ·rcases List.mem_cons.mp he with rfl | he
   ·exact .tail _ (.head _)
   ·rw[List.mem_singleton] at he;subst he
    exact .head _
 have hnk:ns.map Nr.k=kW x:=by rw[hns];rfl
 have S14:St hb tabs L' [(Str.ofString "found", .ref fo),(Str.ofString "place", .int (x:Int) tp)] ((fo,ae (bf ns) 0)::([(a3,au [aj (zW x,t6),.int 16 s8.toks,.int 18 (s8.toks+1)]),(a2,au [aj (cutW 8,t2),.int 16 s3.toks,.int 17 (s3.toks+1)]),(a1,au [aj (WRD,741),.int 18 s₁.toks,.int 18 (s₁.toks+1)])]++((L,oL)::T))) s12.heap:=S13
 generalize [(a3,au [aj (zW x,t6),.int 16 s8.toks,.int 18 (s8.toks+1)]),(a2,au [aj (cutW 8,t2),.int 16 s3.toks,.int 17 (s3.toks+1)]),(a1,au [aj (WRD,741),.int 18 s₁.toks,.int 18 (s₁.toks+1)])]=X0 at S14 hNr
 clear S13 S12 S11 S10 S9 S8 S7 S6 S5 S4 S_3 S_2 S_1
 clear hns
 refine el ?_
 refine wpAny_with_toks (Nat.le_refl s12.toks) ?_
 refine ap ?_
 refine ai G S14 di ?_
 refine bb ?_
 refine args_cons ?_
 refine wpAny_Constant_int ?_
 refine args_cons ?_
 refine wpAny_Constant_int ?_
 refine args_nil ?_
 refine ju (by exact S14) ?_
 intro rg tg h15 tk15 S15 htk15
 refine jw S15 m0 (by decide) (by decide) (by decide) (by decide) ?_
 intro I o Wt fp h16 IV hw S16
 have S17:St hb tabs L' [(Str.ofString "found", .ref fo),(Str.ofString "place", .int (x:Int) tp)] (((fo,ae (bf ns) 0)::(X0++((L,oL)::T)))++[(I,o)]) h16:=S16.sub (List.sublist_cons_self _ _)
 refine gb (own:=[(I,o)]) (Ro:=[]) (IV.walks (A.deeper _) hh) (fun i h hi b hb'=>by rw[List.mem_singleton] at hb';subst hb';exact IV.ex i h hi) rfl IV.ro S17 hw
  (fun i tk l₁ T1=>Ex3 fun ns X c=>An7 (l₁=[(Str.ofString "found", .ref fo),(Str.ofString "place", .int (x:Int) tp)]) (T1=(fo,ae (bf ns) c)::(X++((L,oL)::T))) (n8 X ns) (ns.map Nr.k=kW x++(List.range i).map lQ) (NTk s.toks tk ns) (776≤tk) (s.toks≤tk)) ?hmono ?_ (fun p hp=>(by cases hp)) ?_ ?_
 case hmono =>
  rintro i tk tk' l T htk ⟨ns,X,c,h1,h2,h3,h4,h5,h6,h7⟩
  refine⟨ns,X,c,h1,h2,h3,h4,⟨fun e he=>?_,h5.inj⟩,Nat.le_trans h6 htk,Nat.le_trans h7 htk⟩
  rcases h5.tok e he with q | q
  ·exact .inl q
  ·exact .inr ⟨q.1,Nat.lt_of_lt_of_le q.2 htk⟩
 ·refine⟨ns,X0,0,rfl,rfl,hNr,by simp[hnk],⟨fun e he=>?_,hN.inj⟩,?_,?_⟩
  ·rcases hN.tok e he with q | q
   ·exact .inl q
   ·exact .inr ⟨q.1,Nat.lt_of_lt_of_le q.2 htk15⟩
  ·show 776≤tk15;simp only at htk15;exact z3x htk hk_1 hu3 hl_3 hu5 hl5 hu6 hu7 hl7 hu8 hk12 htk15
  ·show s.toks≤tk15;simp only at htk15;exact z3y hk_1 hu3 hl_3 hu5 hl5 hu6 hu7 hl7 hu8 hk12 htk15
 ·rintro E1 i v l₁ T1 own1 s₁ hi ⟨ti,hv⟩ ⟨ns,X,c,rfl,rfl,hX,hk,hT,h776,hst⟩ S_2 hRo hKp
  replace hi:i<7:=hi
  replace h776:776≤s₁.toks:=h776
  replace hst:s.toks≤s₁.toks:=hst
  have hlen:ns.length=3+i:=by
   have:=congrArg List.length hk
   simp[kW] at this
   exact z3z this
  subst hv
  refine aT ?_
  refine af S_2 (.new (by kernel_rfl)) ?_
  intro h_3 S_3
  refine aZ ?_
  refine aC ?_
  refine ac S_3 m1 ?_
  refine ba S_3 m0 PySem.F.slot_list_append type_list_append ?_
  refine ag ?_
  refine args_cons ?_
  refine aX ?_
  refine args_cons ?_
  refine mK (hb:=hb) (tabs:=tabs) ?_
  refine aq G S_3 (v:=.str WRD 741) (by kernel_rfl) ?_
  refine wpAny_BinOp ?_
  refine wpAny_Constant_int ?_
  refine ac S_3 m0 ?_
  refine P.sub_int ?_
  refine⟨741,_,_,_,_,7 - i,rfl,by congr 1;exact z40 hi,by exact z41,S_3,?_⟩
  intro s4 t4 K4 hl4 hu4 S4
  replace hl4:s₁.toks≤t4:=by simp only at hl4;exact z3l hl4
  replace K4:Kp s₁ s4:=⟨K4.os,K4.gens⟩
  refine args_cons ?_
  refine wpAny_BinOp ?_
  refine wpAny_Constant_int ?_
  refine wpAny_BinOp ?_
  refine wpAny_Constant_int ?_
  refine ac S4 m0 ?_
  refine P.mul_int ?_ (IntMulOk.of_left (intBits_le_64 (by decide) (by decide)))
  refine P.sub_int ?_
  refine args_cons ?_
  refine wpAny_BinOp ?_
  refine wpAny_Constant_int ?_
  refine ac S4 m0 ?_
  refine P.sub_int ?_
  refine args_nil ?_
  refine⟨rfl,_,_,_,_,_,S4,?_⟩
  intro an h_5 S5
  refine args_nil ?_
  obtain⟨ta,tb,S6⟩:Ex2 fun ta tb=>St hb tabs L' ((Str.ofString "less", .int (2+(i:Int)) ti)::[(Str.ofString "found", .ref fo),(Str.ofString "place", .int (x:Int) tp)]) ((an,au [.str (cutW (7 - i)) t4,.int ((14 - 2 * i:Nat):Int) ta,.int ((16 - i:Nat):Int) tb])::((fo,ae (bf ns) c)::(X++((L,oL)::T))++own1)) h_5 :=
   ⟨_,_,cast2 (P:=fun u v=>St hb tabs L' ((Str.ofString "less", .int (2+(i:Int)) ti)::[(Str.ofString "found", .ref fo),(Str.ofString "place", .int (x:Int) tp)]) ((an,au [.str (cutW (7 - i)) t4,.int u _,.int v _])::((fo,ae (bf ns) c)::(X++((L,oL)::T))++own1)) h_5) S5 (by exact z42 hi) (by exact z43 hi)⟩
  have hu4':s4.toks≤s4.toks+1+1+1+1+1+1:=by exact z44
  refine aW 1 S6 rfl ?_ (by rw[bp];exact z45 hi hlen)
  intro h_7 S7
  have e3:bf ns++[.ref an]=bf (ns++[⟨an,(cutW (7 - i),t4),14 - 2 * i,ta,16 - i,tb⟩]):=by simp[bf]
  have S8:St hb tabs L' [(Str.ofString "found", .ref fo),(Str.ofString "place", .int (x:Int) tp)] (((fo,ae (bf (ns++[⟨an,(cutW (7 - i),t4),14 - 2 * i,ta,16 - i,tb⟩])) (c+1))::(((an,au [.str (cutW (7 - i)) t4,.int ((14 - 2 * i:Nat):Int) ta,.int ((16 - i:Nat):Int) tb])::X)++((L,oL)::T)))++own1) h_7:=by
   rw[← e3]
   exact ((S7.forget (List.sublist_cons_self _ _)).perm (List.Perm.swap _ _ _))
  refine bD (by exact S8) fun s9 K9 hk9 S9=>?_
  replace K9:Kp s₁ s9:=⟨K9.os.trans K4.os,fun z=>K9.gens (K4.gens z)⟩
  have hu9:s4.toks≤s9.toks:=by simp only at hk9;exact z46 hk9
  refine ax ?_
  refine⟨_,_,S9,⟨ns++[⟨an,(cutW (7 - i),t4),14 - 2 * i,ta,16 - i,tb⟩],(an,au [.str (cutW (7 - i)) t4,.int ((14 - 2 * i:Nat):Int) ta,.int ((16 - i:Nat):Int) tb])::X,c+1,rfl,rfl,?_,?_,⟨?_,?_⟩,?_,?_⟩,(fun p hp=>(by cases hp)),?_⟩
  ·intro e he
   rcases List.mem_append.mp he with q | q
   ·exact .tail _ (hX e q)
   ·rw[List.mem_singleton] at q;subst q
    exact .head _
  ·rw[List.map_append,hk,List.range_succ,List.map_append,List.append_assoc]
   rfl
  ·intro e he
   rcases List.mem_append.mp he with q | q
   ·rcases hT.tok e q with q | q
    ·exact .inl q
    ·exact .inr ⟨q.1,by have:=q.2;exact z47 hu4 hl4 hk9 q.2⟩
   ·rw[List.mem_singleton] at q;subst q
    exact .inr ⟨by show s.toks≤t4;exact z3q hst hl4,by show t4<s9.toks;exact z48 hu4 hk9⟩
  ·rw[List.pairwise_append]
   refine⟨hT.inj,List.pairwise_singleton _ _,fun a ha b hb=>?_⟩
   rw[List.mem_singleton] at hb;subst hb
   show a.t<t4
   rcases hT.tok a ha with q | q
   ·have h1:a.t=741:=q.1
    have h2:741<t4:=by exact z49 h776 hl4
    rw[h1];exact h2
   ·exact Nat.lt_of_lt_of_le q.2 hl4
  ·show 776≤s9.toks;exact z4a h776 hu4 hl4 hk9
  ·show s.toks≤s9.toks;exact z4b hst hu4 hl4 hk9
  ·exact⟨K9.os.trans hKp.os,fun z=>K9.gens (hKp.gens z)⟩
 ·rintro s' l' T' hKp S_2 ⟨ns,X,c,rfl,rfl,hX,hk,hT,h776,hst⟩ hRo
  refine b7 ?_
  refine ac S_2 m0 ?_
  have S_3:=(S_2.perm (T':=(L,oL)::(fo,ae (bf ns) c)::(X++T)) (List.perm_middle (l₁:=(fo,ae (bf ns) c)::X))).leave 0 rfl r
  exact k s' X fo c ns ⟨hKp.os.trans K12.os,fun z=>hKp.gens (K12.gens z)⟩ (by exact S_3) hX hk hT
end
end
section
open PySem.Spec
structure Scr(hb:Heap)(sc:Addr)(scv:List Value):Prop where
 obj:Ex2 fun o n=>An3 (hb.get? sc=some o) (o.cls=.type "list") (o.data=.seq scv.toArray n)
 nt:sc∉tabs
 isInts:∀ v∈scv,Ex2 fun i t=>v=.int i t
 small:scv.length≤63
theorem Scr.isList{hb:Heap}{sc:Addr}{scv:List Value}(H:Scr hb sc scv){L:Addr}{l:List (Str×Value)}{T:List (Addr×Obj)}{h:Heap}(S:St hb tabs L l T h):h.IsList sc scv.toArray:=by
 obtain⟨o,n,a,b,c⟩:=H.obj
 exact⟨o,S.old a H.nt,b,n,c⟩
theorem dU{M:Model}{A:Around}{E:VP}{s:Shared}{env:Env}{hb:Heap}{tabs:List Addr}{L:Addr}{l:List (Str×Value)}{T:List (Addr×Obj)}{i:Int}{k:Nat}{pos:Pos}{Q:VP}(S:St hb tabs L l T s.heap)
  (h:∀ (s':Shared) (t:Tok),Kp s s'→s.toks≤s'.toks→St hb tabs L l T s'.heap→Q (.int i t) s'):wpAny M A (eval (.Constant (.int i) k pos) env) Q E s :=
 wpAny_Constant_int (h _ _ ⟨rfl,id⟩ (Nat.le_succ _) S)
theorem ints8(a b c d e f g h:Int)(t1 t2 t3 t4 t5 t6 t7 t8:Tok):∀ v∈[Value.int a t1,.int b t2,.int c t3,.int d t4,.int e t5,.int f t6,.int g t7,.int h t8],Ex2 fun i t=>v=Value.int i t:=by
 intro v hv
 simp at hv
 rcases hv with rfl | rfl | rfl | rfl | rfl | rfl | rfl | rfl<;> exact⟨_,_,rfl⟩
section
variable{w:World}{A:Around}{E:VP}{s:Shared}{hb:Heap}{L sc wds:Addr}{T:List (Addr×Obj)}{l:List (Str×Value)}{R:Result→Shared→Prop}{scv:List Value}{ws:List (Str×Tok)}{nw:Nat}
theorem qY(G:Gd (KN w.params) tabs hb)(S:St hb tabs L l T s.heap)(hd:A.depth+10<recursionLimit)(hu:A.units+100<cLine)(hh:A.handled=none)(H:Scr hb sc scv)(hw:(wds,ae (ws.map aj) nw)∈T)(hl:ws.length≤60)
  (k:∀ (s':Shared) (X:List (Addr×Obj)) (r:Addr) (nr:Nat) (row:List (Str×Tok)),Kp s s'→St hb tabs L l ((r,ae (row.map aj) nr)::(X++T)) s'.heap→row.Perm ws→R (.ok (.ret (.ref r))) s') :
  codeAny (model pw w) A (.call (.ref 301) ⟨[.ref sc,.ref wds],[]⟩) R s:=by
 refine cc G S (lk301 _) (by exact dn 10 hd) (binds:=[(Str.ofString "script", .ref sc),(Str.ofString "words", .ref wds)]) (body:=ao (st1 pw 15)) (BindsTo.of_eq (by kernel_rfl)) ?_
 intro L' h_1 oL r S_1
 refine ak ?_
 refine bc ?_
 refine args_nil ?_
 refine⟨rfl,_,_,_,_,_,S_1,?_⟩
 intro fo h_2 S_2
 refine af S_2 (.new (by kernel_rfl)) ?_
 intro h_3 S_3
 refine az (by exact S_3) fun s3 K3 S_3=>?_
 replace K3:Kp s s3:=⟨K3.os,K3.gens⟩
 refine ak ?_
 refine wpAny_BinOp ?_
 refine ap ?_
 refine ai G S_3 (v:=.type "list") (by kernel_rfl) ?_
 refine bb ?_
 refine args_cons ?_
 refine dO (hb:=hb) (tabs:=tabs) ?_
 refine ac S_3 m1 ?_
 refine wpAny_Constant_int ?_
 refine⟨_,_,_,sc,8,_,scv,rfl,rfl,S_3,H.isList S_3,by have:=H.small;exact up 937 this,?_⟩
 intro D4 X4 h_4 S4
 refine args_nil ?_
 refine eS (vs:=scv.take 8) (n:=0) S4 (.inl rfl) (S4.obj _ m0) rfl rfl (by rw[List.length_take];exact z4d) ?_
 intro D5 c_5 h_5 S5
 refine az (by exact S5) fun s5 K5 S5=>?_
 replace K5:Kp s s5:=⟨K5.os.trans K3.os,fun z=>K5.gens (K3.gens z)⟩
 refine bc ?_
 refine args_cons ?_
 refine dU S5 ?_
 intro u0 t0 Ku0 _ Su0
 refine args_cons ?_
 refine dU Su0 ?_
 intro u1 t1 Ku1 _ Su1
 refine args_cons ?_
 refine dU Su1 ?_
 intro u2 t2 Ku2 _ Su2
 refine args_cons ?_
 refine dU Su2 ?_
 intro u3 t3 Ku3 _ Su3
 refine args_cons ?_
 refine dU Su3 ?_
 intro u4 t4 Ku4 _ Su4
 refine args_cons ?_
 refine dU Su4 ?_
 intro u5 t5 Ku5 _ Su5
 refine args_cons ?_
 refine dU Su5 ?_
 intro u6 t6 Ku6 _ Su6
 refine args_cons ?_
 refine dU Su6 ?_
 intro u7 t7 Ku7 _ Su7
 have Ku:Kp s u7:=K5.trans (Ku0.trans (Ku1.trans (Ku2.trans (Ku3.trans (Ku4.trans (Ku5.trans (Ku6.trans Ku7)))))))
 refine args_nil ?_
 refine⟨rfl,_,_,_,_,_,Su7,?_⟩
 intro D6 h_6 S6
 obtain⟨ks,S6,hkl,hki⟩:∃ ks:List Value,An3 (St hb tabs L' [(Str.ofString "found", .ref fo),(Str.ofString "script", .ref sc),(Str.ofString "words", .ref wds)] ((D6,ae ks 0)::(D5,ae (scv.take 8) c_5)::(D4,ae (scv.take 8) 0)::(X4++((fo,ae [] 0)::(L,oL)::T))) h_6) (ks.length=8) ((∀ v∈ks,Ex2 fun i t=>v=.int i t)):=by
  refine⟨_,S6,rfl,?_⟩
  exact ints8 _ _ _ _ _ _ _ _ _ _ _ _ _ _ _ _
 have htl:(scv.take 8).length≤8:=by rw[List.length_take];exact z4e
 refine dX (by exact S6) m1 m0 (by exact z4f hkl htl) ?_
 intro nb h_7 S7
 refine af S7 (.new (by kernel_rfl)) ?_
 intro h_8 S8
 have S8':=(S8.sub (List.Sublist.cons_cons _ (.cons _ (.cons _ (.cons _ (List.sublist_append_right X4 _)))))).perm (List.Perm.swap _ _ _)
 obtain⟨nvs,hnl,hni,S9⟩:∃ (nvs:List Value),An3 ((0<nvs.length∧nvs.length≤16)) ((∀ v∈nvs,Ex2 fun i t=>v=.int i t)) (St hb tabs L' [(Str.ofString "numbers", .ref nb),(Str.ofString "found", .ref fo),(Str.ofString "script", .ref sc),(Str.ofString "words", .ref wds)] ((fo,ae ([]:List Value) 0)::(nb,ae nvs 0)::(L,oL)::T) h_8):=by
  refine⟨scv.take 8++ks,?_,?_,S8'⟩
  ·rw[List.length_append,hkl];exact z4g htl
  ·intro v hv
   rcases List.mem_append.mp hv with q | q
   ·exact H.isInts v (List.mem_of_mem_take q)
   ·exact hki v q
 clear S8'
 clear S8 S7 S6 S5 S4 S_3 S_2 S_1
 refine az (by exact S9) fun s9 K9 S9=>?_
 replace K9:Kp s s9:=⟨K9.os.trans Ku.os,fun z=>K9.gens (Ku.gens z)⟩
 have hwm:(wds,ae (ws.map aj) nw)∈(fo,ae ([]:List Value) 0)::(nb,ae nvs 0)::(L,oL)::T:=.tail _ (.tail _ (.tail _ hw))
 refine el ?_
 refine ap ?_
 refine ai G S9 cC ?_
 refine bb ?_
 refine args_cons ?_
 refine ac S9 m3 ?_
 refine args_nil ?_
 refine mJ S9 hwm ?_
 intro I J o o' Wt Mid fp h_10 IU hW S10
 have hwsl:(ws.map aj).length=ws.length:=List.length_map ..
 refine (IU.walks (A.deeper _) hh).self 0 _ _ _ ?_ ?_
 ·exact hW
 refine ga (own:=[(I,o),(J,o')]) (Ro:=[(wds,ae (ws.map aj) nw)]) hh (IU.walks (A.deeper _) hh) IU.ex rfl IU.ro S10 hW
  (fun i l₁ T1=>l₁=[(Str.ofString "numbers", .ref nb),(Str.ofString "found", .ref fo),(Str.ofString "script", .ref sc),(Str.ofString "words", .ref wds)] ∧
   Ex2 fun (row:List (Str×Tok)) (c:Nat)=>T1=(fo,ae (row.map aj) c)::(nb,ae nvs 0)::(L,oL)::T∧row.Perm (ws.take i))
  ⟨rfl,[],0,rfl,by simp⟩ (fun p hp=>by rw[List.mem_singleton] at hp;subst hp;exact hwm) ?_ (by kernel_rfl) ?_ ?_
 ·rintro i vals ⟨t,y,-,rfl⟩
  rfl
 ·rintro E1 i vals l₁ T1 own1 s₁ hi ⟨t,y,hy,rfl⟩ ⟨rfl,row,c,rfl,hrow⟩ S_2 hRo hKp
  rw[hwsl] at hi
  have hrl:row.length=i:=by
   rw[hrow.length_eq,List.length_take];exact z4h hi
  have hy':y=aj ws[i]:=by
   have:(ws.map aj)[i]? = some (aj ws[i]):=by simp[hi]
   rw[this] at hy;exact (Option.some.inj hy).symm
  subst hy'
  refine aA ?_
  refine af S_2 (.new (by kernel_rfl)) ?_
  intro h_3 S_3
  refine aA ?_
  refine af S_3 (.new (by kernel_rfl)) ?_
  intro h_4 S4
  refine bx ?_
  refine az (by exact S4) fun s4 K4 S4=>?_
  replace K4:Kp s₁ s4:=⟨K4.os,K4.gens⟩
  refine ak ?_
  refine wpAny_BinOp ?_
  refine cA list_getitem_lookup ?_
  refine ac S4 m2 ?_
  refine wpAny_BinOp ?_
  refine ac S4 m1 ?_
  refine ap ?_
  refine ai G S4 boot_len ?_
  refine ag ?_
  refine args_cons ?_
  refine ac S4 m2 ?_
  refine args_nil ?_
  refine PyProof.Rows.len_list (items:=nvs.toArray) (S4.isList m1) (by rw[List.size_toArray];lia) ?_
  rw[List.size_toArray]
  refine mod_int' (by exact z4j hnl.1) ?_
  have hidx:i % nvs.length<nvs.length:=Nat.mod_lt _ hnl.1
  obtain⟨iv,it,hiv⟩:=hni nvs[i % nvs.length] (List.getElem_mem hidx)
  have e1:((i:Int)).fmod (nvs.length:Int)=((i % nvs.length:Nat):Int):=by
   rw[Int.fmod_eq_emod_of_nonneg _ (by exact z13)];exact (Int.natCast_emod _ _).symm
  rw[e1]
  refine⟨⟨_,S4.obj _ m1,rfl⟩,?_⟩
  refine bk (x:=.int iv it) (by exact S4) m1 (by exact up 984 hnl.2) (by rw[List.getElem?_eq_getElem hidx,hiv]) ?_
  refine ac (by exact S4) m1 ?_
  refine P.add_int ?_
  refine af (by exact S4) (.new (by kernel_rfl)) ?_
  intro h_5 S5
  refine az (by exact S5) fun s5 K5 S5=>?_
  replace K5:Kp s₁ s5:=⟨K5.os.trans K4.os,fun z=>K5.gens (K4.gens z)⟩
  refine aZ ?_
  refine aC ?_
  refine ac S5 m4 ?_
  refine ba S5 m0 PySem.F.slot_list_insert PySem.F.type_list_insert ?_
  refine ag ?_
  refine args_cons ?_
  refine wpAny_BinOp ?_
  refine ac S5 m0 ?_
  refine wpAny_BinOp ?_
  refine ap ?_
  refine ai G S5 boot_len ?_
  refine ag ?_
  refine args_cons ?_
  refine ac S5 m4 ?_
  refine args_nil ?_
  refine PyProof.Rows.len_list (items:=(row.map aj).toArray) (S5.isList m0) (by rw[List.size_toArray,List.length_map];lia) ?_
  rw[List.size_toArray,List.length_map]
  refine wpAny_Constant_int ?_
  refine P.add_int ?_
  refine mod_int' (by exact z4m) ?_
  obtain⟨x,hx⟩:∃ x,x=(iv+(i:Int)).fmod ((row.length:Int)+1):=⟨_,rfl⟩
  have hx2:x=(iv+(i:Int)) % ((row.length:Int)+1):=by rw[hx];exact Int.fmod_eq_emod_of_nonneg _ (by exact z4n)
  have hx0:0≤x:=by rw[hx2];exact Int.emod_nonneg _ (by exact z4m)
  have hx1:x<(row.length:Int)+1:=by rw[hx2];exact Int.emod_lt_of_pos _ (by exact z4o)
  rw[← hx]
  refine args_cons ?_
  refine ac (by exact S5) m1 ?_
  refine args_nil ?_
  refine kN 0 (by exact S5) rfl hx0 (by rw[List.length_map];exact z4p hx1) (by rw[List.length_map];exact z2n hl hi hrl) ?_
  intro h_6 c_6 S6
  refine ax ?_
  have e2:(row.map aj).take x.toNat++aj ws[i]::(row.map aj).drop x.toNat=(row.take x.toNat++ws[i]::row.drop x.toNat).map aj:=by simp[List.map_take,List.map_drop]
  have S7:St hb tabs L' [(Str.ofString "numbers", .ref nb),(Str.ofString "found", .ref fo),(Str.ofString "script", .ref sc),(Str.ofString "words", .ref wds)] (((fo,ae ((row.take x.toNat++ws[i]::row.drop x.toNat).map aj) c_6)::(nb,ae nvs 0)::(L,oL)::T)++own1) h_6:=by
   rw[← e2]
   exact S6.forget (.cons _ (.cons _ (.cons _ (List.Sublist.refl _))))
  refine⟨_,_,S7,⟨rfl,_,c_6,rfl,?_⟩,(fun p hp=>by rw[List.mem_singleton] at hp;subst hp;exact .tail _ (.tail _ (.tail _ hw))),⟨K5.os.trans hKp.os,fun z=>K5.gens (hKp.gens z)⟩⟩
  rw[List.take_add_one,List.getElem?_eq_getElem hi]
  refine List.perm_middle.trans ?_
  rw[List.take_append_drop]
  exact (List.Perm.cons _ hrow).trans (List.perm_append_comm (l₁:=[ws[i]]))
 ·rintro s' l' T' hKp S_2 ⟨rfl,row,c,rfl,hrow⟩ hRo
  rw[hwsl,List.take_length] at hrow
  refine b7 ?_
  refine ac S_2 m1 ?_
  have S_3:=(S_2.perm (T':=(L,oL)::(fo,ae (row.map aj) c)::([(nb,ae nvs 0)]++T)) (List.perm_append_comm (l₁:=[(fo,ae (row.map aj) c),(nb,ae nvs 0)]) (l₂:=[(L,oL)]) |>.append_right T)).leave 0 rfl r
  exact k s' [(nb,ae nvs 0)] fo c row ⟨hKp.os.trans K9.os,fun z=>hKp.gens (K9.gens z)⟩ (by exact S_3) hrow
end
end
section
def aV:List Str:=[Str.ofString "ZZZZZZZZZ", Str.ofString "JKLMNOPQR", Str.ofString "ABC", Str.ofString ""]
def UU(p:Nat):List Str:=(b8 p).map (·.1)++aV
def rkU(p:Nat)(x:Str):Nat:=20 - (UU p).idxOf x
def one64:UInt64:=4607182418800017408
def shF(b c:Nat):UInt64:=Float64.div (Float64.mul one64 (Float64.ofInt b)) (Float64.ofInt c)
def geF(c f:UInt64):Bool:=Float64.cmp f c == some Ordering.gt || Float64.cmp f c == some Ordering.eq
def scs:List UInt64:=[shF 18 18,shF 16 17,shF 16 18,shF 14 16,shF 12 15,shF 10 14,shF 8 13,shF 6 12,shF 4 11,shF 2 10,0,0,0,0]
theorem cw(p:Nat):(b8 p).length=10:=rfl
theorem jk:∀ p:Fin 9,((UU p.val).map fun x=>scr x WRD)=scs:=by decide +kernel
theorem lA:∀ p:Fin 9,(UU p.val).Nodup:=by decide +kernel
def rkB(p:Nat):Bool:=(List.range 14).all fun i=>(List.range 14).all fun j =>
 let f:=scs.getD i 0
 let f':=scs.getD j 0
 let x:=(UU p).getD i WRD
 let x':=(UU p).getD j WRD
 let eq:=Float64.cmp f f' == some Ordering.eq
 ((eq && x == x') == (i == j)) &&
 (eq || ((Float64.cmp f f' == some Ordering.lt) == decide (j<i))) &&
 (!eq || (decide (x.cps.toList<x'.cps.toList) == decide (j<i))) &&
 (eq || ((Float64.cmp f f' == some Ordering.gt) == decide (i<j))) &&
 (!eq || (decide (x'.cps.toList<x.cps.toList) == decide (i<j)))
theorem mE:∀ p:Fin 9,rkB p.val=true:=by decide +kernel
def geI(f:UInt64):Bool:=Float64.cmpInt f 0 == some Ordering.gt || Float64.cmpInt f 0 == some Ordering.eq
theorem k9:∀ p:Fin 9,((UU p.val).filter fun x=>dq (geF one64) x WRD)=(UU p.val).take 1:=by decide +kernel
theorem fn:∀ p:Fin 9,∀ a:Fin 10,((UU p.val).filter fun x=>dq (geF (scs.getD a.val 0)) x WRD)=(UU p.val).take (a.val+1):=by decide +kernel
theorem jU:∀ p:Fin 9,((UU p.val).filter fun x=>dq geI x WRD)=UU p.val:=by decide +kernel
theorem mC:∀ p:Fin 9,((UU p.val).all fun a=>(UU p.val).all fun b=>rkU p.val a != rkU p.val b || a == b)=true:=by decide +kernel
theorem kI:∀ p:Fin 9,∀ m:Fin 3,(List.replicate m.val WRD++UU p.val).Pairwise fun a b=>rkU p.val b≤rkU p.val a:=by decide +kernel
theorem fN:([Str.ofString "ABC", Str.ofString "", Str.ofString "ZZZZZZZZZ", Str.ofString "JKLMNOPQR"]:List Str).Perm aV:=by decide +kernel
theorem ki:∀ p:Fin 9,((UU p.val).all fun x=>decide (x.cps.size≤9))=true:=by decide +kernel
theorem rE:((one64::scs.take 10).all fun c=>(Float64.cmp 0 c == some Ordering.lt || Float64.cmp 0 c == some Ordering.eq) && (Float64.cmp c 4607182418800017408 == some Ordering.lt || Float64.cmp c 4607182418800017408 == some Ordering.eq))=true:=by decide +kernel
theorem ik:(Float64.cmpInt 0 0 == some Ordering.lt || Float64.cmpInt 0 0 == some Ordering.eq)=true∧(Float64.cmpInt 4607182418800017408 0 == some Ordering.gt || Float64.cmpInt 4607182418800017408 0 == some Ordering.eq)=true:=by decide +kernel
theorem kO:∀ p:Fin 9,((b8 p.val).map fun e=>share (qp (ah WRD) (ah e.1)) ((ah e.1).length+(ah WRD).length))=(b8 p.val).map fun e=>shF e.2.1 e.2.2:=by decide +kernel
theorem mG:∀ p:Fin 9,((b8 p.val).all fun e=>!(Float64.cmp (share (min (ah e.1).length (ah WRD).length) ((ah e.1).length+(ah WRD).length)) (shF e.2.1 e.2.2) == some Ordering.lt))=true:=by decide +kernel
end
section
abbrev gA (es:Array (Int×Value)) (ep:Nat) (t:SetTable):Obj:={ cls:=.type "set", dict:=none,data:=.set es ep t }
def fB(es:Array (Int×Value))(t:SetTable)(x:Value)(h:Int):Option (Array (Int×Value)×SetTable) :=
 match (t.place.size != es.size || decide (t.fill > t.mask)) || t.gaveWay with
 | true=>none
 | false =>
 match t.probe (fun i=>(es[i]?.map (·.1)).getD 0) h (t.probeStart h) with
 | some (.empty j none) =>
  match (t.put j).1.tooFull with
  | false=>some (SetTable.insertAt es (t.put j).2 (h,x),(t.put j).1)
  | true =>
   match (t.put j).1.relaid ((SetTable.insertAt es (t.put j).2 (h,x)).map (·.1)) (SetTable.grown (es.size+1)) with
   | some (t2,order) =>
    match ((t.put j).1.place.size != (SetTable.insertAt es (t.put j).2 (h,x)).size || decide ((t.put j).1.fill > (t.put j).1.mask)) || decide (SetTable.sizeAbove (SetTable.grown (es.size+1)) > 4096) || ((order.filterMap ((SetTable.insertAt es (t.put j).2 (h,x))[·]?)).size != (SetTable.insertAt es (t.put j).2 (h,x)).size) with
    | true=>none
    | false=>some (order.filterMap ((SetTable.insertAt es (t.put j).2 (h,x))[·]?),t2)
   | none=>none
 | _=>none
theorem fr{α:Type}(xs:Array α)(p:Nat)(x:α):(SetTable.insertAt xs p x).size≤xs.size+1:=by
 unfold SetTable.insertAt
 simp only[Array.size_append,Array.size_push,Array.size_extract]
 exact zjf
section
variable{prog:Program}{w:World}{A:Around}{E:VP}{s:Shared}{a:Addr}{es es':Array (Int×Value)}{ep:Nat}{t t':SetTable}{f:UInt64}{tk:Tok}{h:Int}
theorem bQ{Q:(Array (Int×Value)×Nat×SetTable)→Shared→Prop}(ho:s.heap.get? a=some (gA es ep t))(hc:(t.place.size != es.size || decide (t.fill > t.mask))=false)(hq:Q (es,ep,t) s):wpAny (model prog w) A (setState a) Q E s:=by
 unfold setState
 refine wpAny_bind (wpAny_load ho ?_)
 dsimp only
 rw[hc]
 simp only[Bool.false_eq_true,↓reduceIte]
 exact wpAny_pure hq
theorem eQ{Q:BP}(ho:s.heap.get? a=some (gA es ep t))(hp:fB es t (.float f tk) h=some (es',t'))(hf:(Float64.hash? f).isSome=true)(hz:es.size≤100)
  (hQ:∀ h' ep',Heap.SameBut a s.heap h'→h'.get? a=some (gA es' ep' t')→Q true (wh s h')):wpAny (model prog w) A (setAddHashed a (.float f tk) h) Q E s:=by
 unfold fB at hp
 cases hc:(t.place.size != es.size || decide (t.fill > t.mask)) || t.gaveWay with
 | true=>rw[hc] at hp;cases hp
 | false =>
  rw[hc] at hp
  obtain⟨hc1,hc2⟩:=Bool.or_eq_false_iff.mp hc
  cases hr:t.probe (fun i=>(es[i]?.map (·.1)).getD 0) h (t.probeStart h) with
  | none=>rw[hr] at hp;cases hp
  | some m =>
   rw[hr] at hp
   match m,hr with
   | .candidate j i n,hr=>cases hp
   | .empty j (some d),hr=>cases hp
   | .empty j none,hr =>
    dsimp only at hp
    unfold setAddHashed setAddHashedIn
    refine wpAny_holding (wpAny_bind (bQ ho hc1 ?_))
    dsimp only
    have hb:byScan (.float f tk) es=false:=by simp[byScan,Value.scannable]
    rw[hb]
    simp only[Bool.false_eq_true,↓reduceIte]
    refine wpAny_bind ?_
    unfold setSearch setSearchFrom
    refine wpAny_bind (bQ ho hc1 ?_)
    dsimp only
    rw[hc2]
    simp only[Bool.false_eq_true,↓reduceIte]
    split
    rotate_left 1
    ·rename_i hmet
     exact absurd (hmet _ hr) id
    rename_i met hmet
    have hme:some met=some (SetTable.Met.empty j none):=hmet.symm.trans hr
    obtain rfl:=Option.some.inj hme
    dsimp only
    refine wpAny_pure ?_
    dsimp only
    refine wpAny_bind (bQ ho hc1 ?_)
    dsimp only
    have hsz:=fr es (t.put j).2 (h,Value.float f tk)
    have e1:=PySem.putSet_of (SetTable.insertAt es (t.put j).2 (h,Value.float f tk)) (t.put j).1 (o:=gA es ep t) rfl
    have ho1:(s.heap.update a (Obj.putSet (SetTable.insertAt es (t.put j).2 (h,Value.float f tk)) (t.put j).1)).get? a=some (gA (SetTable.insertAt es (t.put j).2 (h,Value.float f tk)) (ep+1) (t.put j).1):=by
     rw[Heap.get?_update_self _ ho (by rw[e1];rfl),e1]
    have hs1:=Heap.SameBut.update s.heap a (Obj.putSet (SetTable.insertAt es (t.put j).2 (h,Value.float f tk)) (t.put j).1)
    have tail:wpAny (model prog w) A (do
      storeSet a (SetTable.insertAt es (t.put j).2 (h,Value.float f tk)) (t.put j).1
      if (!false && (t.put j).1.tooFull)=true then do
       setRelay a (SetTable.grown (es.size+1))
       pure true
      else pure true) Q E s:=by
     refine wpAny_bind (PySem.wpAny_storeSet_of ho rfl ?_ (by rw[sizeLine_eq];exact zjg hz hsz))
     cases hful:(t.put j).1.tooFull with
     | false =>
      rw[hful] at hp
      rw[if_neg (by simp)]
      cases hp
      exact wpAny_pure (hQ _ _ hs1 ho1)
     | true =>
      rw[hful] at hp
      rw[if_pos (by simp)]
      cases hrl:(t.put j).1.relaid ((SetTable.insertAt es (t.put j).2 (h,Value.float f tk)).map (·.1)) (SetTable.grown (es.size+1)) with
      | none=>rw[hrl] at hp;cases hp
      | some q =>
       obtain⟨t2,order⟩:=q
       rw[hrl] at hp
       dsimp only at hp
       cases hc3:((t.put j).1.place.size != (SetTable.insertAt es (t.put j).2 (h,Value.float f tk)).size || decide ((t.put j).1.fill > (t.put j).1.mask)) || decide (SetTable.sizeAbove (SetTable.grown (es.size+1)) > 4096) || ((order.filterMap ((SetTable.insertAt es (t.put j).2 (h,Value.float f tk))[·]?)).size != (SetTable.insertAt es (t.put j).2 (h,Value.float f tk)).size) with
       | true=>rw[hc3] at hp;cases hp
       | false =>
        rw[hc3] at hp
        cases hp
        obtain⟨hc4,hc5⟩:=Bool.or_eq_false_iff.mp hc3
        obtain⟨hc6,hc7⟩:=Bool.or_eq_false_iff.mp hc4
        refine wpAny_bind ?_
        unfold setRelay
        refine wpAny_bind (bQ ho1 hc6 ?_)
        dsimp only
        have h8:=of_decide_eq_false hc7
        rw[if_neg (by rw[sizeLine_eq];exact zjh hc3)]
        refine wpAny_bind ?_
        rw[hrl]
        have hsz2:(order.filterMap ((SetTable.insertAt es (t.put j).2 (h,Value.float f tk))[·]?)).size=(SetTable.insertAt es (t.put j).2 (h,Value.float f tk)).size:=by simpa using hc5
        show wpAny _ _ (if ((order.filterMap ((SetTable.insertAt es (t.put j).2 (h,Value.float f tk))[·]?)).size != (SetTable.insertAt es (t.put j).2 (h,Value.float f tk)).size)=true then _ else _) _ _ _
        rw[if_neg (by rw[hc5];decide)]
        refine wpAny_pure ?_
        refine PySem.wpAny_storeSet_of ho1 rfl ?_ (by rw[hsz2,sizeLine_eq];exact zjg hz hsz)
        have e2:=PySem.putSet_of (order.filterMap ((SetTable.insertAt es (t.put j).2 (h,Value.float f tk))[·]?)) t' (o:=gA (SetTable.insertAt es (t.put j).2 (h,Value.float f tk)) (ep+1) (t.put j).1) rfl
        refine wpAny_pure (hQ _ (ep+1+1) (hs1.trans (Heap.SameBut.update _ a _)) ?_)
        rw[Heap.get?_update_self _ ho1 (by rw[e2];rfl),e2]
    split
    ·refine wpAny_bind ?_
     show wpAny _ _ (pure (Float64.hash? f).isSome) _ _ _
     rw[hf]
     refine wpAny_pure ?_
     simp only[↓reduceIte]
     exact tail
    ·exact tail
end
end
section
def hF(f:UInt64):Int:=(Float64.hash? f).getD 0
def bV:List (UInt64×Tok)→Array (Int×Value)→SetTable→Option (Array (Int×Value)×SetTable)
 | [],es,tb=>match tb.fits es.size with
  | true=>some (es,tb)
  | false=>none
 | p::r,es,tb=>match Nat.ble es.size 100 with
  | false=>none
  | true=>match fB es tb (.float p.1 p.2) (hF p.1) with
   | some st=>bV r st.1 st.2
   | none=>none
theorem rp(led:Bool)(t0 t1 t2 t3 t4 t5 t6 t7 t8 t9:Tok):(bV [(shF 18 18,t0),(shF 16 17,t1),(shF 16 18,t2),(shF 14 16,t3),(shF 12 15,t4),(shF 10 14,t5),(shF 8 13,t6),(shF 6 12,t7),(shF 4 11,t8),(shF 2 10,t9)] #[] (.fresh 0 0 led)).map (fun st=>st.1.size)=some 10:=by
 cases led<;> kernel_rfl
theorem nN:((scs.take 10).all fun f=>(Float64.hash? f).isSome && decide (-(2 ^ 63:Int)≤hF f) && decide (hF f<2 ^ 63) && (hF f != -1))=true:=by decide +kernel
section
variable{prog:Program}{w:World}{A:Around}{E:VP}{s:Shared}{f:UInt64}{t:Tok}
theorem dB{h:Int}(hf:Float64.hash? f=some h):Gives (Builtin.«float.__hash__» ⟨[.float f t],[]⟩) (.int h):=by
 refine .of_wp fun M A E s Q hq=>?_
 obtain⟨hp,g,d,tk,os⟩:=s
 unfold Builtin.«float.__hash__»
 wp_walk
 rw[hf]
 wp_walk
 exact⟨_,rfl,hq⟩
theorem cM{Q:Int→Shared→Prop}(hs:(Float64.hash? f).isSome=true)(h0 : -(2 ^ 63:Int)≤hF f)(h1:hF f<2 ^ 63)(h2:(hF f != -1)=true)(h:Q (hF f) (wt s (s.toks+1))) :
  wpAny (model prog w) A (pyHash (.float f t)) Q E s:=by
 have hf:Float64.hash? f=some (hF f):=by
  unfold hF
  cases hh:Float64.hash? f with
  | none=>rw[hh] at hs;cases hs
  | some x=>rfl
 unfold pyHash
 have hv:[Value.float f t].any Value.onHeap=false:=rfl
 refine wpAny_bind ?_
 rw[cRoomFor,if_neg (by rw[hv];exact Bool.false_ne_true)];refine wpAny_pure ?_
 refine wpAny_bind (wpAny_specialOf (AutoFloatOps.typeIs_float s f t) F.slot_float_hash.lookup ?_)
 show wpAny _ _ (if (some (Value.builtin "float.__hash__") == some Value.none)=true then _ else _) Q E s
 rw[if_neg (by rw[beq_builtin_none];exact Bool.false_ne_true)]
 refine wpAny_bind (wpAny_specialOf (AutoFloatOps.typeIs_float s f t) F.slot_float_hash.lookup ?_)
 show wpAny _ _ (callSpecialIfBoundUnlessNone? (.float f t) "__hash__" _ >>= _) Q E s
 refine wpAny_bind (wpAny_callSpecialIfBoundUnlessNone?_slot (AutoFloatOps.typeIs_float s f t) F.slot_float_hash
  (call_gives F.slot_float_hash (AutoFloatOps.typeIs_float s f t) F.entry_float_hash (F.args_float_hash_1 _) (dB hf) ?_))
 show wpAny _ _ (if (decide (-(2:Int) ^ 63≤hF f) && decide (hF f<2 ^ 63))=true then _ else _) Q E _
 rw[if_pos (by rw[decide_eq_true h0,decide_eq_true h1];rfl)]
 have h3:(hF f == -1)=false:=by simpa using h2
 show wpAny _ _ (pure (if (hF f == -1)=true then -2 else hF f)) Q E _
 rw[h3]
 exact wpAny_pure h
end
end
section
abbrev dD(p:UInt64×Tok):Value:=.float p.1 p.2
section
variable{prog:Program}{w:World}{A:Around}{E:VP}{s:Shared}{hb:Heap}{tabs:List Addr}{L d I D:Addr}{l:List (Str×Value)}{T:List (Addr×Obj)}{n:Nat}{ps:List (UInt64×Tok)}
def l7(ps:List (UInt64×Tok)):Prop:=∀ p∈ps,(Float64.hash? p.1).isSome=true∧-(2 ^ 63:Int)≤hF p.1∧hF p.1<2 ^ 63∧(hF p.1 != -1)=true
theorem kE{R:Result→Shared→Prop}{es':Array (Int×Value)}{tb':SetTable}(hh:A.handled=none)(hok:l7 ps)(hd:(d,ae (ps.map dD) n)∈T)
  (hR:∀ s' ep',Kp s s'→St hb tabs L l ((D,gA es' ep' tb')::T) s'.heap→tb'.fits es'.size=true→R (.ok (.ret .none)) s') :
  ∀ (k i:Nat) (es:Array (Int×Value)) (ep:Nat) (tb:SetTable) (o:Obj) (s₁:Shared),ps.length - i=k→i≤ps.length→bV (ps.drop i) es tb=some (es',tb')→Kp s s₁→bC o d i→St hb tabs L l ((D,gA es ep tb)::(I,o)::T) s₁.heap →
   codeAny (model prog w) A (.builtin "set.update.loop" ⟨[.ref D,.ref I],[]⟩) R s₁:=by
 intro k
 induction k with
 | zero =>
  intro i es ep tb o s₁ hk hi hf K ho S
  have hin:i=ps.length:=by exact z94 hk hi
  subst hin
  rw[List.drop_length] at hf
  unfold bV at hf
  cases hft:tb.fits es.size with
  | false=>rw[hft] at hf;cases hf
  | true =>
   rw[hft] at hf
   cases hf
   refine codeAny_builtin PyProof.Rows.F.entry_set_update_loop ?_
   rw[Around.under_plainId PyProof.Rows.F.plain_set_update_loop _]
   show wpAny _ A.in1 (pyNext (.ref I) >>= _) _ _ s₁
   have ho':bC o d (ps.map dD).length:=by rw[List.length_map];exact ho
   refine wpAny_bind (fi (vs:=ps.map dD) (T:=(D,gA es' ep tb')::T) hh (S.perm (List.Perm.cons _ (List.perm_append_comm (l₁:=[(I,o)]) (l₂:=T)))) ho' (.tail _ hd) fun h' S'=>?_)
   show wpAny _ A.in1 (ret Value.none) _ _ _
   exact wpAny_pure (hR _ ep ⟨K.os,K.gens⟩ S' hft)
 | succ k ih =>
  intro i es ep tb o s₁ hk hi hf K ho S
  have hlt:i<ps.length:=by exact z96 hk
  rw[List.drop_eq_getElem_cons hlt] at hf
  unfold bV at hf
  cases hbl:Nat.ble es.size 100 with
  | false=>rw[hbl] at hf;cases hf
  | true =>
   rw[hbl] at hf
   dsimp only at hf
   cases had:fB es tb (.float ps[i].1 ps[i].2) (hF ps[i].1) with
   | none=>rw[had] at hf;cases hf
   | some st =>
    obtain⟨es1,tb1⟩:=st
    rw[had] at hf
    dsimp only at hf
    have hz:es.size≤100:=Nat.le_of_ble_eq_true hbl
    refine codeAny_builtin PyProof.Rows.F.entry_set_update_loop ?_
    rw[Around.under_plainId PyProof.Rows.F.plain_set_update_loop _]
    show wpAny _ A.in1 (pyNext (.ref I) >>= _) _ _ s₁
    have hx:(ps.map dD)[i]? = some (dD ps[i]):=by simp[hlt]
    refine wpAny_bind (fh 1 S rfl ho (.tail _ (.tail _ hd)) hx fun h_2 o_2 ho_2 S_2=>?_)
    obtain⟨k1,k2,k3,k4⟩:=hok ps[i] (List.getElem_mem hlt)
    show wpAny _ A.in1 (holding [dD ps[i]] (setAdd D (.float ps[i].1 ps[i].2)) >>= _) _ _ _
    refine wpAny_bind (wpAny_holding ?_)
    unfold setAdd
    refine wpAny_holding ?_
    refine wpAny_bind (cM k1 k2 k3 k4 ?_)
    refine eQ (S_2.obj _ m0) had k1 hz fun h_3 ep3 hs_3 ho3=>?_
    have S_3:=S_2.change (o':=gA es1 ep3 tb1) 0 rfl hs_3 ho3
    refine wpAny_pure ⟨plainId_quiet PyProof.Rows.F.plain_set_update_loop _,?_⟩
    exact ih (i+1) es1 ep3 tb1 o_2 _ (by exact z9a hk) hlt hf ⟨K.os,K.gens⟩ ho_2 S_3
theorem pb{Q:VP}{m:Nat}(hh:A.handled=none)(S:St hb tabs L l T s.heap)(hm:(d,ae (ps.map dD) n)∈T)(hok:l7 ps)
  (hf:∀ led,(bV ps #[] (.fresh 0 0 led)).map (fun st=>st.1.size)=some m)
  (h:∀ (s':Shared) D es ep tb,Kp s s'→es.size=m→tb.fits es.size=true→St hb tabs L l ((D,gA es ep tb)::T) s'.heap→Q (.ref D) s') :
  wpAny (model prog w) A (call (.type "set") [.ref d]) Q E s:=by
 obtain⟨c,tl,hmro⟩:=PySem.F.called_set.mro
 have hmade:=PySem.F.called_set.made
 have hsub:=PySem.F.called_set.sub
 refine wpAny_call (codeAny_of_tree ?_)
 show wpAny _ _ (callAny (.type "set") _) _ _ _
 refine wpAny_pure ⟨Code.quiet_builtin _ (by decide +kernel),codeAny_builtin PySem.F.entry_type_call ?_⟩
 rw[Around.under_plain (weight_type_call_type "set" [.ref d] []) rfl]
 have h1:=PySem.F.called_set.notType
 have h2:=PySem.F.called_set.canCreate
 have hct:=PySem.F.typeCall_set_1 (.ref d)
 repeat (any_goals (first | assumption | wp_step))
 refine codeAny_mono (PySem.code_set_new_1 (.ref d) (E:=E) (Q₁:=fun obj s₁=>∃ led:Bool,obj=.ref s.heap.objs.size∧s₁ = { s with heap:=s.heap.push { cls:=.type "set", dict:=none,data:=.set #[] 0 (.fresh 0 0 led) } }) fun led=>⟨led,rfl,rfl⟩) fun r s₁ hr=>?_
 cases r with
 | error e=>exact hr
 | ok fl =>
  cases fl with
  | ret obj =>
   obtain⟨led,rfl,rfl⟩:=hr
   have S_1:=S.push (gA #[] 0 (.fresh 0 0 led))
   have hS:(s.heap.push { cls:=.type "set", dict:=none,data:=.set #[] 0 (.fresh 0 0 led) }).get? s.heap.objs.size=some { cls:=.type "set", dict:=none,data:=.set #[] 0 (.fresh 0 0 led) }:=Heap.get?_push_size _ rfl
   have hT:Shared.TypeIs { s with heap:=s.heap.push { cls:=.type "set", dict:=none,data:=.set #[] 0 (.fresh 0 0 led) } } (.ref s.heap.objs.size) "set" := ⟨_,hS,rfl⟩
   have hli:=PySem.F.called_set.init.lookup
   have hbi:=PySem.F.called_set.init.bind (.ref s.heap.objs.size)
   repeat (any_goals (first | assumption | wp_step))
   refine codeAny_mono (codeAny_call_builtin (R:=wants (fun r s_2=>r=.none∧Q (.ref s.heap.objs.size) s_2) E) PySem.F.called_set.init.plain PySem.F.entry_set_init (PySem.check_set_init_1 hT ?_)) fun r_2 s_2 hr_2=>?_
   ·have hl1:(s.heap.push { cls:=.type "set", dict:=none,data:=.set #[] 0 (.fresh 0 0 led) }).IsList d (ps.map dD).toArray:=⟨_,S_1.obj _ (.tail (s.heap.objs.size,gA #[] 0 (.fresh 0 0 led)) hm),rfl,n,rfl⟩
    have hol':=S_1.obj _ (.tail (s.heap.objs.size,gA #[] 0 (.fresh 0 0 led)) hm)
    have hsls:=PySem.F.sub_list_set
    have hslf:=PySem.F.sub_list_frozenset
    have hne:(Value.type "list" == Value.type "dict")=false:=by decide
    unfold Builtin.«set.__init__» noKeywords Builtin.Frozenset.updateFrom
    generalize hPI:pyIter=PI
    wp_walk
    subst hPI
    refine wpAny_pyIter_list hl1 ?_
    refine wpAny_bind (wpAny_runValue ?_)
    have S_2:=(S_1.push (gp d 0)).perm (List.Perm.swap _ _ _)
    obtain⟨es',tb',hfo,hsz⟩:Ex2 fun es' tb'=>bV ps #[] (.fresh 0 0 led)=some (es',tb')∧es'.size=m:=by
     have:=hf led
     cases hfo:bV ps #[] (.fresh 0 0 led) with
     | none=>rw[hfo] at this;cases this
     | some st=>rw[hfo] at this;exact⟨st.1,st.2,rfl,Option.some.inj this⟩
    refine kE (s:=s) (by simp[hh]) hok hm ?_ ps.length 0 #[] 0 (.fresh 0 0 led) (gp d 0) _ rfl (Nat.zero_le _) (by rw[List.drop_zero];exact hfo) ⟨rfl,id⟩ ⟨rfl,rfl⟩ (by exact S_2)
    intro s' ep' K' S' hft
    show wpAny _ _ _ _ _ _
    refine wpAny_pure ?_
    show wpAny _ _ (ret Value.none) _ _ _
    exact wpAny_pure ⟨rfl,h s' _ es' ep' tb' K' hsz hft S'⟩
   ·cases r_2 with
    | error e=>exact hr_2
    | ok fl_2 =>
     cases fl_2 with
     | ret r =>
      obtain⟨rfl,hq⟩:=hr_2
      repeat (any_goals (first | assumption | wp_step))
     | _=>exact hr_2.elim
  | _=>exact hr.elim
end
end
section
open PySem.Spec
theorem bR{α:Type}(f:α→Nat):∀ {l₁ l₂:List α},l₁.Perm l₂→l₁.Pairwise (fun a b=>f b≤f a)→l₂.Pairwise (fun a b=>f b≤f a)→(∀ a∈l₁,∀ b∈l₁,f a=f b→a=b)→l₁=l₂
 | [],l₂,hp,_,_,_=>by have:=hp.length_eq;cases l₂ with | nil=>rfl | cons b r=>simp at this
 | a::r,[],hp,_,_,_=>by have:=hp.length_eq;simp at this
 | a::r,b::q,hp,h1,h2,hi=>by
  obtain⟨a1,a2⟩:=List.pairwise_cons.mp h1
  obtain⟨b1,b2⟩:=List.pairwise_cons.mp h2
  have hb:b∈a::r:=hp.mem_iff.mpr (.head _)
  have ha:a∈b::q:=hp.mem_iff.mp (.head _)
  have e1:f b≤f a:=by
   rcases List.mem_cons.mp hb with rfl | q
   ·exact Nat.le_refl _
   ·exact a1 b q
  have e2:f a≤f b:=by
   rcases List.mem_cons.mp ha with rfl | q
   ·exact Nat.le_refl _
   ·exact b1 a q
  have e:a=b:=hi a (.head _) b hb (Nat.le_antisymm e2 e1)
  subst e
  rw[bR f hp.cons_inv a2 b2 fun x hx y hy=>hi x (.tail _ hx) y (.tail _ hy)]
section
variable{prog:Program}{w:World}{A:Around}{E:VP}{s:Shared}{hb:Heap}{tabs:List Addr}{L d:Addr}{l:List (Str×Value)}{T:List (Addr×Obj)}{vs:List Value}{n:Nat}
theorem gQ {o:Obj}{Q:LP} (ho:s.heap.get? d=some o) (hc:o.cls=.type "tuple") (hd:o.data=.seq vs.toArray n)
  (h:Q vs (wh s ((s.heap.push (seqObj "list" #[] 0)).update s.heap.objs.size (Obj.mapSeq (·++vs.toArray))))) (hsz:vs.length≤sizeLine) :
  wpAny (model prog w) A (collect (.ref d)) Q E s:=by
 unfold collect
 refine wpAny_bind (wpAny_runValue (codeAny_builtin entry_proto_collect' ?_))
 show wpAny _ _ (do again (.builtin "list.__iadd__" ⟨[← newList [],.ref d],[]⟩)) _ _ s
 refine wpAny_bind (wpAny_newList (wpAny_pure ⟨Code.quiet_builtin _ (by decide +kernel),codeAny_builtin entry_list_iadd' ?_⟩))
 show wpAny _ _ (Builtin.List.listExtendWith (.ref s.heap.objs.size) (.ref d) (.ref s.heap.objs.size)) _ _ (wh s (s.heap.push (seqObj "list" #[] 0)))
 unfold Builtin.List.listExtendWith
 have ho':(s.heap.push (seqObj "list" #[] 0)).get? d=some o:=Heap.get?_push_of_some _ ho
 refine wpAny_bind (wpAny_typeOf (T := "tuple") ⟨o,ho',hc⟩ ?_)
 have ht:(Value.type "tuple" == Value.type "tuple")=true:=by rfl
 rw[if_pos (by rw[ht];simp)]
 refine wpAny_bind (listItems_at ho' hd ?_)
 refine wpAny_bind (listItems_at (xs:=#[]) (n:=0) (Heap.get?_push_size _ rfl) rfl ?_)
 rw[if_neg (by simp)]
 refine wpAny_bind (listUpdate_at (xs:=#[]) (n:=0) (Heap.get?_push_size _ rfl) rfl ?_ (Nat.zero_le _) (by show (#[]++vs.toArray).size≤sizeLine+1;simp only[Array.size_append,List.size_toArray,List.length_nil];exact zb6 hsz))
 refine wpAny_pure ?_
 show wpAny (model prog w) A (do
   let o ← load s.heap.objs.size
   match o.data with
   | .seq xs _=>pure xs.toList
   | _=>unsupported "internal:collect") Q E (wh s ((s.heap.push (seqObj "list" #[] 0)).update s.heap.objs.size (Obj.mapSeq (·++vs.toArray))))
 refine wpAny_bind (wpAny_load (get?_update_seq (Heap.get?_push_size _ rfl) _) ?_)
 show wpAny _ _ (pure ((#[]:Array Value)++vs.toArray).toList) Q E _
 rw[show ((#[]:Array Value)++vs.toArray).toList=vs by simp]
 exact wpAny_pure h
theorem gB {κ:SortKind}{kw:List (Str×Value)}{o:Obj}{Q:VP} (rkv:Value→Nat) (S:St hb tabs L l T s.heap) (ho:s.heap.get? d=some o) (hc:o.cls=.type "tuple") (hdd:o.data=.seq vs.toArray n) (h64:vs.length<64)
  (ha1:argsOk "sorted" ⟨[.ref d],kw⟩) (ha2:∀ x,argsOk "list.sort" ⟨[.ref x],kw⟩) (ht:∀ x,Builtin.«list.sort» ⟨[.ref x],kw⟩=bu x)
  (hkind:2≤vs.length→∀ (s':Shared) T' {Q:SortKind→Shared→Prop}{E:VP},St hb tabs L l T' s'.heap→(∀ p∈T,p∈T')→Q κ s'→wpAny (model prog w) A.in1.in1 (keyKind' vs.toArray) Q E s')
  (hlt:∀ (s':Shared) T',Kp s s'→St hb tabs L l T' s'.heap→(∀ p∈T,p∈T')→∀ x∈vs,∀ y∈vs,∀ C:BP,C (decide (rkv x<rkv y)) s' →
   wpAny (model prog w) A.in1.in1 (keyLt' κ x y) C (fun _ _=>False) s')
  (k:∀ s' D n' vs' X,Kp s s'→vs'.Perm vs→vs'.Pairwise (fun a b=>rkv b≤rkv a)→St hb tabs L l ((D,ae vs' n')::(X++T)) s'.heap→Q (.ref D) s') :
  wpAny (model prog w) A (call (.builtin "sorted") [.ref d] kw) Q E s:=by
 refine call_function_entry_kw kind_sorted plain_sorted entry_sorted ha1 ?_
 unfold Builtin.«sorted»
 refine wpAny_bind (m:=checkCount "sorted" 1 1 _) (wpAny_pure ?_)
 refine wpAny_bind (gQ (vs:=vs) ho hc hdd ?_ (by rw[sizeLine_eq];exact ul 16777152 h64))
 have S_1:=S.push (ae [] 0)
 obtain⟨c1,hc1⟩:∃ c,Obj.mapSeq (·++vs.toArray) (ae [] 0)=ae vs c:=by
  have hx:∃ c1,Obj.mapSeq (·++vs.toArray) (ae [] 0) = { ae [] 0 with data:=.seq ((#[]:Array Value)++vs.toArray) c1 }:=⟨_,rfl⟩
  rw[Array.empty_append] at hx
  exact hx
 have S_2:=S_1.change (o':=ae vs c1) 0 rfl (Heap.SameBut.update _ s.heap.objs.size (Obj.mapSeq (·++vs.toArray))) (by rw[Heap.get?_update_self _ (S_1.obj _ m0) (by rw[hc1];rfl),hc1])
 refine wpAny_bind (wpAny_newList ?_ (by rw[sizeLine_eq];exact ul 16777152 h64))
 have S_3:=S_2.push (ae vs 0)
 refine wpAny_bind (wpAny_holding (wpAny_call_entry_kw slot_list_sort ⟨_,S_3.obj _ m0,rfl⟩ entry_list_sort ?body (ha2 _)))
 case body =>
  rw[ht]
  refine wpAny_mono (cE (κ:=κ) (s:=(wh s _)) (Q:=fun fin s'=>∃ v,fin=.done (.ret v)∧Q (.ref _) s') rkv (by exact S_3) h64 (fun h2 s' T' {Q E} S'' hin hq=>hkind h2 s' T' S'' (fun p hp=>hin p (.tail _ hp)) hq) (fun s' T' K' S'' hin=>hlt s' T' ⟨K'.os,K'.gens⟩ S'' fun p hp=>hin p (.tail _ hp)) fun s' n' vs' K' hp hw S''=>⟨_,rfl,k s' _ n' vs' [_] ⟨K'.os,K'.gens⟩ hp hw (by exact S'')⟩) (fun fin s' z=>?_) fun _ _ x=>x
  obtain⟨v,rfl,q⟩:=z
  exact⟨_,rfl,wpAny_pure ⟨_,rfl,q⟩⟩
theorem gY (a v:Value):argsOk "sorted" ⟨[a],[(Str.ofString "reverse", v)]⟩:=by unfold argsOk;kernel_rfl
theorem nQ{f g:UInt64}{t u:Tok}{Q:BP}(h:Q (Float64.cmp f g == some Ordering.lt) s):wpAny (model prog w) A (keyLt' oneType' (.float f t) (.float g u)) Q E s:=by
 rw[keyLt'_oneType]
 exact d3 h
theorem jt{ps:List (UInt64×Tok)}{Q:VP}(rkF:UInt64→Nat)(S:St hb tabs L l T s.heap)(hd:(d,ae (ps.map dD) n)∈T)(h64:ps.length<64)
  (hrk:∀ p∈ps,∀ q∈ps,(Float64.cmp p.1 q.1 == some Ordering.lt)=decide (rkF p.1<rkF q.1)) (hfall:ps.Pairwise fun a b=>rkF b.1<rkF a.1)
  (k:∀ s' D n' X,Kp s s'→St hb tabs L l ((D,ae (ps.map dD) n')::(X++T)) s'.heap→Q (.ref D) s') :
  wpAny (model prog w) A (call (.builtin "sorted") [.ref d] [(Str.ofString "reverse", .bool true)]) Q E s:=by
 refine dS (κ:=oneType') (fun v=>match v with | .float f _=>rkF f | _=>0) S hd (by rw[List.length_map];exact h64) (gY _ _) (fun x=>fg x) (fun x=>cW x) ?_ ?_ ?_
 ·intro h2 s' T' Q' E' S' hin hq
  refine kas_kind (T:=.type "float") h2 (fun v hv=>?_) rfl rfl hq
  obtain⟨p,-,rfl⟩:=List.mem_map.mp hv
  exact .now
 ·intro s' T' K' S' hin x hx y hy C hC
  obtain⟨p,hp,rfl⟩:=List.mem_map.mp hx
  obtain⟨q,hq,rfl⟩:=List.mem_map.mp hy
  refine nQ ?_
  rw[hrk p hp q hq]
  exact hC
 ·intro s' D n' vs' X K' hp hw S'
  obtain⟨P,rfl,hP⟩:=bq _ hp
  have e:P=ps:=by
   refine bR (fun p=>rkF p.1) hP ?_ (hfall.imp fun h=>Nat.le_of_lt h) ?_
   ·rw[List.pairwise_map] at hw;exact hw
   ·intro a ha b hb hab
    have ha':=hP.mem_iff.mp ha
    have hb':=hP.mem_iff.mp hb
    refine Classical.byContradiction fun hne=>?_
    obtain⟨i,hi,e1⟩:=List.mem_iff_getElem.mp ha'
    obtain⟨j,hj,e2⟩:=List.mem_iff_getElem.mp hb'
    rcases Nat.lt_trichotomy i j with q | q | q
    ·have:=List.pairwise_iff_getElem.mp hfall i j hi hj q
     rw[e1,e2] at this
     have:rkF b.1<rkF a.1:=this
     have hab':rkF a.1=rkF b.1:=hab
     exact zb7 hab this
    ·subst q;exact hne (e1.symm.trans e2)
    ·have:=List.pairwise_iff_getElem.mp hfall j i hj hi q
     rw[e1,e2] at this
     have:rkF a.1<rkF b.1:=this
     have hab':rkF a.1=rkF b.1:=hab
     exact zb8 hab this
  subst e
  exact k s' D n' X K' S'
theorem jr {o:Obj}{ws:List (Str×Tok)}{Q:VP} (rkW:Str→Nat) (S:St hb tabs L l T s.heap) (ho:s.heap.get? d=some o) (hc:o.cls=.type "tuple") (hdd:o.data=.seq (ws.map aj).toArray n) (h64:ws.length<64)
  (hrk:∀ p∈ws,∀ q∈ws,decide (p.1.cps.toList<q.1.cps.toList)=decide (rkW p.1<rkW q.1))
  (k:∀ s' D n' (P:List (Str×Tok)) X,Kp s s'→P.Perm ws→P.Pairwise (fun a b=>rkW b.1≤rkW a.1)→St hb tabs L l ((D,ae (P.map aj) n')::(X++T)) s'.heap→Q (.ref D) s') :
  wpAny (model prog w) A (call (.builtin "sorted") [.ref d] [(Str.ofString "reverse", .bool true)]) Q E s:=by
 refine gB (κ:=oneType') (fun v=>match v with | .str f _=>rkW f | _=>0) S ho hc hdd (by rw[List.length_map];exact h64) (gY _ _) (fun x=>fg x) (fun x=>cW x) ?_ ?_ ?_
 ·intro h2 s' T' Q' E' S' hin hq
  refine kas_kind (T:=.type "str") h2 (fun v hv=>?_) rfl rfl hq
  obtain⟨p,-,rfl⟩:=List.mem_map.mp hv
  exact .now
 ·intro s' T' K' S' hin x hx y hy C hC
  obtain⟨p,hp,rfl⟩:=List.mem_map.mp hx
  obtain⟨q,hq,rfl⟩:=List.mem_map.mp hy
  refine kas_lt_str ?_
  rw[hrk p hp q hq]
  exact hC
 ·intro s' D n' vs' X K' hp hw S'
  obtain⟨P,rfl,hP⟩:=bq _ hp
  rw[List.pairwise_map] at hw
  exact k s' D n' P X K' hP hw S'
end
end
section
open PySem.Spec
theorem ints3(a b c:Int)(t1 t2 t3:Tok):∀ v∈[Value.int a t1,.int b t2,.int c t3],Ex2 fun i t=>v=Value.int i t:=by
 intro v hv
 simp at hv
 rcases hv with rfl | rfl | rfl<;> exact⟨_,_,rfl⟩
theorem iQ(i:Int){m:Nat}(hm:0<m):∃ x:Nat,x<m∧i.fmod (m:Int)=(x:Int):=by
 refine⟨(i.fmod m).toNat,?_,?_⟩
 all_goals
  have h2:i.fmod (m:Int)=i % (m:Int):=Int.fmod_eq_emod_of_nonneg _ (by lia)
  have h0:0≤i % (m:Int):=Int.emod_nonneg _ (by lia)
  have h1:i % (m:Int)<m:=Int.emod_lt_of_pos _ (by lia)
  rw[h2]
  lia
theorem fe{prog:Program}{w:World}{A:Around}{E:VP}{s:Shared}{a c:Int}{t u:Tok}{m:Nat}{Q:VP}(hm:0<m)(hc:c=(m:Int))
  (h:∀ x:Nat,x<m→Q (.int (x:Int) s.toks) (wt s (s.toks+1))):wpAny (model prog w) A (binaryOp .Mod (.int a t) (.int c u)) Q E s:=by
 subst hc
 obtain⟨x,hx,e⟩:=iQ a hm
 refine mod_int' (by exact z4j hm) ?_
 rw[e]
 exact h x hx
section
variable{w:World}{A:Around}{E:VP}{s:Shared}{hb:Heap}{L' sc:Addr}{T:List (Addr×Obj)}{scv:List Value}
abbrev et:List Stmt:=ao (st1 pw 16)
abbrev aK(w:World)(L':Addr):Env:=callEnv (rt w.params) L' 306
theorem law_a (G:Gd (KN w.params) tabs hb) (hd:A.depth+60<recursionLimit) (hh:A.handled=none) (H:Scr hb sc scv) (htk:776≤s.toks) (S:St hb tabs L' [(Str.ofString "script", .ref sc)] T s.heap) {Q:FP}
  (k:∀ (s':Shared) (X:List (Addr×Obj)) (nb nr:Addr) (nvs:List Value) (nn nc:Nat) (x many:Nat) (tm:Tok) (t0:Nat) (ns:List Nr),Kp s s'→3≤nvs.length→nvs.length≤6→(∀ v∈nvs,Ex2 fun i t=>v=.int i t)→x<9→1≤many→many≤12→ns.map Nr.k=b8 x→776≤t0→NTk t0 s'.toks ns→n8 X ns →
   (nr,ae (bf ns) nc)∈X→(nb,ae nvs nn)∈X →
   St hb tabs L' [(Str.ofString "near", .ref nr),(Str.ofString "many", .int (many:Int) tm),(Str.ofString "numbers", .ref nb),(Str.ofString "script", .ref sc)] (X++T) s'.heap→wpAny (model pw w) (A.deeper (aK w L')) (execs (et.drop 2) (aK w L')) Q E s') :
  wpAny (model pw w) (A.deeper (aK w L')) (execs et (aK w L')) Q E s:=by
 refine ak ?_
 refine wpAny_BinOp ?_
 refine ap ?_
 refine ai G S (v:=.type "list") (by kernel_rfl) ?_
 refine bb ?_
 refine args_cons ?_
 refine dO (hb:=hb) (tabs:=tabs) ?_
 refine ac S m0 ?_
 refine wpAny_Constant_int ?_
 refine⟨_,_,_,sc,3,_,scv,rfl,rfl,S,H.isList S,by have:=H.small;exact up 937 this,?_⟩
 intro D1 X1 h_1 S_1
 refine args_nil ?_
 refine eS (vs:=scv.take 3) (n:=0) S_1 (.inl rfl) (S_1.obj _ m0) rfl rfl (by rw[List.length_take];exact z4t) ?_
 intro D2 c_2 h_2 S_2
 have htk2:s.toks≤s.toks+1:=Nat.le_succ _
 refine bD (by exact S_2) fun s_2 K2 hk2 S_2=>?_
 replace K2:Kp s s_2:=⟨K2.os,K2.gens⟩
 replace hk2:s.toks≤s_2.toks:=Nat.le_trans htk2 hk2
 refine bc ?_
 refine args_cons ?_
 refine dU S_2 ?_
 intro u0 t0 Ku0 hu0 Su0
 refine args_cons ?_
 refine dU Su0 ?_
 intro u1 t1 Ku1 hu1 Su1
 refine args_cons ?_
 refine dU Su1 ?_
 intro u2 t2 Ku2 hu2 Su2
 refine args_nil ?_
 refine⟨rfl,_,_,_,_,_,Su2,?_⟩
 intro D3 h_3 S_3
 have htl:(scv.take 3).length≤3:=by rw[List.length_take];exact z4u
 refine dX S_3 m1 m0 (by simp only[List.length_cons,List.length_nil];exact z4v htl) ?_
 intro nb h_4 S4
 refine af S4 (.new (by kernel_rfl)) ?_
 intro h_5 S5
 refine bD (by exact S5) fun s5 K5 hk5 S5=>?_
 replace K5:Kp s s5:=⟨K5.os.trans (K2.trans (Ku0.trans (Ku1.trans Ku2))).os,fun z=>K5.gens ((K2.trans (Ku0.trans (Ku1.trans Ku2))).gens z)⟩
 have hk5':s.toks≤s5.toks:=by simp only at hk5;exact z4w hk2 hu0 hu1 hu2 hk5
 obtain⟨nvs,X5,hn3,hn6,hni,S6⟩:Ex2 fun (nvs:List Value) (X5:List (Addr×Obj))=>An4 (3≤nvs.length) (nvs.length≤6) ((∀ v∈nvs,Ex2 fun i t=>v=.int i t)) (St hb tabs L' [(Str.ofString "numbers", .ref nb),(Str.ofString "script", .ref sc)] ((nb,ae nvs 0)::(X5++T)) s5.heap):=by
  refine⟨scv.take 3++[.int 7 t0,.int 3 t1,.int 5 t2],(D3,_)::(D2,_)::(D1,_)::X1,?_,?_,?_,S5⟩
  ·rw[List.length_append];simp only[List.length_cons,List.length_nil];exact z4x
  ·rw[List.length_append];simp only[List.length_cons,List.length_nil];exact z4y htl
  ·intro v hv
   rcases List.mem_append.mp hv with q | q
   ·exact H.isInts v (List.mem_of_mem_take q)
   ·exact ints3 _ _ _ _ _ _ v q
 clear S5 S4 S_3 Su2 Su1 Su0 S_2 S_1
 obtain⟨i0,ti0,e0⟩:=hni nvs[0] (List.getElem_mem (by exact z4z hn3))
 obtain⟨i1,ti1,e1⟩:=hni nvs[1] (List.getElem_mem (by exact z50 hn3))
 refine dY [Str.ofString "near", Str.ofString "many"] ?_
 refine args_cons ?_
 refine wpAny_with_toks (Nat.le_refl s5.toks) ?_
 refine ap ?_
 refine aq G S6 (v:=.ref 294) (by kernel_rfl) ?_
 refine aN G ?_
 refine args_cons ?_
 refine wpAny_BinOp ?_
 refine cA list_getitem_lookup ?_
 refine ac S6 m0 ?_
 refine wpAny_Constant_int ?_
 refine⟨⟨_,S6.obj _ m0,rfl⟩,?_⟩
 refine bk (k:=0) (x:=.int i0 ti0) (by exact S6) m0 (by exact up 994 hn6) (by rw[List.getElem?_eq_getElem (by exact z4z hn3),e0]) ?_
 refine wpAny_Constant_int ?_
 refine fe (m:=9) (by decide) rfl ?_
 intro x hx
 refine args_nil ?_
 refine⟨⟨_,_,_,S6⟩,?_⟩
 have hk6:s5.toks≤s5.toks+1+1+1:=by exact z52
 refine qN G (by exact S6) (by show A.depth+1+10<_;exact dn 49 hd) hh hx (by simp only;exact z54 htk hk2 hu0 hu1 hu2 hk5) ?_
 intro s7 X7 nr nc ns K7 S7 hN hk hT
 intro htk7
 replace hT:NTk s5.toks s7.toks ns:=⟨fun e he=>by
  rcases hT.tok e he with q | q
  ·exact .inl q
  ·exact .inr ⟨by have:=q.1;simp only at this;exact z3l q.1,q.2⟩,hT.inj⟩
 replace K7:Kp s s7:=⟨K7.os.trans K5.os,fun z=>K7.gens (K5.gens z)⟩
 refine args_cons ?_
 refine wpAny_BinOp ?_
 refine wpAny_Constant_int ?_
 refine wpAny_BinOp ?_
 refine cA list_getitem_lookup ?_
 have hnbm:(nb,ae nvs 0)∈(nr,ae (bf ns) nc)::(X7++((nb,ae nvs 0)::(X5++T))):=.tail _ (List.mem_append_right _ (.head _))
 refine ac (by exact S7) m0 ?_
 refine wpAny_Constant_int ?_
 refine⟨⟨_,S7.obj _ hnbm,rfl⟩,?_⟩
 refine bk (k:=1) (x:=.int i1 ti1) (by exact S7) hnbm (by exact up 994 hn6) (by rw[List.getElem?_eq_getElem (by exact z50 hn3),e1]) ?_
 refine wpAny_Constant_int ?_
 refine fe (m:=12) (by decide) rfl ?_
 intro y hy
 refine P.add_int ?_
 refine args_nil ?_
 refine⟨rfl,rfl,hh,_,_,_,_,_,S7,?_⟩
 intro h_8 S8
 refine aU ?_
 refine af S8 (.new (by kernel_rfl)) ?_
 intro h_9 S9
 refine aU ?_
 refine af S9 (.new (by kernel_rfl)) ?_
 intro h_10 S10
 refine eg ?_
 refine bD (by exact S10) fun s11 K11 hk11 S11=>?_
 replace K11:Kp s s11:=⟨K11.os.trans K7.os,fun z=>K11.gens (K7.gens z)⟩
 replace hk11:s7.toks≤s11.toks:=by simp only at hk11;exact z55 hk11
 obtain⟨tm,S12⟩:∃ tm,St hb tabs L' [(Str.ofString "near", .ref nr),(Str.ofString "many", .int ((1+y:Nat):Int) tm),(Str.ofString "numbers", .ref nb),(Str.ofString "script", .ref sc)] (((nr,ae (bf ns) nc)::(X7++((nb,ae nvs 0)::X5)))++T) s11.heap:=by
  rw[Int.natCast_add]
  refine⟨_,S11.perm ?_⟩
  rw[List.cons_append,List.append_assoc,List.cons_append]
 refine k s11 _ nb nr nvs 0 nc x (1+y) tm s5.toks ns K11 hn3 hn6 hni hx (by exact z56) (by exact z57 hy) hk (by exact z58 htk hk2 hu0 hu1 hu2 hk5) ⟨fun e he=>?_,hT.inj⟩ (fun e he=>.tail _ (List.mem_append_left _ (hN e he))) (.head _) (.tail _ (List.mem_append_right _ (.head _))) S12
 rcases hT.tok e he with q | q
 ·exact .inl q
 ·exact .inr ⟨q.1,Nat.lt_of_lt_of_le q.2 hk11⟩
end
end
section
open PySem.Spec
def eh:List (Str×Tok):=[(Str.ofString "ABC", 743),(Str.ofString "", 744),(Str.ofString "ZZZZZZZZZ", 745),(Str.ofString "JKLMNOPQR", 746)]
theorem fq:∀ b:Fin 20,Float64.isInf (Float64.ofInt ((b.val:Nat):Int))=false∧(b.val=0∨Float64.isZero (Float64.ofInt ((b.val:Nat):Int))=false):=by decide +kernel
abbrev bI(ns:List Nr):List (Str×Tok):=ns.map (·.x)
theorem nf:∀ p:Fin 9,((b8 p.val).all fun e=>decide (e.2.1<20) && decide (0<e.2.2) && decide (e.2.2<20))=true:=by decide +kernel
section
variable{w:World}{A:Around}{E:VP}{s:Shared}{hb:Heap}{L' sc nb nr:Addr}{T:List (Addr×Obj)}{scv nvs:List Value}{x many nn nc:Nat}{tm:Tok}{ns:List Nr}
abbrev nm4 (nr nb sc:Addr) (many:Nat) (tm:Tok):List (Str×Value):=[(Str.ofString "near", .ref nr),(Str.ofString "many", .int (many:Int) tm),(Str.ofString "numbers", .ref nb),(Str.ofString "script", .ref sc)]
theorem law_b(G:Gd (KN w.params) tabs hb)(hh:A.handled=none)(hNk:ns.map Nr.k=b8 x)(hN:n8 T ns)(hnr:(nr,ae (bf ns) nc)∈T)(S:St hb tabs L' (nm4 nr nb sc many tm) T s.heap){Q:FP}
  (k:∀ (s':Shared) (wd:Addr) (c:Nat),Kp s s'→St hb tabs L' ((Str.ofString "words", .ref wd)::nm4 nr nb sc many tm) ((wd,ae ((bI ns).map aj) c)::T) s'.heap→wpAny (model pw w) (A.deeper (aK w L')) (execs (et.drop 3) (aK w L')) Q E s') :
  wpAny (model pw w) (A.deeper (aK w L')) (execs (et.drop 2) (aK w L')) Q E s:=by
 have hnl:ns.length=10:=by
  have:=congrArg List.length hNk
  rw[List.length_map,cw] at this
  exact this
 refine eB (hb:=hb) (tabs:=tabs) (l':=fun D=>(Str.ofString "words", .ref D)::nm4 nr nb sc many tm) hh ?_ rfl rfl (.inl ⟨_,_,rfl⟩) (by decide) (by decide) rfl (by decide)
 refine ac S m0 ?_
 refine⟨_,T,nr,bf ns,nc,fun i acc X=>X=[]∧acc=((bI ns).take i).map aj,rfl,S,(fun D=>.new (by kernel_rfl)),hnr,by rw[bp];exact z59 hnl,⟨rfl,rfl⟩,?_,?_⟩
 ·rintro C D oL E' i v acc c X own s_2 hi hacc ⟨rfl,hJ⟩ hr_2 K2 S_2
  have hv:∃ e,ns[i]? = some e∧v=.ref e.a:=by
   rw[bf,List.getElem?_map] at hi
   obtain⟨e,h1,h2⟩:=Option.map_eq_some_iff.mp hi
   exact⟨e,h1,h2.symm⟩
  obtain⟨e,he,rfl⟩:=hv
  have hm:=hN e (List.mem_of_getElem? he)
  refine aT ?_
  refine aG (env:=compEnv _ C _) (by exact S_2) (.new (by kernel_rfl)) ?_
  intro h_3 S_3
  refine cA bo ?_
  refine aw (env:=compEnv _ C _) (by exact S_3) m0 ?_
  refine wpAny_Constant_int ?_
  have hm':(e.a,au e.vs)∈(D,ae acc c)::([]++((L',oL)::T))++own:=List.mem_append_left _ (.tail _ (.tail _ hm))
  refine⟨⟨_,S_3.obj _ hm',rfl⟩,?_⟩
  refine f9 (by exact S_3) hm' (by simp) ?_
  refine⟨[],_,⟨K2.os,K2.gens⟩,(by exact S_3),rfl,?_⟩
  have e2:(bI ns)[i]? = some e.x:=by rw[List.getElem?_map,he];rfl
  rw[List.take_add_one,e2,hJ]
  simp
 ·rintro s3 D acc c X K3 S_3 hl_3 ⟨rfl,rfl⟩
  have e1:((bI ns).take (bf ns).length).map aj=(bI ns).map aj:=by
   rw[List.take_of_length_le (by rw[bp,List.length_map];exact Nat.le_refl _)]
  rw[e1] at S_3
  exact k s3 D c K3 (by exact S_3)
abbrev nm7 (du ro tw wd nr nb sc:Addr) (many:Nat) (tm:Tok):List (Str×Value):=(Str.ofString "due", .ref du)::(Str.ofString "row", .ref ro)::(Str.ofString "twice", .ref tw)::(Str.ofString "words", .ref wd)::nm4 nr nb sc many tm
theorem qX(G:Gd (KN w.params) tabs hb)(hd:A.depth+60<recursionLimit)(hu:A.units+1000<cLine)(hh:A.handled=none)(H:Scr hb sc scv)(hnl:ns.length=10){h_0:Nr}{nt:List Nr}(hns:ns=h_0::nt){wd:Addr}{c:Nat}(hwd:(wd,ae ((bI ns).map aj) c)∈T)
  (S:St hb tabs L' ((Str.ofString "words", .ref wd)::nm4 nr nb sc many tm) T s.heap) {Q:FP}
  (k:∀ (s':Shared) (X:List (Addr×Obj)) (tw ro du:Addr) (m c1 c2 c3:Nat) (row:List (Str×Tok)),Kp s s'→m<3→row.Perm (bI ns++List.replicate m h_0.x++eh) →
   (tw,ae ((List.replicate m h_0.x).map aj) c1)∈X→(ro,ae (row.map aj) c2)∈X→(du,ae ((List.replicate m h_0.x++bI ns).map aj) c3)∈X →
   St hb tabs L' (nm7 du ro tw wd nr nb sc many tm) (X++T) s'.heap→wpAny (model pw w) (A.deeper (aK w L')) (execs (et.drop 6) (aK w L')) Q E s') :
  wpAny (model pw w) (A.deeper (aK w L')) (execs (et.drop 3) (aK w L')) Q E s:=by
 have hwl:((bI ns).map aj).length=10:=by rw[List.length_map,List.length_map,hnl]
 have hw1:((bI ns).map aj).take 1=[aj h_0.x]:=by rw[hns];rfl
 refine ak ?_
 refine wpAny_BinOp ?_
 refine cj (hb:=hb) (tabs:=tabs) ?_
 refine ac S m0 ?_
 refine wpAny_Constant_int ?_
 refine⟨_,_,_,wd,_,c,1,_,rfl,rfl,S,hwd,by exact z59 hwl,?_⟩
 intro D1 X1 h_1 S_1
 rw[hw1] at S_1
 refine wpAny_BinOp ?_
 refine ap ?_
 refine ai G S_1 boot_len ?_
 refine ag ?_
 refine args_cons ?_
 refine ac S_1 m4 ?_
 refine args_nil ?_
 refine PyProof.Rows.len_list (items:=scv.toArray) (H.isList S_1) (by have:=H.small;rw[List.size_toArray];lia) ?_
 refine wpAny_Constant_int ?_
 refine fe (m:=3) (by decide) rfl ?_
 intro m hm
 refine pc S_1 m0 (by simp) (by exact z13) (by exact z5b hm) (by simp) ?_
 intro tw h_2 S_2
 have e1:(List.replicate ((m:Int)).toNat [aj h_0.x]).flatten=(List.replicate m h_0.x).map aj:=by
  rw[Int.toNat_natCast,List.map_replicate,lm_rep_flat_one]
 rw[e1] at S_2
 refine af S_2 (.new (by kernel_rfl)) ?_
 intro h_3 S_3
 refine az (by exact S_3) fun s3 K3 S_3=>?_
 replace K3:Kp s s3:=⟨K3.os,K3.gens⟩
 have hwd3:(wd,ae ((bI ns).map aj) c)∈(tw,ae ((List.replicate m h_0.x).map aj) 0)::(D1,ae [aj h_0.x] 0)::(X1++T):=.tail _ (.tail _ (List.mem_append_right _ hwd))
 have hml:((List.replicate m h_0.x).map aj).length=m:=by rw[List.length_map,List.length_replicate]
 refine ak ?_
 refine ap ?_
 refine aq G S_3 (v:=.ref 301) (by kernel_rfl) ?_
 refine aN G ?_
 refine args_cons ?_
 refine ac S_3 m5 ?_
 refine args_cons ?_
 refine wpAny_BinOp ?_
 refine wpAny_BinOp ?_
 refine ac S_3 m1 ?_
 refine ac S_3 m0 ?_
 refine dX S_3 hwd3 m0 (by exact z5c hwl hm hml) ?_
 intro D4 h_4 S4
 refine ap ?_
 refine ai G S4 (v:=.type "list") (by kernel_rfl) ?_
 refine bb ?_
 refine args_cons ?_
 refine aq G S4 (v:=.ref 287) (by kernel_rfl) ?_
 refine args_nil ?_
 refine eS (vs:=eh.map aj) (n:=0) (o:=mT w.params) S4 (.inr rfl) (S4.kin G 287 _ (by kernel_rfl)) rfl rfl (by decide) ?_
 intro D5 c_5 h_5 S5
 refine dX S5 m1 m0 (by rw[List.length_append,hwl,hml];simp[eh];exact z5d hm) ?_
 intro D6 h_6 S6
 refine args_nil ?_
 refine⟨⟨_,_,_,S6⟩,?_⟩
 have e2:((bI ns).map aj++(List.replicate m h_0.x).map aj)++eh.map aj=(bI ns++List.replicate m h_0.x++eh).map aj:=by simp
 rw[e2] at S6
 refine qY (ws:=bI ns++List.replicate m h_0.x++eh) (nw:=0) G (by exact S6) (by show A.depth+1+10<_;exact dn 49 hd) (by show A.units+3+100<cLine;exact dn 897 hu) hh H m0 (by simp[eh];exact z5f hnl hm) ?_
 intro s7 X7 ro c7 row K7 S7 hrow
 replace K7:Kp s s7:=⟨K7.os.trans K3.os,fun z=>K7.gens (K3.gens z)⟩
 refine af (by exact S7) (.new (by kernel_rfl)) ?_
 intro h_8 S8
 refine az (by exact S8) fun s8 K8 S8=>?_
 replace K8:Kp s s8:=⟨K8.os.trans K7.os,fun z=>K8.gens (K7.gens z)⟩
 have mtw:(tw,ae ((List.replicate m h_0.x).map aj) 0)∈(ro,ae (row.map aj) c7)::(X7++((D6,ae ((bI ns++List.replicate m h_0.x++eh).map aj) 0)::(D5,ae (eh.map aj) c_5)::(D4,ae ((bI ns).map aj++(List.replicate m h_0.x).map aj) 0)::(tw,ae ((List.replicate m h_0.x).map aj) 0)::(D1,ae [aj h_0.x] 0)::(X1++T))) :=
  .tail _ (List.mem_append_right _ (.tail _ (.tail _ (.tail _ (.head _)))))
 have mwd:(wd,ae ((bI ns).map aj) c)∈(ro,ae (row.map aj) c7)::(X7++((D6,ae ((bI ns++List.replicate m h_0.x++eh).map aj) 0)::(D5,ae (eh.map aj) c_5)::(D4,ae ((bI ns).map aj++(List.replicate m h_0.x).map aj) 0)::(tw,ae ((List.replicate m h_0.x).map aj) 0)::(D1,ae [aj h_0.x] 0)::(X1++T))) :=
  .tail _ (List.mem_append_right _ (.tail _ (.tail _ (.tail _ hwd3))))
 refine ak ?_
 refine wpAny_BinOp ?_
 refine ac S8 m1 ?_
 refine ac S8 m2 ?_
 refine dX (by exact S8) mtw mwd (by exact z5g hwl hm hml) ?_
 intro du h_9 S9
 refine af S9 (.new (by kernel_rfl)) ?_
 intro h_10 S10
 refine az (by exact S10) fun s10 K10 S10=>?_
 replace K10:Kp s s10:=⟨K10.os.trans K8.os,fun z=>K10.gens (K8.gens z)⟩
 have e3:(List.replicate m h_0.x).map aj++(bI ns).map aj=(List.replicate m h_0.x++bI ns).map aj:=by simp
 rw[e3] at S10
 have S11:St hb tabs L' (nm7 du ro tw wd nr nb sc many tm) (((du,ae ((List.replicate m h_0.x++bI ns).map aj) 0)::(ro,ae (row.map aj) c7)::(X7++((D6,ae ((bI ns++List.replicate m h_0.x++eh).map aj) 0)::(D5,ae (eh.map aj) c_5)::(D4,ae ((bI ns).map aj++(List.replicate m h_0.x).map aj) 0)::(tw,ae ((List.replicate m h_0.x).map aj) 0)::(D1,ae [aj h_0.x] 0)::X1)))++T) s10.heap:=by
  simpa using S10
 exact k s10 _ tw ro du m 0 c7 0 row K10 hm hrow (.tail _ (.tail _ (List.mem_append_right _ (.tail _ (.tail _ (.tail _ (.head _))))))) (.tail _ (.head _)) (.head _) S11
end
end
section
open PySem.Spec
section
variable{w:World}{A:Around}{E:VP}{s:Shared}{hb:Heap}{L' sc nb nr du ro tw wd:Addr}{T:List (Addr×Obj)}{scv nvs:List Value}{x many nn nc:Nat}{tm:Tok}{ns:List Nr}
abbrev nm8 (sh du ro tw wd nr nb sc:Addr) (many:Nat) (tm:Tok):List (Str×Value):=(Str.ofString "shares", .ref sh)::nm7 du ro tw wd nr nb sc many tm
theorem qW(G:Gd (KN w.params) tabs hb)(hh:A.handled=none)(hx:x<9)(hNk:ns.map Nr.k=b8 x)(hN:n8 T ns)(hnr:(nr,ae (bf ns) nc)∈T)(S:St hb tabs L' (nm7 du ro tw wd nr nb sc many tm) T s.heap){Q:FP}
  (k:∀ (s':Shared) (sh:Addr) (c:Nat) (ps:List (UInt64×Tok)),Kp s s'→ps.map (·.1)=scs.take 10→St hb tabs L' (nm8 sh du ro tw wd nr nb sc many tm) ((sh,ae (ps.map dD) c)::T) s'.heap→wpAny (model pw w) (A.deeper (aK w L')) (execs (et.drop 7) (aK w L')) Q E s') :
  wpAny (model pw w) (A.deeper (aK w L')) (execs (et.drop 6) (aK w L')) Q E s:=by
 have hnl:ns.length=10:=by
  have:=congrArg List.length hNk
  rw[List.length_map,cw] at this
  exact this
 have hbc:∀ e∈ns,e.b<20∧0<e.c∧e.c<20:=fun e he=>by
  have h1:=nf ⟨x,hx⟩
  dsimp only at h1
  rw[← hNk] at h1
  have h2:=List.all_eq_true.mp h1 e.k (List.mem_map.mpr ⟨e,he,rfl⟩)
  simpa [and_assoc] using h2
 have hsc:ns.map (fun e=>shF e.b e.c)=scs.take 10:=by
  have:ns.map (fun e=>shF e.b e.c)=(ns.map Nr.k).map (fun e=>shF e.2.1 e.2.2):=by rw[List.map_map];rfl
  rw[this,hNk]
  rfl
 refine eB (hb:=hb) (tabs:=tabs) (l':=fun D=>nm8 D du ro tw wd nr nb sc many tm) hh ?_ rfl rfl (.inr ⟨_,_,_,rfl⟩) (by decide) (by decide) rfl (by decide)
 refine ac S m4 ?_
 refine⟨_,T,nr,bf ns,nc,fun i acc X=>X=[]∧∃ ps:List (UInt64×Tok),acc=ps.map dD∧ps.map (·.1)=(ns.take i).map fun e=>shF e.b e.c,rfl,S,(fun D=>.new (by kernel_rfl)),hnr,by rw[bp];exact z59 hnl,⟨rfl,[],rfl,rfl⟩,?_,?_⟩
 ·rintro C D oL E' i v acc c X own s_2 hi hacc ⟨rfl,ps,rfl,hJ⟩ hr_2 K2 S_2
  have hv:∃ e,ns[i]? = some e∧v=.ref e.a:=by
   rw[bf,List.getElem?_map] at hi
   obtain⟨e,h1,h2⟩:=Option.map_eq_some_iff.mp hi
   exact⟨e,h1,h2.symm⟩
  obtain⟨e,he,rfl⟩:=hv
  have hem:=List.mem_of_getElem? he
  have hm:=hN e hem
  obtain⟨b1,b2,b3⟩:=hbc e hem
  have f1:=(fq ⟨e.b,b1⟩).1
  have f2:=(fq ⟨e.c,b3⟩).1
  have f3:=(fq ⟨e.c,b3⟩).2.resolve_left (by simp;exact z1i b2)
  dsimp only at f1 f2 f3
  refine bG hh S_2 (List.mem_append_left _ (.tail _ (.tail _ hm))) ?_
  intro h_3 S_3
  refine aA ?_
  refine aG (env:=compEnv _ C _) (by exact S_3) (.new (by kernel_rfl)) ?_
  intro h_4 S4
  refine aA ?_
  refine aG (env:=compEnv _ C _) (by exact S4) (.new (by kernel_rfl)) ?_
  intro h_5 S5
  refine aA ?_
  refine aG (env:=compEnv _ C _) (by exact S5) (.new (by kernel_rfl)) ?_
  intro h_6 S6
  refine bx ?_
  refine wpAny_BinOp ?_
  refine wpAny_BinOp ?_
  refine PySem.AutoFloatOps.wpAny_Constant_float ?_
  refine aw (env:=compEnv _ C _) (by exact S6) m1 ?_
  refine PySem.AutoFloatOpsIf.mul_fi ?_
  rw[if_neg (by rw[f1];decide)]
  refine aw (env:=compEnv _ C _) (by exact S6) m0 ?_
  refine PySem.AutoFloatOpsIf.truediv_fi ?_
  rw[if_neg (by rw[f2];decide),if_neg (by rw[f3];decide)]
  refine⟨[],_,⟨K2.os,K2.gens⟩,(by exact S6),rfl,ps++[(shF e.b e.c,_)],by rw[List.map_append];rfl,?_⟩
  rw[List.map_append,hJ,List.take_add_one,he,List.map_append]
  rfl
 ·rintro s3 D acc c X K3 S_3 hl_3 ⟨rfl,ps,rfl,hJ⟩
  rw[bp,List.take_length,hsc] at hJ
  exact k s3 D c ps K3 hJ (by exact S_3)
end
end
section
open PySem.Spec
theorem rF(w:World){c:UInt64}(hc:c∈one64::scs.take 10)(t:Tok):rL w (.float c t) (geF c):=by
 have h:=List.all_eq_true.mp rE c hc
 obtain⟨h1,h2⟩:=Bool.and_eq_true_iff.mp h
 exact⟨fun hq=>AutoFloatOps.ge_0 hq,fun hq=>AutoFloatOps.le_0 (by rw[h1];exact hq),fun hq=>AutoFloatOps.le_0 (by rw[h2];exact hq)⟩
theorem cutI(w:World)(t:Tok):rL w (.int 0 t) geI :=
 ⟨fun hq=>PyProof.Rows.ge_fi hq,fun hq=>PyProof.Rows.le_fi (by rw[ik.1];exact hq),fun hq=>PyProof.Rows.le_if (by rw[ik.2];exact hq)⟩
theorem gm(p:Nat):(UU p).length=14:=rfl
theorem lY{p:Nat}(hp:p<9){y:Str}(hy:y∈UU p):∃ i,An4 (i<14) ((UU p)[i]? = some y) (rkU p y=20 - i) (scr y WRD=scs.getD i 0):=by
 have hi:=List.idxOf_lt_length_of_mem hy
 rw[gm] at hi
 have e1:(UU p)[(UU p).idxOf y]? = some y:=by
  rw[List.getElem?_eq_getElem (by rw[gm];exact hi)]
  exact congrArg some (List.getElem_idxOf _)
 refine⟨(UU p).idxOf y,hi,e1,rfl,?_⟩
 have h:=jk ⟨p,hp⟩
 dsimp only at h
 rw[← h,List.getD_eq_getElem?_getD,List.getElem?_map,e1]
 rfl
theorem rk_ok{p:Nat}(hp:p<9){Es:List Sc}(h:∀ e∈Es,e.x.1∈UU p∧e.f=scr e.x.1 WRD):gr (fun _ y=>rkU p y) Es:=by
 intro e he e' he'
 obtain⟨m1,f1⟩:=h e he
 obtain⟨m2,f2⟩:=h e' he'
 obtain⟨i,hi,ei,ri,si⟩:=lY hp m1
 obtain⟨j,hj,ej,rj,sj⟩:=lY hp m2
 have hb:=mE ⟨p,hp⟩
 unfold rkB at hb
 have hb2:=List.all_eq_true.mp (List.all_eq_true.mp hb i (List.mem_range.mpr hi)) j (List.mem_range.mpr hj)
 dsimp only at hb2
 have gi:(UU p).getD i WRD=e.x.1:=by rw[List.getD_eq_getElem?_getD,ei];rfl
 have gj:(UU p).getD j WRD=e'.x.1:=by rw[List.getD_eq_getElem?_getD,ej];rfl
 rw[gi,gj,← si,← sj,← f1,← f2] at hb2
 simp only[Bool.and_eq_true] at hb2
 obtain⟨⟨⟨⟨c1,c2⟩,c3⟩,c4⟩,c5⟩:=hb2
 have ri':rkU p e.x.1=20 - i:=ri
 have rj':rkU p e'.x.1=20 - j:=rj
 show _∧_∧_∧_∧_
 dsimp only
 rw[ri',rj']
 have c1':=eq_of_beq c1
 refine⟨?_,fun q=>?_,fun q=>?_,fun q=>?_,fun q=>?_⟩
 ·rw[c1',beq_iff_eq];omega
 ·rw[q,Bool.false_or] at c2
  rw[eq_of_beq c2,decide_eq_true_eq];omega
 ·rw[q,Bool.not_true,Bool.false_or] at c3
  have:=decide_eq_decide.mp (eq_of_beq c3)
  rw[this];omega
 ·rw[q,Bool.false_or] at c4
  rw[eq_of_beq c4,decide_eq_true_eq];omega
 ·rw[q,Bool.not_true,Bool.false_or] at c5
  have:=decide_eq_decide.mp (eq_of_beq c5)
  rw[this];omega
theorem ck{p m c:Nat}(hp:p<9)(hm:m<3){K:Str→Bool}(hK:(UU p).filter K=(UU p).take c)(hc:0<c){rw P:List (Str×Tok)}(hr:(rw.map (·.1)).Perm (List.replicate m WRD++UU p))(hP:P.Perm (rw.filter fun x=>K x.1))
  (hw:P.Pairwise fun a b=>rkU p b.1≤rkU p a.1):P.map (·.1)=List.replicate m WRD++(UU p).take c:=by
 have hW:K WRD=true:=by
  have:WRD∈(UU p).filter K:=by
   rw[hK]
   cases c with
   | zero=>exact z5h hc
   | succ c=>exact .head _
  exact (List.mem_filter.mp this).2
 have hsub:(List.replicate m WRD++(UU p).take c).Sublist (List.replicate m WRD++UU p):=(List.Sublist.refl _).append (List.take_sublist _ _)
 have h1:(P.map (·.1)).Perm (List.replicate m WRD++(UU p).take c):=by
  have e1:(rw.filter fun x=>K x.1).map (·.1)=(rw.map (·.1)).filter K:=by
   rw[List.filter_map];rfl
  have e2:(List.replicate m WRD++UU p).filter K=List.replicate m WRD++(UU p).take c:=by
   rw[List.filter_append,hK,List.filter_replicate,if_pos hW]
  have:=hP.map (·.1)
  rw[e1] at this
  exact this.trans (e2▸hr.filter K)
 have hU:∀ a∈List.replicate m WRD++UU p,a∈UU p:=fun a ha=>by
  rcases List.mem_append.mp ha with q | q
  ·rw[List.eq_of_mem_replicate q];exact .head _
  ·exact q
 refine bR (rkU p) h1 (by rw[List.pairwise_map];exact hw) ((kI ⟨p,hp⟩ ⟨m,hm⟩).sublist hsub) ?_
 intro a ha b hb hab
 have ha':=hU a (hsub.subset (h1.mem_iff.mp ha))
 have hb':=hU b (hsub.subset (h1.mem_iff.mp hb))
 have h2:=List.all_eq_true.mp (List.all_eq_true.mp (mC ⟨p,hp⟩) a ha') b hb'
 dsimp only at h2
 rw[hab] at h2
 simpa using h2
end
section
open PySem.Spec PySem.SeqAt
def gc:List (Str×Tok):=(Str.ofString "", 539)::eh
theorem rr:(gc.all fun p=>gc.all fun q=>(p.2 != q.2 || p.1 == q.1) && p.2 != 0 && decide (p.2<776) && p.2 != 741)=true:=by decide +kernel
theorem oT{ns:List Nr}{t0 t1:Nat}(ht:776≤t0)(hT:NTk t0 t1 ns):∀ p,(p∈gc∨∃ e∈ns,e.x=p)→p.2≠0∧∀ q,(q∈gc∨∃ e∈ns,e.x=q)→p.2=q.2→p.1=q.1:=by
 have fx:∀ p∈gc,(∀ q∈gc,p.2=q.2→p.1=q.1)∧p.2≠0∧p.2<776∧p.2≠741:=by
  intro p hp
  have h:=List.all_eq_true.mp rr p hp
  refine⟨fun q hq e=>?_,?_⟩
  ·have h2:=List.all_eq_true.mp h q hq
   simp only[Bool.and_eq_true] at h2
   have h3:=h2.1.1.1
   rw[e] at h3
   simpa using h3
  ·have h2:=List.all_eq_true.mp h p hp
   simp only[Bool.and_eq_true] at h2
   exact⟨by simpa using h2.1.1.2,by simpa using h2.1.2,by simpa using h2.2⟩
 have nz:∀ e∈ns,e.t≠0∧(e.t=741∨776≤e.t):=fun e he=>by
  rcases hT.tok e he with q | q
  ·have h1:e.t=741:=q.1
   exact⟨by exact z5l q.1,.inl h1⟩
  ·have h1:=q.1
   exact⟨by exact z5n ht q.1,.inr (by exact z5o ht q.1)⟩
 intro p hp
 rcases hp with hp | ⟨e,he,rfl⟩
 ·obtain⟨f1,f2,f3,f4⟩:=fx p hp
  refine⟨f2,fun q hq hpq=>?_⟩
  rcases hq with hq | ⟨e,he,rfl⟩
  ·exact f1 q hq hpq
  ·exfalso
   have h1:(p.2:Nat)=e.t:=hpq
   have h3:(p.2:Nat)<776:=f3
   have h4:¬ (p.2:Nat)=741:=f4
   rcases (nz e he).2 with z | z
   ·exact h4 (h1.trans z)
   ·exact absurd (h1▸h3:e.t<776) (Nat.not_lt.mpr z)
 ·refine⟨(nz e he).1,fun q hq hpq=>?_⟩
  rcases hq with hq | ⟨e',he',rfl⟩
  ·exfalso
   obtain⟨f1,f2,f3,f4⟩:=fx q hq
   have h1:e.t=(q.2:Nat):=hpq
   have h3:(q.2:Nat)<776:=f3
   have h4:¬ (q.2:Nat)=741:=f4
   rcases (nz e he).2 with z | z
   ·exact h4 (h1.symm.trans z)
   ·exact absurd (h1▸h3:e.t<776) (Nat.not_lt.mpr z)
  ·obtain⟨i,hi,ei⟩:=List.mem_iff_getElem.mp he
   obtain⟨j,hj,ej⟩:=List.mem_iff_getElem.mp he'
   have hpq':e.t=e'.t:=hpq
   rcases Nat.lt_trichotomy i j with q | q | q
   ·have:=List.pairwise_iff_getElem.mp hT.inj i j hi hj q
    rw[ei,ej] at this;lia
   ·subst q;rw[← ei,← ej]
   ·have:=List.pairwise_iff_getElem.mp hT.inj j i hj hi q
    rw[ei,ej] at this;lia
section
variable{w:World}{A:Around}{E:VP}{s:Shared}{hb:Heap}{L pd:Addr}{T:List (Addr×Obj)}{l:List (Str×Value)}{cut:Value}{R:Result→Shared→Prop}{rw:List (Str×Tok)}{nd n x:Nat}{tn:Tok}{g:UInt64→Bool}{args:Args}
theorem de(G:Gd (KN w.params) tabs hb)(B:BM hb)(S:St hb tabs L l T s.heap)(hd:A.depth+40<recursionLimit)(hu:A.units+200<cLine)(hh:A.handled=none)(C:rL w cut g)(hx:x<9)(hpd:(pd,ae (rw.map aj) nd)∈T)
  (hbind:BindsTo s (gN w.params) args [(Str.ofString "word", .str WRD 741),(Str.ofString "possibilities", .ref pd),(Str.ofString "n", .int n tn),(Str.ofString "cutoff", cut)])
  (hn:0<n) (hn60:n≤60) (hrl:rw.length≤60) (hmem:∀ p∈rw,p.1∈UU x)
  (htk:∀ p∈(Str.ofString "", 539)::rw,p.2≠0∧∀ q∈(Str.ofString "", 539)::rw,p.2=q.2→p.1=q.1)
  (k:∀ (s':Shared) (X:List (Addr×Obj)) (r:Addr) (nr:Nat) (P:List (Str×Tok)),Kp s s'→St hb tabs L l ((r,ae ((P.take n).map aj) nr)::(X++T)) s'.heap→P.Perm (rw.filter fun y=>dq g y.1 WRD)→P.Pairwise (fun a b=>rkU x b.1≤rkU x a.1)→R (.ok (.ret (.ref r))) s') :
  codeAny (model pw w) A (.call (.ref 286) args) R s:=by
 have hsz:∀ y∈UU x,y.cps.size≤60:=fun y hy=>by
  have h:=List.all_eq_true.mp (ki ⟨x,hx⟩) y hy
  have:=of_decide_eq_true h
  exact z5m h
 refine gcm_c (wd:=(WRD,741)) (rk:=fun _ y=>rkU x y) G B (nl_c G) S hd hu hh C hpd hbind hn hn60 hrl (by decide +kernel) (fun p hp=>hsz _ (hmem p hp)) (by decide) (by decide +kernel) (fun h=>absurd h (by decide)) htk ?_ ?_
 ·intro Es hE
  exact rk_ok hx fun e he=>⟨hmem _ (hE e he).1,(hE e he).2⟩
 ·intro s' X r nr P K' S' hP hw
  exact k s' X r nr P K' S' hP hw
end
end
section
open PySem.Spec PySem.SeqAt
def Has(T:List (Addr×Obj))(a:Addr)(vs:List Value):Prop:=∃ c,(a,ae vs c)∈T
theorem eo{α:Type}{n:Nat}{l:List α}(h:l.length=n+1):∃ a t,l=a::t∧t.length=n:=by
 cases l with
 | nil=>cases h
 | cons a t=>exact⟨a,t,rfl,Nat.succ.inj h⟩
theorem ten{α:Type}{P:List α→Prop}(h:∀ a b c d e f g i j k,P [a,b,c,d,e,f,g,i,j,k]){l:List α}(hl:l.length=10):P l:=by
 obtain⟨a,t0,rfl,h0⟩:=eo hl
 obtain⟨b,t1,rfl,h1⟩:=eo h0
 obtain⟨c,t2,rfl,h2⟩:=eo h1
 obtain⟨d,t3,rfl,h3⟩:=eo h2
 obtain⟨e,t4,rfl,h4⟩:=eo h3
 obtain⟨f,t5,rfl,h5⟩:=eo h4
 obtain⟨g,t6,rfl,h6⟩:=eo h5
 obtain⟨i,t7,rfl,h7⟩:=eo h6
 obtain⟨j,t8,rfl,h8⟩:=eo h7
 obtain⟨k,t9,rfl,h9⟩:=eo h8
 cases t9 with
 | nil=>exact h ..
 | cons=>cases h9
theorem Has.mono{T T':List (Addr×Obj)}{a:Addr}{vs:List Value}(h:Has T a vs)(hs:∀ p∈T,p∈T'):Has T' a vs:=let ⟨c,q⟩:=h;⟨c,hs _ q⟩
structure LF(nr tw ro du sh nb:Addr)(ns:List Nr)(ps:List (UInt64×Tok))(row:List (Str×Tok))(h_0:Nr)(nvs:List Value)(x m t0 t1:Nat)(T:List (Addr×Obj)):Prop where
 hx:x<9
 hm:m<3
 hk:ns.map Nr.k=b8 x
 hh:ns[0]? = some h_0
 ht:776≤t0
 tk:NTk t0 t1 ns
 hrow:row.Perm (bI ns++List.replicate m h_0.x++eh)
 hps:ps.map (·.1)=scs.take 10
 nv3:3≤nvs.length
 nv6:nvs.length≤6
 nvi:∀ v∈nvs,Ex2 fun i t=>v=Value.int i t
 mN:n8 T ns
 mnr:Has T nr (bf ns)
 mtw:Has T tw ((List.replicate m h_0.x).map aj)
 mro:Has T ro (row.map aj)
 mdu:Has T du ((List.replicate m h_0.x++bI ns).map aj)
 msh:Has T sh (ps.map dD)
 mnb:Has T nb nvs
section
variable{nr tw ro du sh nb:Addr}{ns:List Nr}{ps:List (UInt64×Tok)}{row:List (Str×Tok)}{h_0:Nr}{nvs:List Value}{x m t0 t1:Nat}{T T':List (Addr×Obj)}
theorem LF.mono(F:LF nr tw ro du sh nb ns ps row h_0 nvs x m t0 t1 T)(hs:∀ p∈T,p∈T'):LF nr tw ro du sh nb ns ps row h_0 nvs x m t0 t1 T' :=
 { F with mN:=fun e he=>hs _ (F.mN e he),mnr:=F.mnr.mono hs,mtw:=F.mtw.mono hs,mro:=F.mro.mono hs,mdu:=F.mdu.mono hs,msh:=F.msh.mono hs,mnb:=F.mnb.mono hs }
theorem LF.nl(F:LF nr tw ro du sh nb ns ps row h_0 nvs x m t0 t1 T):ns.length=10:=by
 have:=congrArg List.length F.hk
 rw[List.length_map,cw] at this
 exact this
theorem LF.pl(F:LF nr tw ro du sh nb ns ps row h_0 nvs x m t0 t1 T):ps.length=10:=by
 have:=congrArg List.length F.hps
 rw[List.length_map] at this
 exact this
theorem LF.ws(F:LF nr tw ro du sh nb ns ps row h_0 nvs x m t0 t1 T):(bI ns).map (·.1)=(b8 x).map (·.1):=by
 rw[← F.hk,List.map_map,List.map_map];rfl
theorem LF.h0(F:LF nr tw ro du sh nb ns ps row h_0 nvs x m t0 t1 T):h_0.x.1=WRD:=by
 have h1:(ns.map Nr.k)[0]? = some h_0.k:=by rw[List.getElem?_map,F.hh];rfl
 rw[F.hk] at h1
 have h2:(b8 x)[0]? = some (WRD,18,18):=rfl
 rw[h2] at h1
 exact (congrArg Prod.fst (Option.some.inj h1)).symm
theorem LF.h0m(F:LF nr tw ro du sh nb ns ps row h_0 nvs x m t0 t1 T):h_0∈ns:=List.mem_of_getElem? F.hh
theorem LF.rowU(F:LF nr tw ro du sh nb ns ps row h_0 nvs x m t0 t1 T):(row.map (·.1)).Perm (List.replicate m WRD++UU x):=by
 have h1:=F.hrow.map (·.1)
 rw[List.map_append,List.map_append,F.ws,List.map_replicate,F.h0] at h1
 have h2:(eh.map (·.1)).Perm aV:=fN
 refine h1.trans ?_
 have h3:((b8 x).map (·.1)++List.replicate m WRD++eh.map (·.1)).Perm (List.replicate m WRD++(b8 x).map (·.1)++eh.map (·.1)):=List.perm_append_comm.append_right _
 refine h3.trans ?_
 rw[List.append_assoc]
 exact ((h2.append_left _).append_left _)
theorem LF.rl(F:LF nr tw ro du sh nb ns ps row h_0 nvs x m t0 t1 T):row.length=14+m:=by
 have:=F.rowU.length_eq
 rw[List.length_map,List.length_append,List.length_replicate,gm] at this
 exact z5p this
theorem LF.rmem(F:LF nr tw ro du sh nb ns ps row h_0 nvs x m t0 t1 T):∀ p∈row,p.1∈UU x:=fun p hp=>by
 have:=F.rowU.mem_iff.mp (List.mem_map.mpr ⟨p,hp,rfl⟩)
 rcases List.mem_append.mp this with q | q
 ·rw[List.eq_of_mem_replicate q];exact .head _
 ·exact q
theorem LF.rtk (F:LF nr tw ro du sh nb ns ps row h_0 nvs x m t0 t1 T):∀ p∈(Str.ofString "", 539)::row,p.2≠0∧∀ q∈(Str.ofString "", 539)::row,p.2=q.2→p.1=q.1:=by
 have cls:∀ p∈(Str.ofString "", 539)::row,p∈gc∨∃ e∈ns,e.x=p:=fun p hp=>by
  rcases List.mem_cons.mp hp with rfl | hp
  ·exact .inl (.head _)
  ·rcases List.mem_append.mp (F.hrow.mem_iff.mp hp) with q | q
   ·rcases List.mem_append.mp q with q | q
    ·obtain⟨e,he,h⟩:=List.mem_map.mp q
     exact .inr ⟨e,he,h⟩
    ·exact .inr ⟨h_0,F.h0m,(List.eq_of_mem_replicate q).symm⟩
   ·exact .inl (.tail _ q)
 intro p hp
 obtain⟨a,b⟩:=oT F.ht F.tk p (cls p hp)
 exact⟨a,fun q hq=>b q (cls q hq)⟩
def o4(f:UInt64):Nat:=20 - scs.idxOf f
theorem mD:((scs.take 10).all fun f=>(scs.take 10).all fun g=>(Float64.cmp f g == some Ordering.lt) == decide (o4 f<o4 g))=true:=by decide +kernel
theorem jo:(scs.take 10).Pairwise fun a b=>o4 b<o4 a:=by decide +kernel
end
section
variable{w:World}{A:Around}{E:VP}{s:Shared}{hb:Heap}{L' sc nb nr du ro tw wd sh:Addr}{T:List (Addr×Obj)}{x many m t0 t1:Nat}{tm:Tok}{ns:List Nr}{ps:List (UInt64×Tok)}{row:List (Str×Tok)}{h_0:Nr}{nvs:List Value}
theorem ke:bootBuiltins (Str.ofString "set")=some (.type "set"):=by kernel_rfl
theorem law_d(G:Gd (KN w.params) tabs hb)(hu:A.units+1000<cLine)(hh:A.handled=none)(F:LF nr tw ro du sh nb ns ps row h_0 nvs x m t0 t1 T)(S:St hb tabs L' (nm8 sh du ro tw wd nr nb sc many tm) T s.heap){Q:FP}
  (k:∀ (s':Shared) (X:List (Addr×Obj)),Kp s s'→St hb tabs L' (nm8 sh du ro tw wd nr nb sc many tm) (X++T) s'.heap→wpAny (model pw w) (A.deeper (aK w L')) (execs (et.drop 8) (aK w L')) Q E s') :
  wpAny (model pw w) (A.deeper (aK w L')) (execs (et.drop 7) (aK w L')) Q E s:=by
 obtain⟨c,hsh⟩:=F.msh
 have hpm:∀ p∈ps,p.1∈scs.take 10:=fun p hp=>by
  rw[← F.hps];exact List.mem_map.mpr ⟨p,hp,rfl⟩
 refine cP ?_
 refine kL ?_
 refine wpAny_isTrue_Compare1 ?_
 refine ac S m0 ?_
 refine bE ?_
 refine ai G S ce ?_
 refine callWith_kw ?_
 refine args_cons ?_
 refine ac S m0 ?_
 refine args_nil ?_
 refine kws_cons ?_
 refine wpAny_Constant_bool ?_
 refine kws_nil ?_
 refine jt o4 S hsh (by rw[F.pl];decide) (fun p hp q hq=>?_) ?_ ?_
 ·have h1:=List.all_eq_true.mp (List.all_eq_true.mp mD p.1 (hpm p hp)) q.1 (hpm q hq)
  exact eq_of_beq h1
 ·have:=jo
  rw[← F.hps,List.pairwise_map] at this
  exact this
 intro s₁ D n' X1 K1 S_1
 have hsh1:(sh,ae (ps.map dD) c)∈(D,ae (ps.map dD) n')::(X1++T):=.tail _ (List.mem_append_right _ hsh)
 have hne:=RcNeAt.lists (A:=A.deeper (aK w L')) (s:=s₁) (e:=fun _=>true) (S_1.isList hsh1) (S_1.isList m0) rfl (by show A.units+3<cLine;exact dn 997 hu) (fun j h1 h2=>EqAt.same _)
 refine hne _ _ _ _ ?_
 have hall:((List.range (ps.map dD).toArray.size).all fun _=>true)=true:=by simp
 rw[hall]
 refine wpAny_truthy_bool ⟨nofun,fun _=>?_⟩
 refine kL ?_
 refine wpAny_isTrue_Compare1 ?_
 refine ap ?_
 refine ai G S_1 boot_len ?_
 refine ag ?_
 refine args_cons ?_
 refine ap ?_
 refine ai G S_1 ke ?_
 refine bb ?_
 refine args_cons ?_
 refine ac S_1 m0 ?_
 refine args_nil ?_
 refine pb (m:=10) hh S_1 hsh1 (fun p hp=>?_) ?_ ?_
 ·have h1:=List.all_eq_true.mp nN p.1 (hpm p hp)
  simp only[Bool.and_eq_true,decide_eq_true_eq] at h1
  exact⟨h1.1.1.1,h1.1.1.2,h1.1.2,h1.2⟩
 ·intro led
  have hpl:=F.pl
  have hps:=F.hps
  revert hps
  refine ten (P:=fun ps=>ps.map (fun x=>x.1)=scs.take 10→Option.map (fun st=>st.1.size) (bV ps #[] (SetTable.fresh 0 0 led))=some 10) ?_ hpl
  intro p0 p1 p2 p3 p4 p5 p6 p7 p8 p9 hps
  simp only[List.map_cons,List.map_nil] at hps
  have e:=hps
  unfold scs at e
  simp only[List.take_succ_cons,List.take_zero,List.cons.injEq,and_true] at e
  obtain⟨e0,e1,e2,e3,e4,e5,e6,e7,e8,e9⟩:=e
  have:=rp led p0.2 p1.2 p2.2 p3.2 p4.2 p5.2 p6.2 p7.2 p8.2 p9.2
  rw[← e0,← e1,← e2,← e3,← e4,← e5,← e6,← e7,← e8,← e9] at this
  exact this
 intro s_2 D2 es ep tb K2 hes hft S_2
 refine args_nil ?_
 refine PySem.call_len_set (S_2.obj _ m0) ⟨rfl,rfl,rfl⟩ rfl hft (by rw[hes];decide) ?_
 rw[hes]
 refine ap ?_
 refine ai G (by exact S_2) boot_len ?_
 refine ag ?_
 refine args_cons ?_
 refine ac (by exact S_2) m0 ?_
 refine args_nil ?_
 refine PyProof.Rows.len_list (items:=(ps.map dD).toArray) (St.isList (by exact S_2) (.tail _ hsh1)) (by rw[List.size_toArray,List.length_map,F.pl];decide) ?_
 rw[List.size_toArray,List.length_map,F.pl]
 refine P.ne_int ?_
 refine wpAny_truthy_bool ⟨fun q=>absurd q (by decide),fun _=>isTrue_or_nil ⟨nofun,fun _=>?_⟩⟩
 refine ax ?_
 exact k _ ((D2,gA es ep tb)::(D,ae (ps.map dD) n')::X1) ⟨K2.os.trans K1.os,fun z=>K2.gens (K1.gens z)⟩ (by exact S_2)
end
end
section
section
variable{prog:Program}{w:World}{A:Around}{E:VP}{s:Shared}{K:Frag}{hb:Heap}{tabs:List Addr}{env:Env}{pos:Pos}{f:Addr}{fd:FuncData}
theorem dM{Q:VP}{e:Expr}{rest:List Expr}{kws:List Keyword}{oc:Value}{od:Option Addr}{osl:Array (Option Value)}(G:Gd K tabs hb)(hK:K.lookup f=some ⟨oc,od,.func fd,osl⟩)
  (h:wpAny (model prog w) A (spliced (backTo pos (starEach (e::rest) env))) (fun vs s₁=>wpAny (model prog w) A (evalAll ((backToKw pos (keywordEach kws env)).map (·.2)))
   (fun ks s_2=>(Ex3 fun L l T=>St hb tabs L l T s_2.heap)∧codeAny (model prog w) A (.call (.ref f) ⟨vs,((backToKw pos (keywordEach kws env)).filterMap (·.1)).zip ks⟩) (fun r s'=>match r with | .ok (.ret v)=>Q v s' | .ok _=>False | .error e=>E e s') s_2) E s₁) E s)
  (hall:(backToKw pos (keywordEach kws env)).all (·.1.isSome)=true:=by rfl) (he:starEach (e::rest) env=(false,eval e env)::starEach rest env:=by rfl) :
  wpAny (model prog w) A (callWith pos (.ref f) [] (backTo pos (starEach (e::rest) env)) (backToKw pos (keywordEach kws env))) Q E s:=by
 refine callWith_def_kw (o:=⟨oc,od,.func fd,osl⟩) (fd:=fd) rfl ?_
 refine evalArgs_kw2 hall ?_ he
 refine wpAny_mono h (fun vs s₁ z=>wpAny_mono z (fun ks s_2 z=>?_) fun _ _ q=>q) fun _ _ q=>q
 obtain⟨⟨L,l,T,S⟩,z⟩:=z
 exact⟨S.kin G f _ hK,wpAny_call z⟩
end
end
section
open PySem.Spec PySem.SeqAt
theorem lB:∀ p:Fin 9,((UU p.val).countP fun y=>y == WRD)=1:=by decide +kernel
section
variable{nr tw ro du sh nb:Addr}{ns:List Nr}{ps:List (UInt64×Tok)}{row:List (Str×Tok)}{h_0:Nr}{nvs:List Value}{x m t0 t1:Nat}{T T':List (Addr×Obj)}
theorem LF.count(F:LF nr tw ro du sh nb ns ps row h_0 nvs x m t0 t1 T):(row.countP fun p=>p.1 == WRD)=m+1:=by
 have h1:(row.countP fun p=>p.1 == WRD)=(row.map (·.1)).countP fun y=>y == WRD:=by rw[List.countP_map];rfl
 rw[h1,F.rowU.countP_eq,List.countP_append,lB ⟨x,F.hx⟩,List.countP_replicate]
 simp
end
section
variable{w:World}{A:Around}{E:VP}{s:Shared}{hb:Heap}{L' sc nb nr du ro tw wd sh:Addr}{T:List (Addr×Obj)}{x many m t0 t1:Nat}{tm:Tok}{ns:List Nr}{ps:List (UInt64×Tok)}{row:List (Str×Tok)}{h_0:Nr}{nvs:List Value}
theorem eO{α:Type}{P rw:List α}{f:α→Bool}(h:P.Perm (rw.filter f)){n:Nat}(hn:rw.length≤n):P.take n=P :=
 List.take_of_length_le (Nat.le_trans (by rw[h.length_eq];exact List.length_filter_le _ _) hn)
theorem kg {L:Addr}{l:List (Str×Value)}{T:List (Addr×Obj)}{a:Str}{ta:Tok}{pd:Addr}{n:Int}{tn:Tok}{cut:Value} (G:Gd (KN w.params) tabs hb) (S:St hb tabs L l T s.heap):BindsTo s (gN w.params) ⟨[.str a ta,.ref pd],[(Str.ofString "n", .int n tn),(Str.ofString "cutoff", cut)]⟩
  [(Str.ofString "word", .str a ta),(Str.ofString "possibilities", .ref pd),(Str.ofString "n", .int n tn),(Str.ofString "cutoff", cut)]:=BindsTo.of_defaults (o:=lP w.params) rfl (S.kin G 281 _ (by kernel_rfl)) rfl rfl rfl
theorem iw{L:Addr}{l:List (Str×Value)}{T:List (Addr×Obj)}{a:Str}{ta:Tok}{pd:Addr}{n:Int}{tn:Tok}{cut:Value}(G:Gd (KN w.params) tabs hb)(S:St hb tabs L l T s.heap):BindsTo s (gN w.params) ⟨[.str a ta,.ref pd,.int n tn,cut],[]⟩
  [(Str.ofString "word", .str a ta),(Str.ofString "possibilities", .ref pd),(Str.ofString "n", .int n tn),(Str.ofString "cutoff", cut)]:=BindsTo.of_defaults (o:=lP w.params) rfl (S.kin G 281 _ (by kernel_rfl)) rfl rfl rfl
theorem ix {L:Addr}{l:List (Str×Value)}{T:List (Addr×Obj)}{a:Str}{ta:Tok}{pd:Addr}{cut:Value} (G:Gd (KN w.params) tabs hb) (S:St hb tabs L l T s.heap):BindsTo s (gN w.params) ⟨[.str a ta,.ref pd],[(Str.ofString "cutoff", cut)]⟩
  [(Str.ofString "word", .str a ta),(Str.ofString "possibilities", .ref pd),(Str.ofString "n", .int (3:Nat) 730),(Str.ofString "cutoff", cut)]:=BindsTo.of_defaults (o:=lP w.params) rfl (S.kin G 281 _ (by kernel_rfl)) rfl rfl rfl
theorem law_e(G:Gd (KN w.params) tabs hb)(B:BM hb)(hd:A.depth+60<recursionLimit)(hu:A.units+1000<cLine)(hh:A.handled=none)(F:LF nr tw ro du sh nb ns ps row h_0 nvs x m t0 t1 T)(S:St hb tabs L' (nm8 sh du ro tw wd nr nb sc many tm) T s.heap){Q:FP}
  (k:∀ (s':Shared) (X:List (Addr×Obj)),Kp s s'→St hb tabs L' (nm8 sh du ro tw wd nr nb sc many tm) (X++T) s'.heap→wpAny (model pw w) (A.deeper (aK w L')) (execs (et.drop 9) (aK w L')) Q E s') :
  wpAny (model pw w) (A.deeper (aK w L')) (execs (et.drop 8) (aK w L')) Q E s:=by
 obtain⟨cr,hro⟩:=F.mro
 obtain⟨ct,htw⟩:=F.mtw
 have hrl:=F.rl
 have hm:=F.hm
 refine cP ?_
 refine kL ?_
 refine wpAny_isTrue_Compare1 ?_
 refine bE ?_
 refine aq G S (v:=.ref 286) (by kernel_rfl) ?_
 refine dM G (jS _) ?_
 refine args_cons ?_
 refine aq G S (v:=.str WRD 741) (by kernel_rfl) ?_
 refine args_cons ?_
 refine ac S m2 ?_
 refine args_nil ?_
 refine kws_cons ?_
 refine ap ?_
 refine ai G S boot_len ?_
 refine ag ?_
 refine args_cons ?_
 refine ac S m2 ?_
 refine args_nil ?_
 refine PyProof.Rows.len_list (items:=(row.map aj).toArray) (S.isList hro) (by rw[List.size_toArray,List.length_map];lia) ?_
 rw[List.size_toArray,List.length_map]
 refine kws_cons ?_
 refine PySem.AutoFloatOps.wpAny_Constant_float ?_
 refine kws_nil ?_
 refine⟨⟨_,_,_,S⟩,?_⟩
 refine de (n:=row.length) (x:=x) (g:=geF one64) G B (by exact S) (by show A.depth+1+40<_;exact dn 19 hd) (by show A.units+3+200<cLine;exact dn 797 hu) hh (rF w (.head _) _) F.hx hro (kg G (by exact S)) (by exact z5u hrl) (by exact z5v hrl hm) (by exact z5v hrl hm) F.rmem F.rtk ?_
 intro s₁ X1 r_1 nr1 Pk K1 S_1 hP hw
 rw[eO hP (Nat.le_refl _)] at S_1
 have hans:=ck F.hx hm (K:=fun y=>dq (geF one64) y WRD) (k9 ⟨x,F.hx⟩) (by decide) F.rowU hP hw
 replace K1:Kp s s₁:=⟨K1.os,K1.gens⟩
 have htw1:(tw,ae ((List.replicate m h_0.x).map aj) ct)∈(r_1,ae (Pk.map aj) nr1)::(X1++T):=.tail _ (List.mem_append_right _ htw)
 refine wpAny_BinOp ?_
 refine ac (by exact S_1) m3 ?_
 refine bc ?_
 refine args_cons ?_
 refine aq G (by exact S_1) (v:=.str WRD 741) (by kernel_rfl) ?_
 refine args_nil ?_
 refine⟨rfl,_,_,_,_,_,S_1,?_⟩
 intro D2 h_2 S_2
 refine dX S_2 (.tail _ htw1) m0 (by rw[List.length_map,List.length_replicate];simp;exact ul 996 hm) ?_
 intro D3 h_3 S_3
 have e1:(List.replicate m h_0.x).map aj++[.str WRD 741]=(List.replicate m h_0.x++([(WRD,741)]:List (Str×Tok))).map aj:=by rw[List.map_append];rfl
 rw[e1] at S_3
 refine dH (xs:=Pk) (ys:=List.replicate m h_0.x++([(WRD,741)]:List (Str×Tok))) ⟨_,S_3.obj _ m2,rfl,nr1,rfl⟩ ⟨_,S_3.obj _ m0,rfl,0,rfl⟩ (by show A.units+3<cLine;exact dn 997 hu) ?_
 have e2:(List.replicate m h_0.x++([(WRD,741)]:List (Str×Tok))).map (·.1)=List.replicate m WRD++[WRD]:=by rw[List.map_append,List.map_replicate,F.h0];rfl
 rw[decide_eq_true (by rw[hans,e2];rfl)]
 refine wpAny_truthy_bool ⟨nofun,fun _=>?_⟩
 refine kL ?_
 refine wpAny_isTrue_Compare1 ?_
 refine aC ?_
 refine ac (by exact S_3) m2 ?_
 have hro3:(ro,ae (row.map aj) cr)∈(D3,ae ((List.replicate m h_0.x++([(WRD,741)]:List (Str×Tok))).map aj) 0)::(D2,ae [.str WRD 741] 0)::(r_1,ae (Pk.map aj) nr1)::(X1++T):=.tail _ (.tail _ (.tail _ (List.mem_append_right _ hro)))
 refine ba (by exact S_3) hro3 PySem.F.slot_list_count PySem.F.type_list_count ?_
 refine ag ?_
 refine args_cons ?_
 refine aq G (by exact S_3) (v:=.str WRD 741) (by kernel_rfl) ?_
 refine args_nil ?_
 refine iE (by exact S_3) hro3 ?_
 rw[F.count]
 refine wpAny_BinOp ?_
 refine wpAny_Constant_int ?_
 refine ap ?_
 refine ai G (by exact S_3) boot_len ?_
 refine ag ?_
 refine args_cons ?_
 refine ac (by exact S_3) m3 ?_
 refine args_nil ?_
 refine PyProof.Rows.len_list (items:=((List.replicate m h_0.x).map aj).toArray) ⟨_,S_3.obj _ (.tail _ (.tail _ htw1)),rfl,ct,rfl⟩ (by rw[List.size_toArray,List.length_map,List.length_replicate];lia) ?_
 rw[List.size_toArray,List.length_map,List.length_replicate]
 refine P.add_int ?_
 refine PySem.P.ne_int ?_
 refine wpAny_truthy_bool ⟨fun q=>?_,fun _=>isTrue_or_nil ⟨nofun,fun _=>?_⟩⟩
 ·exfalso
  have e3:((m+1:Nat):Int)=1+(m:Int):=by exact z5y
  rw[e3] at q
  simp at q
 refine ax ?_
 exact k _ ((D3,ae ((List.replicate m h_0.x++([(WRD,741)]:List (Str×Tok))).map aj) 0)::(D2,ae [.str WRD 741] 0)::(r_1,ae (Pk.map aj) nr1)::X1) ⟨K1.os,K1.gens⟩ (by exact S_3)
end
end
section
open PySem.Spec PySem.SeqAt
section
variable{nr tw ro du sh nb:Addr}{ns:List Nr}{ps:List (UInt64×Tok)}{row:List (Str×Tok)}{h_0:Nr}{nvs:List Value}{x m t0 t1:Nat}{T T':List (Addr×Obj)}
theorem LF.share(F:LF nr tw ro du sh nb ns ps row h_0 nvs x m t0 t1 T){a:Nat}(ha:a<10):∃ t,(ps.map dD)[a]? = some (.float (scs.getD a 0) t)∧scs.getD a 0∈one64::scs.take 10:=by
 have hp:a<ps.length:=by rw[F.pl];exact ha
 have h1:(ps.map (·.1))[a]? = some ps[a].1:=by rw[List.getElem?_map,List.getElem?_eq_getElem hp];rfl
 rw[F.hps,List.getElem?_take,if_pos ha] at h1
 have h2:scs.getD a 0=ps[a].1:=by rw[List.getD_eq_getElem?_getD,h1];rfl
 refine⟨ps[a].2,?_,?_⟩
 ·rw[List.getElem?_map,List.getElem?_eq_getElem hp,h2];rfl
 ·rw[h2,← F.hps]
  exact .tail _ (List.mem_map.mpr ⟨ps[a],List.getElem_mem hp,rfl⟩)
theorem LF.due(F:LF nr tw ro du sh nb ns ps row h_0 nvs x m t0 t1 T){a:Nat}(ha:a<10):((List.replicate m h_0.x++bI ns).take (m+a+1)).map (·.1)=List.replicate m WRD++(UU x).take (a+1):=by
 have e1:(List.replicate m h_0.x).length=m:=List.length_replicate
 rw[List.take_append,e1,List.map_append,List.take_of_length_le (by rw[e1];exact z5z),List.map_replicate,F.h0]
 have e2:m+a+1 - m=a+1:=by exact z60
 rw[e2,List.map_take,F.ws]
 unfold UU
 rw[List.take_append_of_le_length (by rw[List.length_map,cw];exact ha)]
end
section
variable{w:World}{A:Around}{E:VP}{s:Shared}{hb:Heap}{L' sc nb nr du ro tw wd sh:Addr}{T:List (Addr×Obj)}{x many m t0 t1:Nat}{tm:Tok}{ns:List Nr}{ps:List (UInt64×Tok)}{row:List (Str×Tok)}{h_0:Nr}{nvs:List Value}
abbrev qK (to_:Addr) (a:Nat) (ta:Tok) (sh du ro tw wd nr nb sc:Addr) (many:Nat) (tm:Tok):List (Str×Value):=(Str.ofString "told", .ref to_)::(Str.ofString "at", .int (a:Int) ta)::nm8 sh du ro tw wd nr nb sc many tm
theorem law_f(G:Gd (KN w.params) tabs hb)(B:BM hb)(hd:A.depth+60<recursionLimit)(hu:A.units+1000<cLine)(hh:A.handled=none)(F:LF nr tw ro du sh nb ns ps row h_0 nvs x m t0 t1 T)(hmy:1≤many∧many≤12)(S:St hb tabs L' (nm8 sh du ro tw wd nr nb sc many tm) T s.heap){Q:FP}
  (k:∀ (s':Shared) (X:List (Addr×Obj)) (to_:Addr) (a:Nat) (ta:Tok),Kp s s'→a<10→St hb tabs L' (qK to_ a ta sh du ro tw wd nr nb sc many tm) (X++T) s'.heap→wpAny (model pw w) (A.deeper (aK w L')) (execs (et.drop 12) (aK w L')) Q E s') :
  wpAny (model pw w) (A.deeper (aK w L')) (execs (et.drop 9) (aK w L')) Q E s:=by
 obtain⟨cr,hro⟩:=F.mro
 obtain⟨ct,htw⟩:=F.mtw
 obtain⟨cn,hnr⟩:=F.mnr
 obtain⟨cb,hnb⟩:=F.mnb
 obtain⟨cs,hsh⟩:=F.msh
 obtain⟨cd,hdu⟩:=F.mdu
 have hrl:=F.rl
 have hm:=F.hm
 have hnl:=F.nl
 have h3:=F.nv3
 have h6:=F.nv6
 obtain⟨i2,ti2,e2⟩:=F.nvi nvs[2] (List.getElem_mem (by exact h3))
 refine ak ?_
 refine wpAny_BinOp ?_
 refine cA list_getitem_lookup ?_
 refine ac S m7 ?_
 refine wpAny_Constant_int ?_
 refine⟨⟨_,S.obj _ hnb,rfl⟩,?_⟩
 refine bk (k:=2) (x:=.int i2 ti2) (by exact S) hnb (by exact up 994 h6) (by rw[List.getElem?_eq_getElem (by exact h3),e2]) ?_
 refine ap ?_
 refine ai G (by exact S) boot_len ?_
 refine ag ?_
 refine args_cons ?_
 refine ac (by exact S) m5 ?_
 refine args_nil ?_
 refine PyProof.Rows.len_list (items:=(bf ns).toArray) (St.isList (s:=(wt s _)) (by exact S) hnr) (by rw[List.size_toArray,bp];lia) ?_
 rw[List.size_toArray,bp,hnl]
 refine fe (m:=10) (by decide) rfl ?_
 intro a ha
 refine af (by exact S) (.new (by kernel_rfl)) ?_
 intro h_1 S_1
 obtain⟨ta,S_1⟩:∃ ta,St hb tabs L' ((Str.ofString "at", .int (a:Int) ta)::nm8 sh du ro tw wd nr nb sc many tm) T h_1:=⟨_,S_1⟩
 refine az (by exact S_1) fun s₁ K1 S_1=>?_
 replace K1:Kp s s₁:=⟨K1.os,K1.gens⟩
 obtain⟨tf,hsa,hcm⟩:=F.share ha
 have hpl:(ps.map dD).length≤1000:=by rw[List.length_map,F.pl];decide
 refine ak ?_
 refine bE ?_
 refine aq G S_1 (v:=.ref 286) (by kernel_rfl) ?_
 refine dM G (jS _) ?_
 refine args_cons ?_
 refine aq G S_1 (v:=.str WRD 741) (by kernel_rfl) ?_
 refine args_cons ?_
 refine ac S_1 m3 ?_
 refine args_nil ?_
 refine kws_cons ?_
 refine ap ?_
 refine ai G S_1 boot_len ?_
 refine ag ?_
 refine args_cons ?_
 refine ac S_1 m3 ?_
 refine args_nil ?_
 refine PyProof.Rows.len_list (items:=(row.map aj).toArray) (S_1.isList hro) (by rw[List.size_toArray,List.length_map];lia) ?_
 rw[List.size_toArray,List.length_map]
 refine kws_cons ?_
 refine cA list_getitem_lookup ?_
 refine ac (by exact S_1) m1 ?_
 refine ac (by exact S_1) m0 ?_
 refine⟨⟨_,S_1.obj _ hsh,rfl⟩,?_⟩
 refine bk (k:=a) (by exact S_1) hsh hpl hsa ?_
 refine kws_nil ?_
 refine⟨⟨_,_,_,S_1⟩,?_⟩
 refine de (n:=row.length) (x:=x) (g:=geF (scs.getD a 0)) G B (by exact S_1) (by show A.depth+1+40<_;exact dn 19 hd) (by show A.units+3+200<cLine;exact dn 797 hu) hh (rF w hcm tf) F.hx hro (kg G (by exact S_1)) (by exact z5u hrl) (by exact z5v hrl hm) (by exact z5v hrl hm) F.rmem F.rtk ?_
 intro s_2 X2 to_ c_2 Pk K2 S_2 hP hw
 rw[eO hP (Nat.le_refl _)] at S_2
 have hans:=ck F.hx hm (K:=fun y=>dq (geF (scs.getD a 0)) y WRD) (fn ⟨x,F.hx⟩ ⟨a,ha⟩) (by exact z64) F.rowU hP hw
 replace K2:Kp s s_2:=⟨K2.os.trans K1.os,fun z=>K2.gens (K1.gens z)⟩
 refine af (by exact S_2) (.new (by kernel_rfl)) ?_
 intro h_3 S_3
 refine az (by exact S_3) fun s3 K3 S_3=>?_
 replace K3:Kp s s3:=⟨K3.os.trans K2.os,fun z=>K3.gens (K2.gens z)⟩
 have hup:∀ p∈T,p∈(to_,ae (Pk.map aj) c_2)::(X2++T):=fun p hp=>.tail _ (List.mem_append_right _ hp)
 have hPl:Pk.length≤20:=by
  have:=congrArg List.length hans
  rw[List.length_map,List.length_append,List.length_replicate,List.length_take,gm] at this
  exact z65 hm this
 have hdl:((List.replicate m h_0.x++bI ns).map aj).length=m+10:=by rw[List.length_map,List.length_append,List.length_replicate,List.length_map,hnl]
 refine cP ?_
 refine kL ?_
 refine wpAny_isTrue_Compare1 ?_
 refine ac S_3 m0 ?_
 refine cj (hb:=hb) (tabs:=tabs) ?_
 refine ac S_3 m3 ?_
 refine wpAny_BinOp ?_
 refine wpAny_BinOp ?_
 refine ap ?_
 refine ai G S_3 boot_len ?_
 refine ag ?_
 refine args_cons ?_
 refine ac S_3 m5 ?_
 refine args_nil ?_
 refine PyProof.Rows.len_list (items:=((List.replicate m h_0.x).map aj).toArray) (S_3.isList (hup _ htw)) (by rw[List.size_toArray,List.length_map,List.length_replicate];lia) ?_
 rw[List.size_toArray,List.length_map,List.length_replicate]
 refine ac (by exact S_3) m1 ?_
 refine P.add_int ?_
 refine wpAny_Constant_int ?_
 refine P.add_int ?_
 refine⟨_,_,_,du,_,cd,m+a+1,_,rfl,by congr 1,S_3,hup _ hdu,by exact z66 hm hdl,?_⟩
 intro D4 X4 h_4 S4
 rw[← List.map_take] at S4
 refine dH (xs:=Pk) (ys:=(List.replicate m h_0.x++bI ns).take (m+a+1)) ⟨_,S4.obj _ (.tail _ (List.mem_append_right _ (.head _))),rfl,c_2,rfl⟩ ⟨_,S4.obj _ m0,rfl,0,rfl⟩ (by show A.units+3<cLine;exact dn 997 hu) ?_
 rw[decide_eq_true (by rw[hans,F.due ha])]
 refine wpAny_truthy_bool ⟨nofun,fun _=>?_⟩
 refine az (by exact S4) fun s4 K4 S4=>?_
 replace K4:Kp s s4:=⟨K4.os.trans K3.os,fun z=>K4.gens (K3.gens z)⟩
 have hup4:∀ p∈T,p∈(D4,ae (((List.replicate m h_0.x++bI ns).take (m+a+1)).map aj) 0)::(X4++((to_,ae (Pk.map aj) c_2)::(X2++T))):=fun p hp=>.tail _ (List.mem_append_right _ (hup p hp))
 refine kL ?_
 refine wpAny_isTrue_Compare1 ?_
 refine ap ?_
 refine aq G S4 (v:=.ref 286) (by kernel_rfl) ?_
 refine aN G ?_
 refine args_cons ?_
 refine aq G S4 (v:=.str WRD 741) (by kernel_rfl) ?_
 refine args_cons ?_
 refine ac S4 m4 ?_
 refine args_cons ?_
 refine ac S4 m8 ?_
 refine args_cons ?_
 refine cA list_getitem_lookup ?_
 refine ac (by exact S4) m2 ?_
 refine ac (by exact S4) m1 ?_
 refine⟨⟨_,S4.obj _ (hup4 _ hsh),rfl⟩,?_⟩
 refine bk (k:=a) (by exact S4) (hup4 _ hsh) hpl hsa ?_
 refine args_nil ?_
 refine⟨⟨_,_,_,S4⟩,?_⟩
 refine de (n:=many) (x:=x) (g:=geF (scs.getD a 0)) G B (by exact S4) (by show A.depth+1+40<_;exact dn 19 hd) (by show A.units+3+200<cLine;exact dn 797 hu) hh (rF w hcm tf) F.hx (hup4 _ hro) (iw G (by exact S4)) (by exact hmy.1) (by exact up 48 hmy.2) (by exact z5v hrl hm) F.rmem F.rtk ?_
 intro s5 X5 r_5 c_5 Pm K5 S5 hP5 hw5
 have hans5:=ck F.hx hm (K:=fun y=>dq (geF (scs.getD a 0)) y WRD) (fn ⟨x,F.hx⟩ ⟨a,ha⟩) (by exact z64) F.rowU hP5 hw5
 replace K5:Kp s s5:=⟨K5.os.trans K4.os,fun z=>K5.gens (K4.gens z)⟩
 refine cj (hb:=hb) (tabs:=tabs) ?_
 refine ac (by exact S5) m0 ?_
 refine ac (by exact S5) m8 ?_
 refine⟨_,_,_,to_,_,c_2,many,_,rfl,rfl,S5,.tail _ (List.mem_append_right _ (.tail _ (List.mem_append_right _ (.head _)))),by rw[List.length_map];exact up 980 hPl,?_⟩
 intro D6 X6 h_6 S6
 rw[← List.map_take] at S6
 refine dH (xs:=Pm.take many) (ys:=Pk.take many) ⟨_,S6.obj _ (.tail _ (List.mem_append_right _ (.head _))),rfl,c_5,rfl⟩ ⟨_,S6.obj _ m0,rfl,0,rfl⟩ (by show A.units+3<cLine;exact dn 997 hu) ?_
 rw[decide_eq_true (by rw[List.map_take,List.map_take,hans,hans5])]
 refine wpAny_truthy_bool ⟨nofun,fun _=>isTrue_or_nil ⟨nofun,fun _=>?_⟩⟩
 refine ax ?_
 refine k _ ((D6,ae ((Pk.take many).map aj) 0)::(X6++((r_5,ae ((Pm.take many).map aj) c_5)::(X5++((D4,ae (((List.replicate m h_0.x++bI ns).take (m+a+1)).map aj) 0)::(X4++((to_,ae (Pk.map aj) c_2)::X2))))))) to_ a ta ⟨K5.os,K5.gens⟩ ha ?_
 simpa using S6
end
end
section
open PySem.Spec PySem.SeqAt
def rkG(y:Str):Nat:=10 - aV.idxOf y
theorem mu:(eh.all fun p=>eh.all fun q=>decide (p.1.cps.toList<q.1.cps.toList) == decide (rkG p.1<rkG q.1))=true:=by decide +kernel
theorem i9:aV.Pairwise fun a b=>rkG b≤rkG a:=by decide +kernel
theorem kB:(aV.all fun a=>aV.all fun b=>rkG a != rkG b || a == b)=true:=by decide +kernel
theorem gy{P:List (Str×Tok)}(hp:P.Perm eh)(hw:P.Pairwise fun a b=>rkG b.1≤rkG a.1):P.map (·.1)=aV:=by
 have h1:(P.map (·.1)).Perm aV:=(hp.map _).trans fN
 refine bR rkG h1 (by rw[List.pairwise_map];exact hw) i9 ?_
 intro a ha b hb hab
 have h2:=List.all_eq_true.mp (List.all_eq_true.mp kB a (h1.mem_iff.mp ha)) b (h1.mem_iff.mp hb)
 rw[hab] at h2
 simpa using h2
section
variable{w:World}{A:Around}{E:VP}{s:Shared}{hb:Heap}{L' sc nb nr du ro tw wd sh to_:Addr}{T:List (Addr×Obj)}{x many m t0 t1 a:Nat}{tm ta:Tok}{ns:List Nr}{ps:List (UInt64×Tok)}{row:List (Str×Tok)}{h_0:Nr}{nvs:List Value}
theorem law_g(G:Gd (KN w.params) tabs hb)(B:BM hb)(hd:A.depth+60<recursionLimit)(hu:A.units+1000<cLine)(hh:A.handled=none)(F:LF nr tw ro du sh nb ns ps row h_0 nvs x m t0 t1 T)(S:St hb tabs L' (qK to_ a ta sh du ro tw wd nr nb sc many tm) T s.heap){Q:FP}
  (k:∀ (s':Shared) (X:List (Addr×Obj)),Kp s s'→St hb tabs L' (qK to_ a ta sh du ro tw wd nr nb sc many tm) (X++T) s'.heap→wpAny (model pw w) (A.deeper (aK w L')) (execs (et.drop 13) (aK w L')) Q E s') :
  wpAny (model pw w) (A.deeper (aK w L')) (execs (et.drop 12) (aK w L')) Q E s:=by
 obtain⟨cr,hro⟩:=F.mro
 obtain⟨cd,hdu⟩:=F.mdu
 have hrl:=F.rl
 have hm:=F.hm
 have hnl:=F.nl
 refine cP ?_
 refine wpAny_isTrue_Compare1 ?_
 refine ap ?_
 refine aq G S (v:=.ref 286) (by kernel_rfl) ?_
 refine aN G ?_
 refine args_cons ?_
 refine aq G S (v:=.str WRD 741) (by kernel_rfl) ?_
 refine args_cons ?_
 refine ac S m4 ?_
 refine args_cons ?_
 refine ap ?_
 refine ai G S boot_len ?_
 refine ag ?_
 refine args_cons ?_
 refine ac S m4 ?_
 refine args_nil ?_
 refine PyProof.Rows.len_list (items:=(row.map aj).toArray) (S.isList hro) (by rw[List.size_toArray,List.length_map];lia) ?_
 rw[List.size_toArray,List.length_map]
 refine args_cons ?_
 refine wpAny_Constant_int ?_
 refine args_nil ?_
 refine⟨⟨_,_,_,S⟩,?_⟩
 refine de (n:=row.length) (x:=x) (g:=geI) G B (by exact S) (by show A.depth+1+40<_;exact dn 19 hd) (by show A.units+3+200<cLine;exact dn 797 hu) hh (cutI w _) F.hx hro (iw G (by exact S)) (by exact z5u hrl) (by exact z5v hrl hm) (by exact z5v hrl hm) F.rmem F.rtk ?_
 intro s₁ X1 r_1 c_1 Pk K1 S_1 hP hw
 rw[eO hP (Nat.le_refl _)] at S_1
 have hans:=ck (c:=14) F.hx hm (K:=fun y=>dq geI y WRD) (by rw[jU ⟨x,F.hx⟩];rfl) (by decide) F.rowU hP hw
 replace K1:Kp s s₁:=⟨K1.os,K1.gens⟩
 have hdu1:(du,ae ((List.replicate m h_0.x++bI ns).map aj) cd)∈(r_1,ae (Pk.map aj) c_1)::(X1++T):=.tail _ (List.mem_append_right _ hdu)
 have hdl:((List.replicate m h_0.x++bI ns).map aj).length=m+10:=by rw[List.length_map,List.length_append,List.length_replicate,List.length_map,hnl]
 refine wpAny_BinOp ?_
 refine ac (by exact S_1) m3 ?_
 refine bE ?_
 refine ai G (by exact S_1) ce ?_
 refine callWith_kw ?_
 refine args_cons ?_
 refine aq G (by exact S_1) (v:=.ref 287) (by kernel_rfl) ?_
 refine args_nil ?_
 refine kws_cons ?_
 refine wpAny_Constant_bool ?_
 refine kws_nil ?_
 refine jr (ws:=eh) (n:=0) (o:=mT w.params) rkG (by exact S_1) (S_1.kin G 287 _ (by kernel_rfl)) rfl rfl (by decide) (fun p hp q hq=>?_) ?_
 ·exact eq_of_beq (List.all_eq_true.mp (List.all_eq_true.mp mu p hp) q hq)
 intro s_2 D2 c_2 Pg X2 K2 hPg hwg S_2
 replace K2:Kp s s_2:=⟨K2.os.trans K1.os,fun z=>K2.gens (K1.gens z)⟩
 have hPgl:(Pg.map aj).length=4:=by rw[List.length_map,hPg.length_eq];rfl
 refine dX (by exact S_2) (.tail _ (List.mem_append_right _ hdu1)) m0 (by exact z6a hm hdl hPgl) ?_
 intro D3 h_3 S_3
 have e1:(List.replicate m h_0.x++bI ns).map aj++Pg.map aj=(List.replicate m h_0.x++bI ns++Pg).map aj:=by simp
 rw[e1] at S_3
 refine dH (xs:=Pk) (ys:=List.replicate m h_0.x++bI ns++Pg) ⟨_,S_3.obj _ (.tail _ (.tail _ (List.mem_append_right _ (.head _)))),rfl,c_1,rfl⟩ ⟨_,S_3.obj _ m0,rfl,0,rfl⟩ (by show A.units+3<cLine;exact dn 997 hu) ?_
 have e2:(List.replicate m h_0.x++bI ns++Pg).map (·.1)=List.replicate m WRD++(UU x).take 14:=by
  rw[List.map_append,List.map_append,List.map_replicate,F.h0,F.ws,gy hPg hwg,List.append_assoc]
  rfl
 rw[decide_eq_true (by rw[hans,e2])]
 refine wpAny_truthy_bool ⟨nofun,fun _=>?_⟩
 refine ax ?_
 refine k _ ((D3,ae ((List.replicate m h_0.x++bI ns++Pg).map aj) 0)::(D2,ae (Pg.map aj) c_2)::(X2++((r_1,ae (Pk.map aj) c_1)::X1))) ⟨K2.os,K2.gens⟩ ?_
 simpa using S_3
end
end
section
open PySem.Spec PySem.SeqAt
theorem kU:∀ p:Fin 9,(b8 p.val).map (fun e=>shF e.2.1 e.2.2)=scs.take 10:=by decide +kernel
section
variable{nr tw ro du sh nb:Addr}{ns:List Nr}{ps:List (UInt64×Tok)}{row:List (Str×Tok)}{h_0:Nr}{nvs:List Value}{x m t0 t1:Nat}{T T':List (Addr×Obj)}
theorem nD(F:LF nr tw ro du sh nb ns ps row h_0 nvs x m t0 t1 T){a:Nat}(ha:a<10):∃ e,An5 (ns[a]? = some e) ((UU x)[a]? = some e.x.1) (scr e.x.1 WRD=scs.getD a 0) (share (qp (ah WRD) (ah e.x.1)) ((ah e.x.1).length+(ah WRD).length)=scs.getD a 0) ((Float64.cmp (share (min (ah e.x.1).length (ah WRD).length) ((ah e.x.1).length+(ah WRD).length)) (scs.getD a 0) == some Ordering.lt)=false):=by
 have hl:a<ns.length:=by rw[F.nl];exact ha
 have hn:(b8 x)[a]? = some ns[a].k:=by rw[← F.hk,List.getElem?_map,List.getElem?_eq_getElem hl];rfl
 have hU:(UU x)[a]? = some ns[a].x.1:=by
  unfold UU
  rw[List.getElem?_append_left (by rw[List.length_map,cw];exact ha),List.getElem?_map,hn];rfl
 have hs:shF ns[a].b ns[a].c=scs.getD a 0:=by
  have h1:=congrArg (fun l=>l[a]?) (kU ⟨x,F.hx⟩)
  dsimp only at h1
  rw[List.getElem?_map,hn,List.getElem?_take,if_pos ha] at h1
  rw[List.getD_eq_getElem?_getD,← h1];rfl
 refine⟨ns[a],List.getElem?_eq_getElem hl,hU,?_,?_,?_⟩
 ·have h1:=congrArg (fun l=>l[a]?) (jk ⟨x,F.hx⟩)
  dsimp only at h1
  rw[List.getElem?_map,hU] at h1
  rw[List.getD_eq_getElem?_getD,← h1];rfl
 ·have h1:=congrArg (fun l=>l[a]?) (kO ⟨x,F.hx⟩)
  dsimp only at h1
  rw[List.getElem?_map,List.getElem?_map,hn] at h1
  rw[← hs]
  exact Option.some.inj h1
 ·have h1:=List.all_eq_true.mp (mG ⟨x,F.hx⟩) ns[a].k (List.mem_of_getElem? hn)
  rw[← hs]
  simpa using h1
theorem g6{a:Nat}(ha:a<10):(Float64.cmp (scs.getD a 0) (scs.getD a 0) != some Ordering.eq)=false:=by
 have:∀ b:Fin 10,(Float64.cmp (scs.getD b.val 0) (scs.getD b.val 0) != some Ordering.eq)=false:=by decide +kernel
 exact this ⟨a,ha⟩
end
section
variable{w:World}{A:Around}{E:VP}{s:Shared}{hb:Heap}{L' sc nb nr du ro tw wd sh to_:Addr}{T:List (Addr×Obj)}{x many m t0 t1 a:Nat}{tm ta:Tok}{ns:List Nr}{ps:List (UInt64×Tok)}{row:List (Str×Tok)}{h_0:Nr}{nvs:List Value}
abbrev nm13 (e:Nr) (to_:Addr) (a:Nat) (ta:Tok) (sh du ro tw wd nr nb sc:Addr) (many:Nat) (tm:Tok):List (Str×Value):=(Str.ofString "letters", .int (e.c:Int) e.ct)::(Str.ofString "both", .int (e.b:Int) e.bt)::(Str.ofString "word", aj e.x)::qK to_ a ta sh du ro tw wd nr nb sc many tm
theorem law_h(G:Gd (KN w.params) tabs hb)(B:BM hb)(hd:A.depth+60<recursionLimit)(hu:A.units+1000<cLine)(hh:A.handled=none)(F:LF nr tw ro du sh nb ns ps row h_0 nvs x m t0 t1 T)(ha:a<10)(S:St hb tabs L' (qK to_ a ta sh du ro tw wd nr nb sc many tm) T s.heap){Q:FP}
  (k:∀ (s':Shared) (X:List (Addr×Obj)) (e:Nr) (one:Addr),Kp s s'→ns[a]? = some e→(UU x)[a]? = some e.x.1→St hb tabs L' ((Str.ofString "one", .ref one)::nm13 e to_ a ta sh du ro tw wd nr nb sc many tm) (X++T) s'.heap→wpAny (model pw w) (A.deeper (aK w L')) (execs (et.drop 16) (aK w L')) Q E s') :
  wpAny (model pw w) (A.deeper (aK w L')) (execs (et.drop 13) (aK w L')) Q E s:=by
 obtain⟨cn,hnr⟩:=F.mnr
 obtain⟨cs,hsh⟩:=F.msh
 obtain⟨e,hea,hUa,hsc,hqk,hrl⟩:=nD F ha
 obtain⟨tf,hsa,-⟩:=F.share ha
 have hem:=List.mem_of_getElem? hea
 have hpl:(ps.map dD).length≤1000:=by rw[List.length_map,F.pl];decide
 have hes:e.x.1.cps.size≤60:=by
  have h:=of_decide_eq_true (List.all_eq_true.mp (ki ⟨x,F.hx⟩) e.x.1 (List.mem_of_getElem? hUa))
  exact up 51 h
 have hra:(bf ns)[a]? = some (.ref e.a):=by unfold bf;rw[List.getElem?_map,hea];rfl
 refine eX ?_
 refine cA list_getitem_lookup ?_
 refine ac S m7 ?_
 refine ac S m1 ?_
 refine⟨⟨_,S.obj _ hnr,rfl⟩,?_⟩
 refine bk (k:=a) (by exact S) hnr (by rw[bp,F.nl];decide) hra ?_
 refine bG hh (by exact S) (F.mN e hem) ?_
 intro h_1 S_1
 refine aA ?_
 refine af S_1 (.new (by kernel_rfl)) ?_
 intro h_2 S_2
 refine aA ?_
 refine af S_2 (.new (by kernel_rfl)) ?_
 intro h_3 S_3
 refine aA ?_
 refine af S_3 (.new (by kernel_rfl)) ?_
 intro h_4 S4
 refine bx ?_
 refine az (by exact S4) fun s4 K4 S4=>?_
 replace K4:Kp s s4:=⟨K4.os,K4.gens⟩
 refine ak ?_
 refine ap ?_
 refine aq G S4 (v:=.ref 270) (by kernel_rfl) ?_
 refine aN G ?_
 refine args_cons ?_
 refine wpAny_Constant_none ?_
 refine args_cons ?_
 refine ac S4 m2 ?_
 refine args_cons ?_
 refine aq G S4 (v:=.str WRD 741) (by kernel_rfl) ?_
 refine args_nil ?_
 refine⟨⟨_,_,_,S4⟩,?_⟩
 refine lZ (C:=270) (fI:=188) G (by exact S4) ?_
 intro one dx h_5 S5
 have Va:=dm (prog:=pw) (w:=w) (hb:=hb) (tabs:=tabs) e.x.1 e.x.2 hes
 have Vb:=dm (prog:=pw) (w:=w) (hb:=hb) (tabs:=tabs) WRD 741 (by decide +kernel)
 refine jc (va:=aj e.x) (vb:=.str WRD 741) G (by exact S5) (by simp only[depth_under_make,depth_deeper];exact dn 55 hd) hh Vb (fun p hp=>by cases hp) (bT (hb:=hb)) (bT (hb:=hb)) ?_ ?_
 ·refine BindsTo.of_defaults (o:=mW w.params) rfl (St.kin (by exact S5) G 181 _ (by kernel_rfl)) rfl rfl rfl
 intro s6 od d2 sj sp o2 rows led led' K6 S6 hf6 ho6 hr6
 refine⟨rfl,?_⟩
 replace K6:Kp s s6:=⟨K6.os.trans K4.os,fun z=>K6.gens (K4.gens z)⟩
 refine af S6 (.new (by kernel_rfl)) ?_
 intro h_7 S7
 refine az (by exact S7) fun s7 K7 S7=>?_
 replace K7:Kp s s7:=⟨K7.os.trans K6.os,fun z=>K7.gens (K6.gens z)⟩
 obtain⟨Y,hY⟩:∃ Y,Y=(sj,bz led)::(d2,o2)::(rows.map aM.ob++T):=⟨_,rfl⟩
 have hYd:(d2,o2)∈Y:=by rw[hY];exact .tail _ (.head _)
 have hYs:(sj,bz led)∈Y:=by rw[hY];exact .head _
 have hYr:∀ r∈rows,r.ob∈Y:=fun r hr=>by rw[hY];exact .tail _ (.tail _ (List.mem_append_left _ (List.mem_map.mpr ⟨r,hr,rfl⟩)))
 have hYT:∀ p∈T,p∈Y:=fun p hp=>by rw[hY];exact .tail _ (.tail _ (List.mem_append_right _ hp))
 have S8:St hb tabs L' ((Str.ofString "one", .ref one)::nm13 e to_ a ta sh du ro tw wd nr nb sc many tm) ((one,smO dx)::(dx,od)::(sp,bz led')::Y) s7.heap:=by rw[hY];exact S7
 refine cP ?_
 refine kL ?_
 refine wpAny_isTrue_Compare1 ?_
 refine aC ?_
 refine ac S8 m0 ?_
 refine bA (f:=253) G S8 m0 m1 hf6 ?_
 refine aN G ?_
 refine args_nil ?_
 refine⟨⟨_,_,_,S8⟩,?_⟩
 refine eR (T₀:=[]) (fun p hp=>by cases hp) G B S8 (by show A.depth+1+6<_;exact dn 53 hd) (by show A.units+3+40<cLine;exact dn 957 hu) hh hf6 (.inl rfl) hYd ho6 hr6 hYr hYs Va Vb (fun p hp=>by cases hp) (fun p hp=>by cases hp) ?_
 intro s9 od9 X9 mb9 t_9 _ _ K9 S9 hf9 hmb9
 replace K9:Kp s s9:=⟨K9.os.trans K7.os,fun z=>K9.gens (K7.gens z)⟩
 have hr1:share (mall (ah e.x.1) (ah WRD)) ((ah e.x.1).length+(ah WRD).length)=scs.getD a 0:=hsc
 rw[hr1]
 refine cA list_getitem_lookup ?_
 refine ac (by exact S9) m6 ?_
 refine ac (by exact S9) m5 ?_
 have hsh9:(sh,ae (ps.map dD) cs)∈(one,smO dx)::(dx,od9)::(sp,bz led')::(X9++Y):=.tail _ (.tail _ (.tail _ (List.mem_append_right _ (hYT _ hsh))))
 refine⟨⟨_,S9.obj _ hsh9,rfl⟩,?_⟩
 refine bk (k:=a) (by exact S9) hsh9 hpl hsa ?_
 refine AutoFloatOps.ne_0 ?_
 rw[g6 ha]
 refine wpAny_truthy_bool ⟨nofun,fun _=>?_⟩
 refine kL ?_
 refine wpAny_isTrue_Compare1 ?_
 refine aC ?_
 refine ac (by exact S9) m0 ?_
 refine bA (f:=260) G (by exact S9) m0 m1 hf9 ?_
 refine aN G ?_
 refine args_nil ?_
 refine⟨⟨_,_,_,S9⟩,?_⟩
 refine quick_ratio (T₀:=[]) (fun p hp=>by cases hp) G (by exact S9) (by show A.depth+1+1<_;exact dn 58 hd) hh hf9 (.inl rfl) Va Vb (fun p hp=>by cases hp) (fun p hp=>by cases hp) ?_
 intro s10 t10 od10 X10 fc10 K10 S10 hf10 hfc10
 replace K10:Kp s s10:=⟨K10.os.trans K9.os,fun z=>K10.gens (K9.gens z)⟩
 rw[hqk]
 have hsh10:(sh,ae (ps.map dD) cs)∈(one,smO dx)::(dx,od10)::(X10++((sp,bz led')::(X9++Y))):=.tail _ (.tail _ (List.mem_append_right _ (.tail _ (List.mem_append_right _ (hYT _ hsh)))))
 refine cA list_getitem_lookup ?_
 refine ac (by exact S10) m6 ?_
 refine ac (by exact S10) m5 ?_
 refine⟨⟨_,S10.obj _ hsh10,rfl⟩,?_⟩
 refine bk (k:=a) (by exact S10) hsh10 hpl hsa ?_
 refine AutoFloatOps.ne_0 ?_
 rw[g6 ha]
 refine wpAny_truthy_bool ⟨nofun,fun _=>?_⟩
 refine kL ?_
 refine wpAny_isTrue_Compare1 ?_
 refine aC ?_
 refine ac (by exact S10) m0 ?_
 refine bA (f:=267) G (by exact S10) m0 m1 hf10 ?_
 refine aN G ?_
 refine args_nil ?_
 refine⟨⟨_,_,_,S10⟩,?_⟩
 refine ez G (by exact S10) (by show A.depth+1+1<_;exact dn 58 hd) hh m0 m1 hf10 m1 m2 Va Vb (fun p hp=>by cases hp) (fun p hp=>by cases hp) ?_
 intro h_11 tk11 t11 S11
 refine cA list_getitem_lookup ?_
 refine ac (by exact S11) m6 ?_
 refine ac (by exact S11) m5 ?_
 refine⟨⟨_,S11.obj _ hsh10,rfl⟩,?_⟩
 refine bk (k:=a) (by exact S11) hsh10 hpl hsa ?_
 refine AutoFloatOps.lt_0 ?_
 rw[hrl]
 refine wpAny_truthy_bool ⟨nofun,fun _=>isTrue_or_nil ⟨nofun,fun _=>?_⟩⟩
 refine ax ?_
 refine k _ ((one,smO dx)::(dx,od10)::(X10++((sp,bz led')::(X9++((sj,bz led)::(d2,o2)::rows.map aM.ob))))) e one ⟨K10.os,K10.gens⟩ hea hUa ?_
 subst hY
 simpa using S11
end
end
section
open PySem.Spec PySem.SeqAt
theorem UU_at{x a:Nat}(hx:x<9)(ha:a<10){y:Str}(hy:(UU x)[a]? = some y):dq (geF (scs.getD a 0)) y WRD=true∧(0<a→dq (geF (scs.getD (a - 1) 0)) y WRD=false):=by
 have hm:y∈UU x:=List.mem_of_getElem? hy
 have ha':a<(UU x).length:=by rw[gm];exact z6g ha
 have hg:(UU x)[a]=y:=by rw[List.getElem?_eq_getElem ha'] at hy;exact Option.some.inj hy
 constructor
 ·have h1:y∈(UU x).filter fun z=>dq (geF (scs.getD a 0)) z WRD:=by
   rw[fn ⟨x,hx⟩ ⟨a,ha⟩]
   refine List.mem_of_getElem? (i:=a) ?_
   rw[List.getElem?_take,if_pos (Nat.lt_succ_self a)]
   exact hy
  exact (List.mem_filter.mp h1).2
 ·intro h0
  refine Bool.eq_false_iff.mpr fun hk=>?_
  have h1:y∈(UU x).filter fun z=>dq (geF (scs.getD (a - 1) 0)) z WRD:=List.mem_filter.mpr ⟨hm,hk⟩
  rw[fn ⟨x,hx⟩ ⟨a - 1,by exact z6h ha⟩] at h1
  obtain⟨i,hi,ei⟩:=List.mem_iff_getElem.mp h1
  rw[List.length_take] at hi
  rw[List.getElem_take] at ei
  have hnd:=List.pairwise_iff_getElem.mp (lA ⟨x,hx⟩) i a (by exact z6i hi) ha' (by dsimp only at hi;exact z6j h0 hi)
  exact hnd (ei.trans hg.symm)
section
variable{nr tw ro du sh nb:Addr}{ns:List Nr}{ps:List (UInt64×Tok)}{row:List (Str×Tok)}{h_0:Nr}{nvs:List Value}{x m t0 t1:Nat}{T T':List (Addr×Obj)}
theorem lO (F:LF nr tw ro du sh nb ns ps row h_0 nvs x m t0 t1 T) {e:Nr} (he:e∈ns):∀ p∈(Str.ofString "", 539)::[e.x],p.2≠0∧∀ q∈(Str.ofString "", 539)::[e.x],p.2=q.2→p.1=q.1:=by
 have cls:∀ p∈(Str.ofString "", 539)::[e.x],p∈gc∨∃ e∈ns,e.x=p:=fun p hp=>by
  rcases List.mem_cons.mp hp with rfl | hp
  ·exact .inl (.head _)
  ·rw[List.mem_singleton] at hp;subst hp
   exact .inr ⟨e,he,rfl⟩
 intro p hp
 obtain⟨a,b⟩:=oT F.ht F.tk p (cls p hp)
 exact⟨a,fun q hq=>b q (cls q hq)⟩
end
section
variable{w:World}{A:Around}{E:VP}{s:Shared}{hb:Heap}{L' sc nb nr du ro tw wd sh to_ one:Addr}{T:List (Addr×Obj)}{x many m t0 t1 a:Nat}{tm ta:Tok}{ns:List Nr}{ps:List (UInt64×Tok)}{row:List (Str×Tok)}{h_0 e:Nr}{nvs:List Value}
theorem iZ{r1 r2 d1 d2 al ar:Addr}{L:Addr}{l:List (Str×Value)}{xs:List (Str×Tok)}{P:List (Str×Tok)}{c1 c2 c3 c4 c5 c6:Nat}(S:St hb tabs L l T s.heap)(hu:A.units+10<cLine)(h1:(r1,ae (P.map aj) c1)∈T)(h2:(r2,ae [] c2)∈T)(h3:(d1,ae (xs.map aj) c3)∈T)(h4:(d2,ae [] c4)∈T)
  (ha:(al,ae [.ref r1,.ref r2] c5)∈T) (hb':(ar,ae [.ref d1,.ref d2] c6)∈T) (hP:P.map (·.1)=xs.map (·.1)) (n1:r1≠d1) (n2:r2≠d2) {Q:VP} (h:Q (.bool true) s):wpAny (model pw w) A (compareOp .Eq (.ref al) (.ref ar)) Q E s:=by
 refine eq_listAt (e:=fun _=>true) (S.isList ha) (S.isList hb') rfl (by exact dn 10 hu) (fun j j1 j2=>?_) ?_
 ·have hj:j<2:=by simpa using j1
  match j,hj with
  | 0,_ =>
   refine EqAt.of_refs n1 ?_
   have:=jp (A:=A.in1) (s:=s) (S.isList h1) (S.isList h3) (by show A.units+1<cLine;exact dn 9 hu)
   rw[decide_eq_true hP] at this
   exact this
  | 1,_ =>
   refine EqAt.of_refs n2 ?_
   exact jp (A:=A.in1) (s:=s) (xs:=[]) (ys:=[]) (S.isList h2) (S.isList h4) (by show A.units+1<cLine;exact dn 9 hu)
 ·exact h
theorem law_i(G:Gd (KN w.params) tabs hb)(B:BM hb)(hd:A.depth+60<recursionLimit)(hu:A.units+1000<cLine)(hh:A.handled=none)(F:LF nr tw ro du sh nb ns ps row h_0 nvs x m t0 t1 T)(ha:a<10)(hea:ns[a]? = some e)(hUa:(UU x)[a]? = some e.x.1)
  (S:St hb tabs L' ((Str.ofString "one", .ref one)::nm13 e to_ a ta sh du ro tw wd nr nb sc many tm) T s.heap) {Q:FP}
  (k:∀ (s':Shared) (X:List (Addr×Obj)) (l':List (Str×Value)),Kp s s'→St hb tabs L' l' (X++T) s'.heap→Q (.ret (.bool true)) s') :
  wpAny (model pw w) (A.deeper (aK w L')) (execs (et.drop 16) (aK w L')) Q E s:=by
 obtain⟨cs,hsh⟩:=F.msh
 obtain⟨tf,hsa,hcm⟩:=F.share ha
 have hem:=List.mem_of_getElem? hea
 have hpl:(ps.map dD).length≤1000:=by rw[List.length_map,F.pl];decide
 obtain⟨hk1,hk0⟩:=UU_at F.hx ha hUa
 have hmem:∀ p∈[e.x],p.1∈UU x:=fun p hp=>by
  rw[List.mem_singleton] at hp;subst hp
  exact List.mem_of_getElem? hUa
 refine ak ?_
 refine bc ?_
 refine args_cons ?_
 refine bE ?_
 refine aq G S (v:=.ref 286) (by kernel_rfl) ?_
 refine dM G (jS _) ?_
 refine args_cons ?_
 refine aq G S (v:=.str WRD 741) (by kernel_rfl) ?_
 refine args_cons ?_
 refine bc ?_
 refine args_cons ?_
 refine ac S m3 ?_
 refine args_nil ?_
 refine⟨rfl,_,_,_,_,_,S,?_⟩
 intro p1 h_1 S_1
 refine args_nil ?_
 refine kws_cons ?_
 refine cA list_getitem_lookup ?_
 refine ac S_1 m6 ?_
 refine ac S_1 m5 ?_
 refine⟨⟨_,S_1.obj _ (.tail _ hsh),rfl⟩,?_⟩
 refine bk (k:=a) S_1 (.tail _ hsh) hpl hsa ?_
 refine kws_nil ?_
 refine⟨⟨_,_,_,S_1⟩,?_⟩
 refine de (rw:=[e.x]) (n:=3) (x:=x) (g:=geF (scs.getD a 0)) G B S_1 (by show A.depth+1+40<_;exact dn 19 hd) (by show A.units+3+200<cLine;exact dn 797 hu) hh (rF w hcm tf) F.hx m0 (ix G S_1) (by decide) (by decide) (by simp) hmem (lO F hem) ?_
 intro s_2 X2 r1 c1 P_1 K2 S_2 hP_1 _
 replace K2:Kp s s_2:=⟨K2.os,K2.gens⟩
 have hPa:P_1=[e.x]:=by
  have:([e.x].filter fun y=>dq (geF (scs.getD a 0)) y.1 WRD)=[e.x]:=by
   rw[List.filter_cons_of_pos (by exact hk1)];rfl
  rw[this] at hP_1
  exact List.perm_singleton.mp hP_1
 subst hPa
 refine args_nil ?_
 refine⟨rfl,_,_,_,_,_,S_2,?_⟩
 intro al h_3 S_3
 refine af (by exact S_3) (.new (by kernel_rfl)) ?_
 intro h_4 S4
 refine az (by exact S4) fun s4 K4 S4=>?_
 replace K4:Kp s s4:=⟨K4.os.trans K2.os,fun z=>K4.gens (K2.gens z)⟩
 have e1:[e.x].take 3=[e.x]:=rfl
 rw[e1] at S4
 have hup:∀ p∈T,p∈(al,ae [.ref r1] 0)::(r1,ae ([e.x].map aj) c1)::(X2++((p1,ae [aj e.x] 0)::T)):=fun p hp=>.tail _ (.tail _ (List.mem_append_right _ (.tail _ hp)))
 have rest:∀ (s5:Shared) (X:List (Addr×Obj)) (r2:Addr) (c2 c5:Nat) {E':VP},Kp s s5→(r2,ae [] c2)∈X→(al,ae [.ref r1,.ref r2] c5)∈X→(r1,ae ([e.x].map aj) c1)∈X →
   St hb tabs L' ((Str.ofString "alone", .ref al)::(Str.ofString "one", .ref one)::nm13 e to_ a ta sh du ro tw wd nr nb sc many tm) (X++T) s5.heap →
   wpAny (model pw w) (A.deeper (aK w L')) (execs (et.drop 18) (aK w L')) Q E' s5:=by
  intro s5 X r2 c2 c5 E' K5 m2' mal mr1 S5
  refine b7 ?_
  refine wpAny_Compare1 ?_
  refine ac S5 m0 ?_
  refine bc ?_
  refine args_cons ?_
  refine bc ?_
  refine args_cons ?_
  refine ac S5 m4 ?_
  refine args_nil ?_
  refine⟨rfl,_,_,_,_,_,S5,?_⟩
  intro d1 h_6 S6
  refine args_cons ?_
  refine bc ?_
  refine args_nil ?_
  refine⟨rfl,_,_,_,_,_,S6,?_⟩
  intro d2 h_7 S7
  refine args_nil ?_
  refine⟨rfl,_,_,_,_,_,S7,?_⟩
  intro ar h_8 S8
  have nd:=(List.nodup_cons.mp S8.nd).2
  have n2:r2≠d2:=fun q=>by
   have h1:=(List.nodup_cons.mp (List.nodup_cons.mp nd).2).1
   exact h1 (by rw[← q];exact List.mem_map.mpr ⟨(r2,ae [] c2),.tail _ (List.mem_append_left _ m2'),rfl⟩)
  have n1:r1≠d1:=fun q=>by
   have h1:=(List.nodup_cons.mp (List.nodup_cons.mp (List.nodup_cons.mp nd).2).2).1
   exact h1 (by rw[← q];exact List.mem_map.mpr ⟨(r1,ae ([e.x].map aj) c1),List.mem_append_left _ mr1,rfl⟩)
  refine iZ (P:=[e.x]) (xs:=[e.x]) (by exact S8) (by show A.units+3+10<cLine;exact dn 987 hu) (.tail _ (.tail _ (.tail _ (List.mem_append_left _ mr1)))) (.tail _ (.tail _ (.tail _ (List.mem_append_left _ m2')))) (.tail _ (.tail _ (.head _))) (.tail _ (.head _)) (.tail _ (.tail _ (.tail _ (List.mem_append_left _ mal)))) (.head _) rfl n1 n2 ?_
  exact k _ ((ar,ae [.ref d1,.ref d2] 0)::(d2,ae [] 0)::(d1,ae [aj e.x] 0)::X) _ ⟨K5.os,K5.gens⟩ (by exact S8)
 refine aZ ?_
 refine aC ?_
 refine ac S4 m0 ?_
 refine ba S4 m0 PySem.F.slot_list_append type_list_append ?_
 refine ag ?_
 refine args_cons ?_
 refine IfExp_ ?_
 refine wpAny_isTrue_Compare1 ?_
 refine ac S4 m6 ?_
 refine wpAny_Constant_int ?_
 refine P.eq_int ?_
 refine wpAny_truthy_bool ?_
 by_cases h0:a=0
 ·subst h0
  rw[if_pos (show (((0:Nat):Int) == 0)=true from rfl)]
  refine bc ?_
  refine args_nil ?_
  refine⟨rfl,_,_,_,_,_,S4,?_⟩
  intro r2 h_5 S5
  refine args_nil ?_
  refine aW 1 S5 rfl ?_ (by simp)
  intro h_6 S6
  refine rest _ ((r2,ae [] 0)::(al,ae [.ref r1,.ref r2] 1)::(r1,ae ([e.x].map aj) c1)::(X2++[(p1,ae [aj e.x] 0)])) r2 0 1 ⟨K4.os,K4.gens⟩ (.head _) (.tail _ (.head _)) (.tail _ (.tail _ (.head _))) ?_
  simpa using S6
 ·have h0':((a:Int) == 0)=false:=by
   rw[beq_eq_false_iff_ne];exact z6m h0
  rw[if_neg (by rw[h0'];decide)]
  obtain⟨tg,hsb,hcb⟩:=F.share (a:=a - 1) (by exact z6h ha)
  refine bE ?_
  refine aq G (by exact S4) (v:=.ref 286) (by kernel_rfl) ?_
  refine dM G (jS _) ?_
  refine args_cons ?_
  refine aq G (by exact S4) (v:=.str WRD 741) (by kernel_rfl) ?_
  refine args_cons ?_
  refine bc ?_
  refine args_cons ?_
  refine ac (by exact S4) m4 ?_
  refine args_nil ?_
  refine⟨rfl,_,_,_,_,_,S4,?_⟩
  intro p2 h_5 S5
  refine args_nil ?_
  refine kws_cons ?_
  refine cA list_getitem_lookup ?_
  refine ac (by exact S5) m7 ?_
  refine wpAny_BinOp ?_
  refine ac (by exact S5) m6 ?_
  refine wpAny_Constant_int ?_
  refine P.sub_int ?_
  have ea:((a:Int) - 1)=((a - 1:Nat):Int):=by exact z6n h0
  rw[ea]
  refine⟨⟨_,S5.obj _ (.tail _ (hup _ hsh)),rfl⟩,?_⟩
  refine bk (k:=a - 1) (by exact S5) (.tail _ (hup _ hsh)) hpl hsb ?_
  refine kws_nil ?_
  refine⟨⟨_,_,_,S5⟩,?_⟩
  refine de (rw:=[e.x]) (n:=3) (x:=x) (g:=geF (scs.getD (a - 1) 0)) G B (by exact S5) (by show A.depth+1+40<_;exact dn 19 hd) (by show A.units+3+200<cLine;exact dn 797 hu) hh (rF w hcb tg) F.hx m0 (ix G (by exact S5)) (by decide) (by decide) (by simp) hmem (lO F hem) ?_
  intro s6 X6 r2 c2 P_2 K6 S6 hP_2 _
  replace K6:Kp s s6:=⟨K6.os.trans K4.os,fun z=>K6.gens (K4.gens z)⟩
  have hPb:P_2=[]:=by
   have:([e.x].filter fun y=>dq (geF (scs.getD (a - 1) 0)) y.1 WRD)=[]:=by
    rw[List.filter_cons_of_neg (by rw[hk0 (by exact z6o h0)];decide)];rfl
   rw[this] at hP_2
   exact List.perm_nil.mp hP_2
  subst hPb
  refine args_nil ?_
  have S7:=S6.perm (T':=(al,ae [.ref r1] 0)::((r2,ae ((([]:List (Str×Tok)).take 3).map aj) c2)::(X6++((p2,ae ([e.x].map aj) 0)::(r1,ae ([e.x].map aj) c1)::(X2++((p1,ae [aj e.x] 0)::T)))))) (by
   have e3:(r2,ae ((([]:List (Str×Tok)).take 3).map aj) c2)::(X6++((p2,ae ([e.x].map aj) 0)::(al,ae [.ref r1] 0)::(r1,ae ([e.x].map aj) c1)::(X2++((p1,ae [aj e.x] 0)::T)))) =
    ((r2,ae ((([]:List (Str×Tok)).take 3).map aj) c2)::(X6++[(p2,ae ([e.x].map aj) 0)]))++((al,ae [.ref r1] 0)::(r1,ae ([e.x].map aj) c1)::(X2++((p1,ae [aj e.x] 0)::T))):=by simp
   rw[e3]
   refine List.perm_middle.trans ?_
   simp)
  refine aW 0 (by exact S7) rfl ?_ (by simp)
  intro h_8 S8
  refine rest _ ((al,ae [.ref r1,.ref r2] 1)::(r2,ae [] c2)::(X6++((p2,ae ([e.x].map aj) 0)::(r1,ae ([e.x].map aj) c1)::(X2++[(p1,ae [aj e.x] 0)])))) r2 c2 1 ⟨K6.os,K6.gens⟩ (.tail _ (.head _)) (.head _) (.tail _ (.tail _ (List.mem_append_right _ (.tail _ (.head _))))) ?_
  simpa using S8
end
end
section
open PySem.Spec PySem.SeqAt
theorem rG{prog:Program}{w:World}{A:Around}{s:Shared}{K:Frag}{tabs:List Addr}{fa:Addr}{fd:FuncData}{R:Result→Shared→Prop}{oc:Value}{od:Option Addr}{osl:Array (Option Value)}{args:Args}{binds:List (Str×Value)}{body:List Stmt}
  (G:Gd K tabs s.heap) (htab:∀ t∈tabs,∃ ps,s.heap.get? t=some (tableObj ps)∧TriplesOk ps.toList) (ho:K.lookup fa=some ⟨oc,od,.func fd,osl⟩) (hroom:A.depth<recursionLimit)
  (hbind:BindsTo s fd args binds)
  (h:∀ L' h_1,St s.heap tabs L' binds [] h_1 →
   wpAny (model prog w) (A.deeper (callEnv fd L' fa)) (execs body (callEnv fd L' fa)) (fun f s'=>R (.ok (.ret (match f with | .ret v=>v | _=>.none))) s')
    (fun e s'=>wpAny (model prog w) (A.deeper (callEnv fd L' fa)) (leaving (callEnv fd L' fa) e) (fun _ s''=>R (.error e) s'') (fun e' s''=>R (.error e') s'') s')
    (wht s h_1 (s.toks+binds.length)))
  (hcd:∀ hh:Heap,K.In hh→hh.CodeRec fd.code fd.qualname:=by intro hh kk;exact codeRec_of kk (by kernel_rfl))
  (hbody:fd.body=.stmts body:=by kernel_rfl)
  (hcell:(fd.scope.names.all fun x=>x.2 != .cell)=true:=by kernel_rfl) (hloc:(binds.all fun x=>fd.scope.names.lookup x.1 == some .local)=true:=by kernel_rfl)
  (hnd':cS (binds.map (·.1))=true:=by kernel_rfl)
  (hco:fd.scope.isCoroutine=false:=by kernel_rfl) (hgen:fd.scope.isGenerator=false:=by kernel_rfl) (hk:fd.scope.kind=.function:=by kernel_rfl) :
  codeAny (model prog w) A (.call (.ref fa) args) R s:=by
 have hnd:=cu hnd'
 refine codeAny_call_def (fd:=fd) (body:=body) (binds:=binds) hroom (G.k _ _ ho) rfl G.lim (hcd _ G.k) hbody hbind
  (fun y hy=>by have:=List.all_eq_true.mp hcell y hy;simpa using this) (fun y hy=>by have:=List.all_eq_true.mp hloc y hy;simpa using this) (fun h_1 hns hk_1=>?_) hco hgen hk
 have hfm:Fm h_1 s.heap.objs.size binds:=Fm.of_ns hns (fun p hp=>da binds hnd hp) hnd
 refine h _ h_1 ⟨hfm,Nat.le_refl _,fun b o e _=>hk_1 b o e,fun t ht=>?_,fun p hp=>(by cases hp),fun p hp=>(by cases hp),List.nodup_cons.mpr ⟨fun q=>(by cases q),List.nodup_nil⟩⟩
 obtain⟨ps,e,ok⟩:=htab t ht
 exact⟨ps,#[],e,by rw[Array.append_empty];exact hk_1 _ _ e,by rw[Array.append_empty];exact ok⟩
section
variable{w:World}{A:Around}{s:Shared}{R:Result→Shared→Prop}{sc:Addr}{scv:List Value}
theorem law_c(G:Gd (KN w.params) tabs s.heap)(B:BM s.heap)(htab:∀ t∈tabs,∃ ps,s.heap.get? t=some (tableObj ps)∧TriplesOk ps.toList)(hd:A.depth+100<recursionLimit)(hu:A.units+2000<cLine)(hh:A.handled=none)(H:Scr s.heap sc scv)(htk:776≤s.toks)
  (k:∀ (s':Shared) (L':Addr) (l':List (Str×Value)) (X:List (Addr×Obj)),Kp s s'→St s.heap tabs L' l' X s'.heap→R (.ok (.ret (.bool true))) s') :
  codeAny (model pw w) A (.call (.ref 306) ⟨[.ref sc],[]⟩) R s:=by
 refine rG G htab (lk306 _) (by exact dn 100 hd) (binds:=[(Str.ofString "script", .ref sc)]) (body:=et) (BindsTo.of_eq (by kernel_rfl)) ?_
 intro L' h_1 S_1
 have hd':A.depth+60<recursionLimit:=by exact dn 40 hd
 have hu':A.units+1000<cLine:=by exact dn 1000 hu
 refine law_a G hd' hh H (by simp only;exact z6s htk) (by exact S_1) ?_
 intro s_2 X2 nb nr nvs nn nc x many tm t0 ns K2 hn3 hn6 hni hx hm1 hm2 hNk ht0 hT hN hnr hnb S_2
 rw[List.append_nil] at S_2
 have hnl:ns.length=10:=by
  have:=congrArg List.length hNk
  rw[List.length_map,cw] at this
  exact this
 refine law_b (x:=x) (nc:=nc) G hh hNk hN hnr S_2 ?_
 intro s3 wd c_3 K3 S_3
 obtain⟨h_0,nt,hns⟩:Ex2 fun h_0 nt=>ns=h_0::nt:=by
  cases ns with
  | nil=>simp at hnl
  | cons a b=>exact⟨a,b,rfl⟩
 refine qX (ns:=ns) G hd' hu' hh H hnl hns (.head _) S_3 ?_
 intro s4 X4 tw ro du m c1 c2 c3 row K4 hm hrow htw hro hdu S4
 have hup4:∀ p∈X2,p∈X4++((wd,ae ((bI ns).map aj) c_3)::X2):=fun p hp=>List.mem_append_right _ (.tail _ hp)
 refine qW (x:=x) (nc:=nc) G hh hx hNk (fun e he=>hup4 _ (hN e he)) (hup4 _ hnr) S4 ?_
 intro s5 sh c_5 ps K5 hps S5
 have F:LF nr tw ro du sh nb ns ps row h_0 nvs x m t0 s_2.toks ((sh,ae (ps.map dD) c_5)::(X4++((wd,ae ((bI ns).map aj) c_3)::X2))) :=
  { hx:=hx,hm:=hm,hk:=hNk,hh:=by rw[hns];rfl,ht:=ht0,tk:=hT,hrow:=hrow,hps:=hps,nv3:=hn3,nv6:=hn6,nvi:=hni,mN:=fun e he=>.tail _ (hup4 _ (hN e he)),mnr:=⟨nc,.tail _ (hup4 _ hnr)⟩,mtw:=⟨c1,.tail _ (List.mem_append_left _ htw)⟩,mro:=⟨c2,.tail _ (List.mem_append_left _ hro)⟩,mdu:=⟨c3,.tail _ (List.mem_append_left _ hdu)⟩,msh:=⟨c_5,.head _⟩,mnb:=⟨nn,.tail _ (hup4 _ hnb)⟩ }
 refine law_d G hu' hh F S5 ?_
 intro s6 X6 K6 S6
 have F6:=F.mono (T':=X6++_) fun p hp=>List.mem_append_right X6 hp
 refine law_e G B hd' hu' hh F6 S6 ?_
 intro s7 X7 K7 S7
 have F7:=F6.mono (T':=X7++_) fun p hp=>List.mem_append_right X7 hp
 refine law_f G B hd' hu' hh F7 ⟨hm1,hm2⟩ S7 ?_
 intro s8 X8 to_ a ta K8 ha S8
 have F8:=F7.mono (T':=X8++_) fun p hp=>List.mem_append_right X8 hp
 refine law_g G B hd' hu' hh F8 S8 ?_
 intro s9 X9 K9 S9
 have F9:=F8.mono (T':=X9++_) fun p hp=>List.mem_append_right X9 hp
 refine law_h G B hd' hu' hh F9 ha S9 ?_
 intro s10 X10 e one K10 hea hUa S10
 have F10:=F9.mono (T':=X10++_) fun p hp=>List.mem_append_right X10 hp
 refine law_i G B hd' hu' hh F10 ha hea hUa S10 ?_
 intro s11 X11 l' K11 S11
 refine k s11 L' l' _ ?_ S11
 have K:=((((((((K2.trans K3).trans K4).trans K5).trans K6).trans K7).trans K8).trans K9).trans K10).trans K11
 exact⟨K.os,K.gens⟩
end
end
section
theorem kk_in{w:World}{s0:Shared}{h:Heap}(y:aa.map s0.heap.get? = (KK w.params).map fun p=>some p.2)(kp:∀ b o,s0.heap.get? b=some o→h.get? b=some o):(KK w.params).In h:=by
 have ea:aa=(KK w.params).map (·.1):=rfl
 rw[ea] at y
 have A:=PySem.W.X.allIn_of y
 intro a o e
 refine kp a o ?_
 revert A e
 generalize KK w.params=K
 intro A e
 induction K with
 | nil=>cases e
 | cons p r ih =>
  obtain⟨b,o'⟩:=p
  rw[List.lookup_cons] at e
  split at e
  ·rename_i hq
   cases e
   rw[beq_iff_eq.mp hq];exact A.1
  ·exact ih A.2 e
theorem mS{hb h:Heap}{tabs:List Addr}{L:Addr}{l:List (Str×Value)}{T:List (Addr×Obj)}(S:St hb tabs L l T h)(ht:∀ t∈tabs,isCodeTable hb t):OldK hb h:=by
 refine⟨fun b o e=>?_,fun b o e=>?_⟩
 ·by_cases q:b∈tabs
  ·obtain⟨ps,more,e1,e2,_⟩:=S.tab b q
   rw[e1] at e;cases e
   exact .inr (.inl ⟨ht b q,rfl,ps,more,rfl,e2⟩)
  ·exact .inl (S.old e q)
 ·by_cases q:b∈tabs
  ·obtain⟨ps,more,e1,e2,_⟩:=S.tab b q
   exact⟨_,e2⟩
  ·exact⟨o,S.old e q⟩
theorem f8:∀ {vs:List Value}{ns:List Int},IntsAre vs ns→∀ v∈vs,Ex2 fun i t=>v=Value.int i t
 | _,_,.nil,_,h=>by cases h
 | _,_,.cons n t r,v,h=>by
  rcases List.mem_cons.mp h with rfl | h
  ·exact⟨n,t,rfl⟩
  ·exact f8 r v h
theorem mX{K:Frag}{h:Heap}{a:Addr}{m:Str→Option Value}{x:Str}(k:K.In h)(N:h.Ns a m)(e:nsIn K a x=some none):m x=none:=by
 obtain⟨o,es,ep,ho,hd,_,hf⟩:=N
 unfold nsIn at e
 cases q:K.lookup a with
 | none=>rw[q] at e;cases e
 | some ob =>
  rw[q] at e
  have z:=k a ob q
  rw[ho] at z
  obtain rfl:=Option.some.inj z
  obtain⟨c,d,dt,sl⟩:=o
  simp only at hd
  subst hd
  simp only at e
  cases q':es.toList.find? (·.key.isStr x) with
  | some v=>rw[q'] at e;cases e
  | none =>
   rw[← hf]
   unfold nsFind findBy
   rw[← Array.find?_toList,q']
   rfl
theorem gd_of{w:World}{s0:Shared}{mg mb:Str→Option Value}{h:Heap}{R:WRecords}{XP:(Str→Option Value)→Heap→Prop}(G:Ground qq loose R XP w s0 mg mb h)(k:(KN w.params).In h):Gd (KN w.params) tabs h where
 k:=k
 mg:=⟨mg,G.T.g⟩
 bl:=⟨mb,G.T.b,G.T.builtins⟩
 lim:=G.T.nolimit
 nb:=by
  obtain⟨mc,h1,h2⟩:=G.T.nolimit
  exact⟨mc,h1,mX k h1 (by kernel_rfl)⟩
 n1:=by decide
 n2:=by decide
 n3:=by decide
 nt:=KN_nt _
theorem bm_of{w:World}{s0:Shared}{mg mb:Str→Option Value}{h:Heap}{R:WRecords}{XP:(Str→Option Value)→Heap→Prop}(G:Ground qq loose R XP w s0 mg mb h):BM h:=by
 obtain⟨bm,ob,h1,h2,h3,h4,h5,h6⟩:=G.T.bmain
 exact⟨mg,bm,ob,G.T.g,h1,h2,h3,h4,h5,h6⟩
theorem i6{w:World}{h:Heap}(k:(KK w.params).In h):∀ t∈tabs,isCodeTable h t:=by
 intro t ht
 obtain rfl:t=248:=by simpa using ht
 exact⟨252,mV w.params,_,k _ _ (by kernel_rfl),rfl,rfl,rfl⟩
theorem ms{w:World}{h:Heap}(k:(KK w.params).In h):∀ t∈tabs,∃ ps,h.get? t=some (tableObj ps)∧TriplesOk ps.toList:=by
 intro t ht
 obtain rfl:t=248:=by simpa using ht
 exact⟨#[],k 248 (pL w.params) (by kernel_rfl),by trivial⟩
theorem ka{w:World}{s0 s₁:Shared}{mg mb:Str→Option Value}{R:WRecords}{XP:(Str→Option Value)→Heap→Prop}{fa sc:Addr}{vs:List Value}{ns:List Int}{Q:VP}{E:VP}
  (G:Ground qq loose R XP w s0 mg mb s₁.heap) (k:(KK w.params).In s₁.heap) (hfa:mg (Str.ofString "law")=some (.ref fa)) (hl:s₁.heap.IsList sc vs.toArray) (hi:IntsAre vs ns) (hn:ns.length≤63) (htk:776≤s₁.toks)
  (h:∀ s',OldK s₁.heap s'.heap→s'.os=s₁.os→(AllBare s₁.gens→AllBare s'.gens)→Q (.bool true) s') :
  wpAny (model pw w) callerA (call (.ref fa) [.ref sc]) Q E s₁:=by
 have kn:=KN_in k
 have e:mg (Str.ofString "law")=some (.ref 306):=mg_of kn G.T.g (by kernel_rfl)
 rw[hfa] at e
 injection e with e;injection e with e
 subst e
 refine wpAny_call ?_
 refine law_c (scv:=vs) (sc:=sc) (gd_of G kn) (bm_of G) (ms k) (by decide) (by decide) rfl ⟨?_,?_,f8 hi,?_⟩ htk ?_
 ·obtain⟨o,a,b,n,c⟩:=hl
  exact⟨o,n,a,b,c⟩
 ·intro q
  obtain rfl:sc=248:=by simpa using q
  obtain⟨o,a,b,n,c⟩:=hl
  have:=k 248 (pL w.params) (by kernel_rfl)
  rw[this] at a
  cases a
  cases b
 ·rw[IntsAre.length hi];exact hn
 ·intro s' L' l' X K S
  exact h s' (mS S (i6 k)) K.os K.gens
end
end
end Mine
open PySem PySem.W PyProof.Rows
set_option maxHeartbeats 0
open Mine in
theorem PySem.Challenge.cw_yj0002_02_holds : PySem.Challenge.rw_yj0002_02.Holds := by
 w_on
 refine holds_law (by kernel_rfl) fun said=>?_
 refine holds_openX (q:=qq) (loose:=loose) (Xt:=Xt) (XP:=XL qq []) (Yf:=fun s=>(aa.map s.heap.get?,Nat.ble tk0 s.toks)) (Ya:=fun w=>((KK w.params).map fun p=>some p.2,true)) (N:=4714) ?hl (fun s e=>xl_of s (Bool.and_eq_true_iff.mp e).1) XL.keeps
  (by rfl) (by rfl) (by rfl) (fun s e=>recFacts_of (Bool.and_eq_true_iff.mp e).2) (by rfl) (by first | assumption | decide +kernel) (by decide +kernel) ⟨rfl,rfl,rfl,rfl,rfl,by decide +kernel⟩ ?hw ?hc
 case hl=>exact left
 case hw=>w_witness2
 case hc =>
  intro w s0 s₁ mg mb G Y fa o pm cd doc dV kV ho hd hcd hD hmg hg args vals as La hpre hlay hrd hwl hlo
  clear hcd hd hD ho
  have hfa:mg "law" = some (.ref fa):=hmg
  clear hmg
  wrow_args hpre hlay hrd hwl hlo
  rename_i ns _ _ _ _ _ _ _ sc vs _ hL _ _ _ hI _ hn _
  have k:=kk_in (congrArg Prod.fst Y) La.keeps
  have ht:776≤s₁.toks:=Nat.le_trans (Nat.le_of_ble_eq_true (congrArg Prod.snd Y)) (X.script_toks La rfl)
  refine ka (ns:=ns) G k hfa hL hI (by exact zbi hn) ht fun s' K os gens=>?_
  exact⟨.inl ⟨_,_,[],rfl,fun _=>rfl,ReadsW.bool true,by first | rfl | wrow_post,fun _=>⟨List.nodup_nil,fun _ hm=>(nomatch hm)⟩⟩,K,os,gens (by rw[hg];exact AllBare.empty)⟩
