import PyProof.Rows.All
import Wide.All
import OpenK.AllK
import Wide.FinOn
import PyProof.StrReplace2
import PyProof.SliceStr
import PyProof.AutoRange
import PyProof.CallTypeRange
import PyProof.CallFns
import PyProof.StrCalls2
import PyProof.NeKinds
import PyProof.AutoIntG9
import PyProof.InstSpecial
import PyProof.Rows.SortRuns
import PyProof.Rows.SortPure
import KE.KSortKey
import KE.KSortAsk
import PyProof.P3Eq
import PyProof.NeData
import PyProof.SliceMore
import PyProof.CompMap
import PyProof.SumWalkG
import PyProof.WalkInts
import Lean
import PySem.Challenge.RW_ik0048_01
set_option maxRecDepth 100000
set_option autoImplicit false
set_option Elab.async false
set_option maxHeartbeats 0
set_option genInjectivity false
set_option genSizeOf false
set_option linter.all false
namespace RL
inductive T|v(i:Nat)|n (k:Nat)|a (x y:T)|m (k:Nat) (x:T)
inductive P|l(x y:T)|e (x y:T)|f|i (p q:P)|c (p q:P)|d (p q:P)
noncomputable def yk:List Nat→Nat→Nat
 |[],_=>0
 |x::_,0=>x
 |_::l,i+1=>yk l i
noncomputable def T.ev(ρ:List Nat):T→Nat
 |.v i=>yk ρ i
 |.n k=>k
 |.a x y=>x.ev ρ+y.ev ρ
 |.m k x=>k*x.ev ρ
noncomputable def P.den(ρ:List Nat):P→Prop
 |.l x y=>x.ev ρ≤y.ev ρ
 |.e x y=>x.ev ρ=y.ev ρ
 |.f=>False
 |.i p q=>p.den ρ→q.den ρ
 |.c p q=>p.den ρ∧q.den ρ
 |.d p q=>p.den ρ∨q.den ρ
noncomputable def dot:List Int→List Int→Int
 |a::r,x::e=>a*x+dot r e
 |_,_=>0
noncomputable def u5:List Int→List Int→List Int
 |a::r,b::s=>(a+b)::u5 r s
 |[],s=>s
 |r,[]=>r
noncomputable def u6(k:Int):List Int→List Int
 |[]=>[]
 |a::r=>(k*a)::u6 k r
noncomputable def nS:Nat→List Int
 |0=>[1]
 |i+1=>0::nS i
noncomputable abbrev Row:=Int×List Int
noncomputable def rat(r:Row)(e:List Int):Int:=r.1+dot r.2 e
noncomputable def addW(r s:Row):Row:=(r.1+s.1,u5 r.2 s.2)
noncomputable def rL(k:Int)(r:Row):Row:=(k*r.1,u6 k r.2)
theorem Qc(r:List Int):dot r []=0:=by cases r<;>rfl
theorem Qd(r s e:List Int):dot (u5 r s) e=dot r e+dot s e:=by
 induction r generalizing s e with
 |nil=>cases e<;>exact(Int.zero_add _).symm
 |cons a r ih=>
  cases s with
  |nil=>cases e<;>exact(Int.add_zero _).symm
  |cons b s=>
   cases e with
   |nil=>rfl
   |cons x e=>
    show(a+b)*x+dot (u5 r s) e=a*x+dot r e+(b*x+dot s e);rw[ih,Int.add_mul];omega
theorem Qe(k:Int)(r e:List Int):dot (u6 k r) e=k*dot r e:=by
 induction r generalizing e with
 |nil=>exact(Int.mul_zero _).symm
 |cons a r ih=>
  cases e with
  |nil=>exact(Int.mul_zero _).symm
  |cons x e=>
   show k*a*x+dot (u6 k r) e=k*(a*x+dot r e);rw[ih,Int.mul_add,Int.mul_assoc]
theorem u9(r s:Row)(e:List Int):rat (addW r s) e=rat r e+rat s e:=by
 show r.1+s.1+dot (u5 r.2 s.2) e=r.1+dot r.2 e+(s.1+dot s.2 e);rw[Qd];omega
theorem yl(k:Int)(r:Row)(e:List Int):rat (rL k r) e=k*rat r e:=by
 show k*r.1+dot (u6 k r.2) e=k*(r.1+dot r.2 e);rw[Qe,Int.mul_add]
noncomputable abbrev up(ρ:List Nat):List Int:=ρ.map Int.ofNat
theorem HN(i:Nat)(ρ:List Nat):dot (nS i) (up ρ)=(yk ρ i:Int):=by
 induction i generalizing ρ with
 |zero=>cases ρ with
  |nil=>rfl
  |cons x r=>
   show 1*(x:Int)+dot [] (up r)=x;rw[Int.one_mul];exact Int.add_zero _
 |succ i ih=>cases ρ with
  |nil=>rfl
  |cons x r=>
   show 0*(x:Int)+dot (nS i) (up r)=(yk r i:Int);rw[Int.zero_mul,Int.zero_add,ih]
noncomputable def T.mz:T→Row
 |.v i=>(0,nS i)
 |.n k=>(k,[])
 |.a x y=>addW x.mz y.mz
 |.m k x=>rL k x.mz
theorem vd(ρ:List Nat):∀t:T,rat t.mz (up ρ)=(t.ev ρ:Int)
 |.v i=>(Int.zero_add _).trans (HN i ρ)
 |.n k=>Int.add_zero _
 |.a x y=>by
  show rat (addW x.mz y.mz) (up ρ)=((x.ev ρ+y.ev ρ:Nat):Int);rw[u9,vd ρ x,vd ρ y];rfl
 |.m k x=>by
  show rat (rL k x.mz) (up ρ)=((k*x.ev ρ:Nat):Int);rw[yl,vd ρ x];rfl
noncomputable def lq(r:Row):Int:=r.2.headD 0
noncomputable def ym(r:Row):Row:=(r.1,r.2.tail)
theorem HO(r:Row)(x:Int)(e:List Int):rat r (x::e)=lq r*x+rat (ym r) e:=by
 obtain⟨k,r⟩:=r;cases r with
 |nil=>
  show k+0=0*x+(k+0);rw[Int.zero_mul,Int.zero_add]
 |cons a r=>
  show k+(a*x+dot r e)=a*x+(k+dot r e);omega
noncomputable def BW(p n:Row):Row:=addW (rL (-(lq n)) (ym p)) (rL (lq p) (ym n))
noncomputable def BX(rs:List Row):List Row:=
 (rs.filter λr=>lq r==0).map ym++(rs.filter λr=>decide (0<lq r)).flatMap λp=>(rs.filter λr=>decide (lq r<0)).map λn=>BW p n
theorem Qf{rs:List Row}{x:Int}{e:List Int}(h:∀r∈rs,0≤rat r (x::e)):∀r∈BX rs,0≤rat r e:=by
 intro r hr;rcases List.mem_append.mp hr with hr|hr
 ·obtain⟨q,hq,rfl⟩:=List.mem_map.mp hr;have:=List.mem_filter.mp hq;have g:=h q this.1;rw[HO,eq_of_beq this.2,Int.zero_mul,Int.zero_add]at g;exact g
 ·obtain⟨p,hp,hr⟩:=List.mem_flatMap.mp hr;obtain⟨n,hn,rfl⟩:=List.mem_map.mp hr;have p1:=List.mem_filter.mp hp;have n1:=List.mem_filter.mp hn;have a:=h p p1.1;have b:=h n n1.1;rw[HO]at a b;show 0≤rat (BW p n) e;unfold BW;rw[u9,yl,yl];have c:=Int.mul_nonneg (Int.le_of_lt (Int.neg_pos_of_neg (of_decide_eq_true n1.2))) a;have d:=Int.mul_nonneg (Int.le_of_lt (of_decide_eq_true p1.2)) b;rw[Int.mul_add]at c d;have e1:-lq n*(lq p*x)+lq p*(lq n*x)=0:=by
   rw[Int.neg_mul,Int.mul_left_comm];omega
  omega
noncomputable def BZ:Nat→List Row→Bool
 |0,rs=>rs.any λr=>decide (r.1<0)
 |n+1,rs=>BZ n (BX rs)
theorem HP:∀(e:List Int) (rs:List Row),BZ e.length rs=true→(∀r∈rs,0≤rat r e)→False
 |[],rs,h,g=>by
  obtain⟨r,hr,h⟩:=List.any_eq_true.mp h;have:=g r hr;unfold rat at this;rw[Qc]at this;have:=of_decide_eq_true h;omega
 |x::e,rs,h,g=>HP e (BX rs) h (Qf g)
noncomputable def B3(rs:List Row):Bool:=rs.any λr=>rs.any λs=>decide ((addW r s).1<0) && (addW r s).2.all λc=>decide (c=0)
theorem HQ:∀(r e:List Int),r.all (λc=>decide (c=0))=true→dot r e=0
 |[],_,_=>by cases ‹List Int›<;>rfl
 |_::_,[],_=>rfl
 |a::r,x::e,h=>by
  have h:=Bool.and_eq_true_iff.mp h;show a*x+dot r e=0;rw[of_decide_eq_true h.1,HQ r e h.2,Int.zero_mul,Int.zero_add]
theorem HR{e:List Int}{rs:List Row}(h:B3 rs=true)(g:∀r∈rs,0≤rat r e):False:=by
 obtain⟨r,hr,h⟩:=List.any_eq_true.mp h;obtain⟨s,hs,h⟩:=List.any_eq_true.mp h;have h:=Bool.and_eq_true_iff.mp h;have a:rat (addW r s) e=(addW r s).1+0:=congrArg _ (HQ _ e h.2);rw[u9,Int.add_zero]at a;exact absurd (a▸Int.add_nonneg (g r hr) (g s hs)) (Int.not_le.mpr (of_decide_eq_true h.1))
noncomputable def jM(x y:T)(k:Int):Row:=addW (addW x.mz (rL (-1) y.mz)) (k,[])
theorem ve(x y:T)(k:Int)(ρ:List Nat):rat (jM x y k) (up ρ)=(x.ev ρ:Int)-y.ev ρ+k:=by
 unfold jM;rw[u9,u9,yl,vd,vd];show _+(k+dot [] _)=_;show _+(k+0)=_;omega
noncomputable abbrev sgn(ρ:List Nat)(q:Bool×P):Prop:=bif q.1 then q.2.den ρ else ¬q.2.den ρ
noncomputable def Qg(go:List (Bool×P)→List Row→Bool)(q:List (Bool×P))(rs:List Row):P→Bool
 |.l x y=>go q (jM y x 0::rs)
 |.e x y=>go q (jM y x 0::jM x y 0::rs)
 |.f=>true
 |.i p r=>go ((false,p)::q) rs && go ((true,r)::q) rs
 |.c p r=>go ((true,p)::(true,r)::q) rs
 |.d p r=>go ((true,p)::q) rs && go ((true,r)::q) rs
noncomputable def Qh(go:List (Bool×P)→List Row→Bool)(q:List (Bool×P))(rs:List Row):P→Bool
 |.l x y=>go q (jM x y (-1)::rs)
 |.e x y=>(B3 (jM x y (-1)::rs) && B3 (jM y x (-1)::rs))||(go q rs||(go q (jM x y (-1)::rs) && go q (jM y x (-1)::rs)))
 |.f=>go q rs
 |.i p r=>go ((true,p)::(false,r)::q) rs
 |.c p r=>go ((false,p)::q) rs && go ((false,r)::q) rs
 |.d p r=>go ((false,p)::(false,r)::q) rs
noncomputable def tab(n:Nat):Nat→List (Bool×P)→List Row→Bool
 |0,_,_=>false
 |k+1,q,rs=>match q with
  |[]=>BZ n rs
  |s::q=>bif s.1 then Qg (tab n k) q rs s.2 else Qh (tab n k) q rs s.2
theorem gq{α:Type}{p:α→Prop}{a:α}{l:List α}(h:p a)(g:∀x∈l,p x):∀x∈a::l,p x:=λx m=>(List.mem_cons.mp m).elim (λe=>e▸h) (g x)
theorem B4(ρ:List Nat):∀(k:Nat) (q:List (Bool×P)) (rs:List Row),tab ρ.length k q rs=true→(∀s∈q,sgn ρ s)→(∀r∈rs,0≤rat r (up ρ))→False
 |0,_,_,h,_,_=>nomatch h
 |k+1,[],rs,h,_,g=>HP (up ρ) rs (by rw[List.length_map];exact h) g
 |k+1,(true,p)::q,rs,h,hq,g=>by
  have hp:p.den ρ:=hq _ (.head _);have hr:∀s∈q,sgn ρ s:=λs m=>hq s (.tail _ m);have ih:=B4 ρ k;cases p with
  |l x y=>
   refine ih _ _ h hr (gq ?_ g);have hp:x.ev ρ≤y.ev ρ:=hp;rw[ve];omega
  |e x y=>
   have hp:x.ev ρ=y.ev ρ:=hp;refine ih _ _ h hr (gq ?_ (gq ?_ g))<;>(rw[ve];omega)
  |f=>exact hp
  |i p r=>
   have h:=Bool.and_eq_true_iff.mp h;by_cases c:p.den ρ
   ·exact ih _ _ h.2 (gq (hp c) hr) g
   ·exact ih _ _ h.1 (gq c hr) g
  |c p r=>exact ih _ _ h (gq hp.1 (gq hp.2 hr)) g
  |d p r=>
   have h:=Bool.and_eq_true_iff.mp h;exact hp.elim (λc=>ih _ _ h.1 (gq c hr) g) (λc=>ih _ _ h.2 (gq c hr) g)
 |k+1,(false,p)::q,rs,h,hq,g=>by
  have hp:¬p.den ρ:=hq _ (.head _);have hr:∀s∈q,sgn ρ s:=λs m=>hq s (.tail _ m);have ih:=B4 ρ k;cases p with
  |l x y=>
   refine ih _ _ h hr (gq ?_ g);have hp:¬x.ev ρ≤y.ev ρ:=hp;rw[ve];omega
  |e x y=>
   have hp:¬x.ev ρ=y.ev ρ:=hp;have w:(0≤rat (jM x y (-1)) (up ρ))∨(0≤rat (jM y x (-1)) (up ρ)):=by
    rw[ve,ve];omega
   rcases Bool.or_eq_true_iff.mp h with h|h
   ·have h:=Bool.and_eq_true_iff.mp h;exact w.elim (λw=>HR h.1 (gq w g)) (λw=>HR h.2 (gq w g))
   ·rcases Bool.or_eq_true_iff.mp h with h|h
    ·exact ih _ _ h hr g
    ·have h:=Bool.and_eq_true_iff.mp h;exact w.elim (λw=>ih _ _ h.1 hr (gq w g)) (λw=>ih _ _ h.2 hr (gq w g))
  |f=>exact ih _ _ h hr g
  |i p r=>
   by_cases c:p.den ρ
   ·exact ih _ _ h (gq c (gq (λd=>hp λaf=>d) hr)) g
   ·exact hp λd=>absurd d c
  |c p r=>
   have h:=Bool.and_eq_true_iff.mp h;by_cases c:p.den ρ
   ·exact ih _ _ h.2 (gq (λd=>hp ⟨c,d⟩) hr) g
   ·exact ih _ _ h.1 (gq c hr) g
  |d p r=>exact ih _ _ h (gq (λd=>hp (.inl d)) (gq (λd=>hp (.inr d)) hr)) g
theorem Qi(ρ:List Nat):∀r∈(List.range ρ.length).map (λi=>((0,nS i):Row)),0≤rat r (up ρ):=by
 intro r hr;obtain⟨i,af,rfl⟩:=List.mem_map.mp hr;show 0≤0+dot (nS i) (up ρ);rw[HN];omega
theorem R0(p:P)(ρ:List Nat)(h:tab ρ.length 99 [(false,p)] ((List.range ρ.length).map λi=>(0,nS i))=true):p.den ρ:=
 Classical.byContradiction λc=>B4 ρ _ _ _ h (gq c λaf m=>nomatch m) (Qi ρ)
theorem aP(a b:Nat):b≤a∧a-b+b=a∨a≤b∧a-b=0:=(Nat.le_total b a).imp (λh=>⟨h,Nat.sub_add_cancel h⟩) λh=>⟨h,Nat.sub_eq_zero_of_le h⟩
theorem iP(a b:Nat):a≤b∧min a b=a∨b≤a∧min a b=b:=(Nat.le_total a b).imp (λh=>⟨h,Nat.min_eq_left h⟩) λh=>⟨h,Nat.min_eq_right h⟩
theorem nT(a b:Nat):a≤b∧max a b=b∨b≤a∧max a b=a:=(Nat.le_total a b).imp (λh=>⟨h,Nat.max_eq_right h⟩) λh=>⟨h,Nat.max_eq_left h⟩
theorem pR(a:Nat):a=2*(a/2)+a%2∧a%2+1≤2:=⟨(Nat.div_add_mod a 2).symm,Nat.mod_lt a Nat.two_pos⟩
noncomputable def rd(d:Nat)(t:List T×List P):List T×List P:=
 bif Nat.blt d 9 then(.v (d-1)::t.1,t.2)else bif Nat.ble 20 d then(match t.1 with|.n k::s=>(.n (16*k+(d-20))::s,t.2)|_=>t)else
 match d,t.1,t.2 with
 |9,s,p=>(.n 0::s,p)
 |10,y::x::s,p=>(.a x y::s,p)
 |11,y::.n k::s,p=>(.m k y::s,p)
 |12,y::x::s,p=>(s,.l x y::p)
 |13,y::x::s,p=>(s,.l (.a x (.n 1)) y::p)
 |14,y::x::s,p=>(s,.e x y::p)
 |15,s,p=>(s,.f::p)
 |16,s,y::x::p=>(s,.i x y::p)
 |17,s,y::x::p=>(s,.c x y::p)
 |18,s,y::x::p=>(s,.d x y::p)
 |19,s,x::p=>(s,.i x .f::p)
 |_,_,_=>t
noncomputable def B5:Nat→Nat→List T×List P→P
 |0,_,t=>t.2.headD .f
 |k+1,n,t=>bif Nat.beq n 0 then t.2.headD .f else B5 k (n/36) (rd (n%36) t)
theorem R(n:Nat)(ρ:List Nat)(h:tab ρ.length 99 [(false,B5 999 n ([],[]))] ((List.range ρ.length).map λi=>(0,nS i))=true:=by kernel_rfl!):(B5 999 n ([],[])).den ρ:=R0 _ ρ h
end RL
namespace Mine
section
open RL
variable{a b c d e f g h i j:Nat}
theorem E0:a<b→b≤a→False:=R 46424964263833 [a,b]
theorem E1:a<b→a=c→b≤c→False:=R 77980104702629753689 [a,b,c]
theorem E2:a≤a+1:=R 743381749 [a]
theorem E3:a<b→b≤c→c=a→False:=R 77980110190177137049 [a,b,c]
theorem E4:a≤900→a≤1000:=R 77499452927850937525 [a]
theorem E5:a≤b→b≤c→a≤c:=R 60157585666608265 [a,b,c]
theorem E6:a<b→a=b→False:=R 46425086829145 [a,b]
theorem E7:a+(b+1)=c→a+1+b=c:=R 130453752149834878667686681 [a,b,c]
theorem E8:∀{a:Nat},¬(↑a:Int)<0:=by omega
theorem E9:a≤b→max a b=b:=R 285075965571634858487745979723819465 [a,b,max a b] (by kernel_rfl!) (nT a b)
theorem nU:a<900→a≤1000:=R 77499452927911403701 [a]
theorem pS:a≤1000→a≤16777216:=R 130117792749919265068041781 [a]
theorem rM:a<900→a<1000:=R 77631074631753670837 [a]
theorem B6:a+(b+1)≤1000→a≤1000:=R 4686095560639573257199756057 [a,b]
theorem rN:a<b→a≤b:=R 35557534297 [a,b]
theorem rR:a≤b→a+(b-a)=b:=R 478818269918956718413399425044353857685705 [a,b,b-a] (by kernel_rfl!) (aP b a)
theorem vf:∀{a:Nat},0≤(↑a:Int):=by omega
theorem vg:a+1<a→False:=R 1287266594581 [a]
theorem vh:a<a→False:=R 27590581 [a]
theorem yo:a+(b+1)≤1000→a+b≤1000:=R 6073179848073105039417874785049 [a,b]
theorem vj:a+(b+1)≤900→a+1+b≤900:=R 283294581097843649131210611259417369 [a,b]
theorem Qj:a<b→b≤c→c≤a→False:=R 77980104547957322137 [a,b,c]
theorem B7:a<b→a=c→b≤d→d≤c→False:=R 130976817524345866235016025 [a,b,c,d]
theorem yp:∀{a:Nat},(↑(a+1):Int)-1=(↑a:Int):=λ{a}=>Int.add_sub_cancel (a:Int) 1
theorem yq:a+1-1=a:=R 1038129206215990001300374196934123743622519456353613 [a,a+1-1] (by kernel_rfl!) (aP (a+1) 1)
theorem yr:a+1≤900→a≤1000:=R 3615814475801813341613845 [a]
theorem yu:a≤6→a<900:=R 59888765924533477 [a]
theorem B8:a+(b+1)≤1000→a+1+b≤1000:=R 283350278991755498023583106270438169 [a,b]
theorem yv:a<b→a+1≤b:=R 1658992406705497 [a,b]
theorem yw:a<b→a-1<b:=R 17236645243671222183008710054629930126871053 [a,b,a-1] (by kernel_rfl!) (aP a 1)
theorem yx:a≤b→a≤b+1:=R 1659642527271241 [a,b]
theorem yy:a+(b+1)=c→a<c:=R 2153785926428099353 [a,b,c]
theorem yz:a<b→a=c+1∨a=c→b≤c→False:=R 6110845721160546793114666954585 [a,b,c]
theorem HS:a<b→b≤c→c≤d→d≤a→False:=R 130976817517033551410786713 [a,b,c,d]
theorem yC:a<b→b≤c→c≤d→¬a=d:=R 3638258985323693681701273 [a,b,c,d]
theorem B9:236≤a→a=a-236+236:=R 1750655149229822661329776787840632155308303234391743545617 [a,a-236] (by kernel_rfl!) (aP a 236)
theorem Ca:a+1≤6→a+1≤1000:=R 130169321162640290468780821 [a]
theorem Cb:a+3<a→False:=R 1287266597173 [a]
theorem Cd:a=6→a≤900:=R 59787205967958373 [a]
theorem Ce:a≤10000→a≤16777216:=R 4684240538997093541944143461 [a]
theorem Cg:a≤50+10*100→a<9900:=R 6084609228307114683743959519285 [a]
theorem Ci:a≤a:=R 15589 [a]
theorem Cj:∀{a:Nat},¬(↑a:Int)+1=0:=by omega
theorem Ck:a+(b+1)≤900→a≤900:=R 4685174419306980368389055257 [a,b]
theorem Cm:a+0=b→¬a<b:=R 1679583566721637 [a,b]
theorem Cp:a<b→b-1<b:=R 17236645243671222183008710186254455079046941 [a,b,b-1] (by kernel_rfl!) (aP b 1)
theorem Cq:a<b→¬a=b-1→a<b-1:=R 1042395567545595095173279028719254752082784697323293 [a,b,b-1] (by kernel_rfl!) (aP b 1)
theorem Cr:a=b→a≤b:=R 35557535593 [a,b]
theorem Qk:Min.min a b=c+0→a≤b→a≤c:=R 620614598652314494698240175995536922062569225 [a,b,c,min a b] (by kernel_rfl!) (iP a b)
theorem Ql:Min.min a b=c+0→b≤a→b≤c:=R 620614599275520457593673901972251760336518921 [a,b,c,min a b] (by kernel_rfl!) (iP a b)
theorem Ct:a+(b+1)≤900→c+1≤a→c+1≤1000:=R 17236440231715403582851877401985260219343641 [a,b,c]
theorem Cu:a<b→0+b-1-c<b:=R 387061572386788740974059351514033654821516430603955452670953602610465774759515917 [a,b,c,0+b-1,0+b-1-c] (by kernel_rfl!) (aP (0+b) 1) (aP (0+b-1) c)
theorem Cv:a<b→a=c→c=b+1→False:=R 3638240055757870231815001 [a,b,c]
theorem Cw:a<b→b<c→0+c-1-b<0+c-1-a:=R 6705589966351916914413796926017035126099381038194507619575984577521698034430530153134143788504705723291134846553421 [a,b,c,0+c-1,0+c-1-b,0+c-1-a] (by kernel_rfl!) (aP (0+c) 1) (aP (0+c-1) b) (aP (0+c-1) a)
theorem Qm:a<b→b≤c→a<c:=R 60160406776517017 [a,b,c]
theorem Cx:a<b→c=b→a<c:=R 60160406895816409 [a,b,c]
theorem Cy:a<b→c=b→¬c=a:=R 2166415016977239769 [a,b,c]
theorem Cz:a<b→c≤c+b-1-a:=R 387061109513630849477206134801857434601515978209677692408043556349020757607250093 [a,b,c,c+b-1,c+b-1-a] (by kernel_rfl!) (aP (c+b) 1) (aP (c+b-1) a)
theorem HU:a<b∧b≤c→b-1<c:=R 28950984020808067799117769377529591275601973719069 [a,b,c,b-1] (by kernel_rfl!) (aP b 1)
theorem Qn:Min.min a b=c+(d+1)→Min.min a b=c+1+d:=R 1042293794576256789212770296062322246751567090808137 [a,b,c,d,min a b] (by kernel_rfl!) (iP a b)
theorem CA:a-b=c+1→a=b+d→a=b+1+(d-1):=R 1091947982377823414138688392302739304282004855053586974753738309381581853278746752044538594854 [a,b,c,d,a-b,d-1] (by kernel_rfl!) (aP a b) (aP d 1)
theorem CB:a-b=c+1→a=b+d→d-1<d:=R 18058822444689124804417614175166219388422184729691260745894394055413067708701582624294 [a,b,c,d,a-b,d-1] (by kernel_rfl!) (aP a b) (aP d 1)
theorem Qo:a<b→b≤c→c≤d→a<d:=R 101061923026241148187033 [a,b,c,d]
theorem CC:a<b→b≤c→c≤d→¬d+1=a:=R 169746610751365477686834131353 [a,b,c,d]
theorem CD:a≤b→b≤c→c≤d→a≤d:=R 101061791404537305918601 [a,b,c,d]
theorem E65:a≤b→c<a→d=e→e<c→d=b→False:=R 219990767032027056791621025387721 [a,b,c,d,e]
theorem HV:0+1≤a+1:=R 34683219328797 [a]
theorem HW:∀{a:Nat},0<(↑a:Int)+1:=by omega
theorem HX:0≤a:=R 15597 [a]
theorem HY:1<a→a-1<a:=R 620518398030809245905086277008063656891476237 [a,a-1] (by kernel_rfl!) (aP a 1)
theorem HZ:4≤a→a=4+(a-4):=R 28952603707331269754110046396150381942330492754297 [a,a-4] (by kernel_rfl!) (aP a 4)
theorem H6:a+1=a→False:=R 1287327060757 [a]
theorem H7:a+1≤6→a<900:=R 2794170262975034350357 [a]
theorem H8:a+2<a→False:=R 1287266595877 [a]
theorem H9:a+3=a→False:=R 1287327063349 [a]
theorem Ia:a+4<a→False:=R 1287266598469 [a]
theorem Ib:a<0+(a+1):=R 1041142311829 [a]
theorem Ic:a<1000→a<4096:=R 2793614256667809344053 [a]
theorem Ie:∀{a:Nat},a<1000000→(↑a:Int)<2^63:=λ{a} h=>Int.ofNat_lt.mpr (Nat.lt_of_lt_of_le h (by decide))
theorem Ig:a<a+1:=R 803847925 [a]
theorem Ih:a=0+a:=R 23982805 [a]
theorem Ii:∀{a:Nat},a≤1000→(↑a:Int)≤1000:=λ{a} h=>Int.ofNat_le.mpr h
theorem Ij:∀{a:Nat},a≤1000→¬(↑a:Int)≥2^63:=by omega
theorem Ik:a≤2000→a≤10000:=R 2788880245228660431925 [a]
theorem Il:a≤6→a≤1000:=R 59798960592479461 [a]
theorem Im:a≤6→a≤800:=R 59775451343250661 [a]
theorem Io:a≤6→a≤900:=R 59787205967865061 [a]
theorem Ip:a≤800→a<1000:=R 77631074631686206261 [a]
theorem Iq:a≤900→2*a≤2000:=R 3614445611066222394817717 [a]
theorem Ir:a≤900→a+10≤1000:=R 3615814476765398055287989 [a]
theorem Iu:∀{a:Nat},¬a=13→¬(↑a:Int)=13:=λ{a} h g=>h (Int.ofNat_inj.mp g)
theorem Iv:∀{a b:Int},a<b→a=b→False:=by omega
theorem Iw:236≤a→a+3<b→b≤224→False:=R 6110845830970991501124093140241 [a,b]
theorem Iz:a+(b+1)=6→a+1+b=6:=R 169250938630164166518052872985 [a,b]
theorem IA:a+(b+1)≤900→a≤1000:=R 4686095560639150090713637657 [a,b]
theorem IB:a+1+b=a+(b+1):=R 67692275667918767125 [a,b]
theorem IC:a+1<b→a+1≤b:=R 77401949727252115477 [a,b]
theorem IE:a+1=b→b<a→False:=R 2166005953864213525 [a,b]
theorem IG:a+1≤b→1≤b:=R 59724562708778005 [a,b]
theorem II:a+1≤b→a≤b:=R 1658972260142101 [a,b]
theorem IJ:a+3<b→b≤a→False:=R 2166003132693842485 [a,b]
theorem IK:a+9≤1000→b≤5→a+b≤1000:=R 285059207840566413273399970522085269 [a,b]
theorem IL:a-(b+1)≤a:=R 22175318480014762784277644257481841728393022230 [a,b,a-(b+1)] (by kernel_rfl!) (aP a (b+1))
theorem IM:a<6→b=6→a<b:=R 77967785829609040933 [a,b]
theorem IP:a<b+1→¬a=b→a<b:=R 101046250908569029267225 [a,b]
theorem IQ:a<b→0≤a∧a<b:=R 60261888365988697 [a,b]
theorem IT:a<b→a=b+1→False:=R 2166009521307700825 [a,b]
theorem IU:a<b→a=b+3→False:=R 2166009525661265497 [a,b]
theorem IV:a<b→a=b∨a=b+1→False:=R 3638083689173701263213145 [a,b]
theorem IW:a<b→b=b-1+1:=R 804239532476415301614522550720385661364945424157 [a,b,b-1] (by kernel_rfl!) (aP b 1)
theorem IX:a<b→b≤1000→a<1000000:=R 169723020901773535496155968409 [a,b]
theorem IY:a<b→¬(a=b∨a=b+1):=R 101583300554685849649753 [a,b]
theorem IZ:a<b→¬b=0:=R 1296047243161 [a,b]
theorem I0:a<b∨a-b=0→a-b=0:=R 620553988197003099319668936177482049804540326 [a,b,a-b] (by kernel_rfl!) (aP a b)
theorem I1:a=b∨a=b+1∨a=b+2∨a=b+3∨a=b+4∨a=b+5→b≤a:=R 105074977498004578218665868129359725932257373909488028460407378793 [a,b]
theorem I2:a≤2*(a-b)+b:=R 13208204260614976148418287892876094052774 [a,b,a-b] (by kernel_rfl!) (aP a b)
theorem I3:a≤b→¬a=b→a<b:=R 2165771838746762569 [a,b]
theorem I4:min a b≤a:=R 168477673761676534295954360521 [a,b,min a b] (by kernel_rfl!) (iP a b)
theorem I5:¬a>0→b≤b-(a+1)+1:=R 63017648286651594757953060401248282236622217551993378106389 [a,b,b-(a+1)] (by kernel_rfl!) (aP b (a+1))
theorem I6:¬a≤b→b-a=0:=R 13300625616911759474219079975965977544905 [a,b,b-a] (by kernel_rfl!) (aP b a)
theorem I7:236≤a→a+3<b→b≤c→c=54∨c=231∨c=a+1∨c=a+2∨c=a→False:=R 230447478382851695255405682764277464419480031557310326179768062968623848721 [a,b,c]
theorem I8:a-b=c+1→a-(b+1)=c:=R 18058768894690889816768289687093310119781064276430302644330081350008844647049480392678 [a,b,c,a-b,a-(b+1)] (by kernel_rfl!) (aP a b) (aP a (b+1))
theorem I9:a-b=c+1→a=b+1+c:=R 1042293756865060561006254954838105687986079549640678 [a,b,c,a-b] (by kernel_rfl!) (aP a b)
theorem Ja:a<b→b<c→0≤a∧a<c:=R 101066657751199058408857 [a,b,c]
theorem Jb:a<b→b<c→a<c:=R 60160406836983193 [a,b,c]
theorem Jc:a<b→b=c→a<c:=R 60160406897449369 [a,b,c]
theorem ahB:a<b→c=a→c=b→False:=R 77980110268658920921 [a,b,c]
theorem Jd:a<b→¬(b≤a∧a<c):=R 2177177703526289305 [a,b,c]
theorem Je:a<max b c→max b c-a=max b c-a-1+1:=R 66025918912875949060530675026767478518559618433756597469693293016611249209657089328086273370013942062 [a,b,c,max b c,max b c-a,max b c-a-1] (by kernel_rfl!) (nT b c) (aP (max b c) a) (aP (max b c-a) 1)
theorem Jf:a=b+(c+1)→b<a:=R 2153585642880054457 [a,b,c]
theorem Jg:a=b+1∨a=b→c≤b→c≤a:=R 4714186973948972804797231897 [a,b,c]
theorem Jh:a=b→c≤a→c≤b:=R 60157511652698857 [a,b,c]
theorem Ji:a=b→c≤b→c≤a:=R 60157433290214377 [a,b,c]
theorem Jj:a≤b→¬c≥a→(c+a)/2<b:=R 804317540876083982006656354127374828652525252871 [a,b,c,(c+a)/2,(c+a)%2] (by kernel_rfl!) (pR (c+a))
theorem Jk:a+1<b→b≤c→d<a→d=c∨d=a∨d=a+1→False:=R 804321073044192447031369086311240941886022221845 [a,b,c,d]
theorem Jl:a<b→a=c→b≤d→c=d+1∨c=d→False:=R 10263888886285939669948913914555265881 [a,b,c,d]
theorem Jm:a<b→b≤c→c≤d→¬a=d+1:=R 169746612337125180106398265753 [a,b,c,d]
theorem Jo:a<b→¬c<d→d+b-1-c<b:=R 23404233841370416378805086197652990057294220578729987571926119038927012917272732876017085 [a,b,c,d,d+b-1,d+b-1-c] (by kernel_rfl!) (aP (d+b) 1) (aP (d+b-1) c)
theorem Jp:a-b=c+1→a=b+d→d<e+1→d-1<e:=R 1415164691778553897482512537014168487824134161306707711060685480627775969071644649256978556501094 [a,b,c,d,e,a-b,d-1] (by kernel_rfl!) (aP a b) (aP d 1)
theorem ahC:a<b→c≤a→d≤c→b≤e→e<d→False:=R 219990767026231891794987847169497 [a,b,c,d,e]
theorem Qp:∀{a:Int} {b:Nat} {c:Int},0≤a→a≤1000000*(↑b:Int)→0≤c∧c<1000000→0≤a+c∧a+c≤1000000*(↑(b+1):Int):=λ{a b c} h g q=>⟨Int.add_nonneg h q.1,show a+c≤1000000*((b:Int)+1) by rw[Int.mul_add];exact Int.add_le_add g (Int.le_of_lt q.2)⟩
theorem Qq:∀{a:Int} {b:Nat},0≤a→(↑b:Int)+a=0→0<b→False:=λ{a b} h g q=>absurd g (Int.ne_of_gt (Int.add_pos_of_pos_of_nonneg (Int.ofNat_lt.mpr q) h))
theorem Qs:∀{a:Int} {b:Nat},0≤a→a<(↑b:Int)+1→a=(↑(Int.toNat a):Int)∧Int.toNat a≤b:=λ{a b} h g=>⟨(Int.toNat_of_nonneg h).symm,Int.toNat_le.mpr (Int.lt_add_one_iff.mp g)⟩
theorem Qt:∀{a:Int} {b:Nat},a+1+(↑b:Int)=a+((↑b:Int)+1):=λ{a b}=>Int.add_right_comm a 1 b|>.trans (Int.add_assoc a b 1)
theorem Qu:∀{a:Int} {b c:Nat},a≤1000000*(↑(b+1):Int)→b<c→c≤900→a≤1000000000:=λ{a b c} h g q=>Int.le_trans h (Int.le_trans (Int.mul_le_mul_of_nonneg_left (Int.ofNat_le.mpr (Nat.le_trans g q)) (by decide)) (by decide))
theorem Qv:∀{a:Int},0<a→¬a≤0:=λ{a} h=>Int.not_le.mpr h
theorem Qw:∀{a:Int},0≤a→a≤1000→-9223372036854775808≤a∧a<9223372036854775808:=λ{a} h g=>⟨Int.le_trans (by decide) h,Int.lt_of_le_of_lt g (by decide)⟩
theorem Qx:∀{a:Int},0≤a→a≤1000000000→-2^63≤a∧a<2^63:=λ{a} h g=>⟨Int.le_trans (by decide) h,Int.lt_of_le_of_lt g (by decide)⟩
theorem Qy:∀{a:Int},a<1000000→Int.toNat a<1000000:=λ{a} h=>(Int.toNat_lt' (by decide)).mpr h
theorem Qz:∀{a:Int},a<1000000→a≤1000000000:=λ{a} h=>Int.le_trans (Int.le_of_lt h) (by decide)
theorem QA:∀{a:Int},a=0∨a=1∨a=2∨a=3∨a=4∨a=5→(↑(Int.toNat a):Int)=a:=λ{a} h=>Int.toNat_of_nonneg (by rcases h with rfl|rfl|rfl|rfl|rfl|rfl<;>decide)
theorem QB:∀{a:Int},a=0∨a=1∨a=2∨a=3∨a=4∨a=5→Int.toNat a<6:=λ{a} h=>by rcases h with rfl|rfl|rfl|rfl|rfl|rfl<;>decide
theorem QC:∀{a:Nat} {b:Int},(↑(a+1):Int)+b+ -1=(↑a:Int)+b:=λ{a b}=>show(a:Int)+1+b+ -1=a+b by rw[Int.add_right_comm,Int.add_neg_cancel_right]
theorem QD:∀{a:Nat},((↑a:Int)-0-1)/1+1=(↑a:Int):=λ{a}=>show((a:Int)-0-1)/1+1=a by rw[Int.ediv_one,Int.sub_add_cancel,Int.sub_zero]
theorem QE:∀{a:Nat},(↑a:Int)+(1-1)=(↑a:Int):=λ{a}=>Int.add_zero _
theorem QF:∀{a:Nat},(↑a:Int)=0→0<a→False:=by omega
theorem QG:∀{a:Nat},(↑a:Int)=0↔a=0:=λ{a}=>⟨λg=>Int.ofNat_inj.mp g,λg=>congrArg Int.ofNat g⟩
theorem QH:∀{a:Nat},-(↑(a+1):Int)≤-1:=by omega
theorem QI:0+a≤a:=R 20215053 [a]
theorem QJ:∀{a:Nat},0<(↑(a+1):Int):=λ{a}=>Int.ofNat_lt.mpr (Nat.succ_pos a)
theorem QK:0<a→1≤a:=R 1280044188477 [a]
theorem QL:∀{a:Nat},0<a→Max.max 0 (Min.min (-1+(↑a:Int)) (↑a:Int))=(↑a:Int)-1:=λ{a} h=>match a,h with|a+1,_=>by rw[show(-1:Int)+((a+1:Nat):Int)=(a:Int)from(Int.add_comm _ _).trans (Int.add_sub_cancel (a:Int) 1),Int.min_eq_left (Int.ofNat_le.mpr (Nat.le_succ a)),Int.max_eq_right (Int.natCast_nonneg a)];exact(Int.add_sub_cancel (a:Int) 1).symm
theorem QM:0<a→a=a-1+1:=R 804239532453338995792116391525024116297270520077 [a,a-1] (by kernel_rfl!) (aP a 1)
theorem QN:0<a→¬0=a:=R 1296034132797 [a]
theorem QO:0<a→¬0≥a:=R 1295926264125 [a]
theorem QS:1<a→0+a-1-(a-1)<a-1:=R 6705589170862000327018848914927344524545836936356096229573458156828101868643541509818904975533173139329313708720333 [a,0+a-1,a-1,0+a-1-(a-1)] (by kernel_rfl!) (aP (0+a) 1) (aP a 1) (aP (0+a-1) (a-1))
theorem QT:1<a→0<a-1:=R 620519363477890662151047600758141979976493325 [a,a-1] (by kernel_rfl!) (aP a 1)
theorem QU:1<a→0≤a-1∧a-1<a:=R 1042444366635521498973518566746164449464089035368717 [a,a-1] (by kernel_rfl!) (aP a 1)
theorem QV:1≤a+1:=R 26761743693 [a]
theorem QW:1≤a→a=0→False:=R 1671303549065229 [a]
theorem QX:1≤a→max a 1=a:=R 478817511985435302579709514478442969877653 [a,max a 1] (by kernel_rfl!) (nT a 1)
theorem QY:1≤a→¬1=a→1+1≤a:=R 4714188211652765892286889997 [a]
theorem QZ:1≤a→¬a>1→a=1:=R 101053517538436691394573 [a]
theorem Q6:2≤3*(a+1)+2:=R 58258174485683488113 [a]
theorem Q7:2≤a→a=a-1+1:=R 28952623168319586310774727703761944065412653082893 [a,a-1] (by kernel_rfl!) (aP a 1)
theorem Q8:224<a→224=a∨224=a+2→False:=R 7919316311704023372056337527877969 [a]
theorem Q9:224=54∨224=231∨224=a+1∨224=a+2∨224=a→236≤a→False:=R 6400982216434371638421817516969525948973450208797470598648606598431117649 [a]
theorem Ra:224=a→236≤a→False:=R 77976115174044652113 [a]
theorem Rb:224=a∨224=a+3→236≤a→False:=R 7919250878248132780245615416824401 [a]
theorem Rc:231=a∨231=a+3→236≤a→False:=R 7919250878248132780246163965982145 [a]
theorem Rd:234<a→a=a-235+235:=R 1750655085889537044272472121083031722057949666031251045377 [a,a-235] (by kernel_rfl!) (aP a 235)
theorem Rf:236≤a→54=a∨54=a+3→False:=R 7919316311925124274226804789255441 [a]
theorem Rg:236≤a→a+3=54∨a+3=231∨a+3=a+1∨a+3=a+2→False:=R 4939071050494718100693044260068809331639546488981022877755588438973713 [a]
theorem Rh:236≤a→a=224→False:=R 77976371996867927313 [a]
theorem Ri:236≤a→a=54∨a=231∨a=a+1∨a=a+2→False:=R 1042354065205775002277580644473602532712517208169745 [a]
theorem Rj:236≤a→¬231=a:=R 2176841122748206353 [a]
theorem Rk:236≤a→¬54=a:=R 2176841020439436561 [a]
theorem Rl:236≤a→¬a+1=224:=R 101565223292965372321041 [a]
theorem Rm:236≤a→¬a+2=224:=R 101565223293043736485137 [a]
theorem Rn:3*a+6≤3*(a+1)+3:=R 3522870105809767980814634517 [a]
theorem Ro:3*a+6≤3*(a+1)+4:=R 3523091179729488714172534293 [a]
theorem Rp:350+5*a≤350+5*(a+1):=R 5912626331389163908279704895042317 [a]
theorem Rq:∀{a:Nat},Int.toNat ((↑a:Int)-0-1+1)=a:=λ{a}=>congrArg Int.toNat (show(a:Int)-0-1+1=a by rw[Int.sub_add_cancel,Int.sub_zero])
theorem Rt:∀{a:Nat},Int.toNat (-1+(↑(a+1):Int))=a:=λ{a}=>congrArg Int.toNat (show(-1:Int)+((a+1:Nat):Int)=(a:Int)from(Int.add_comm _ _).trans (Int.add_sub_cancel (a:Int) 1))
theorem Ru:∀{a:Nat},Int.toNat (↑a:Int)=a:=rfl
theorem Rv:∀{a:Nat},Max.max 0 (Min.min (-1+(↑a:Int)) (↑a:Int))=(↑a:Int)-1→¬(↑a:Int)-1<Max.max 0 (Min.min 0 (↑a:Int)):=λ{a} h=>Int.not_lt.mpr (by rw[Int.min_eq_left (Int.natCast_nonneg a),←h];exact Int.le_max_left ..)
theorem Rw:a+1-(0+1)=a:=R 2259781318576668033292015193508765646459960028272592421895965 [a,a+1-(0+1)] (by kernel_rfl!) (aP (a+1) (0+1))
theorem Rx:a+1=a∨a+1=a+3→False:=R 4707635835713678251912229653 [a]
theorem Ry:a+1≤900→a+1≤1000:=R 168699440226781816332936458005 [a]
theorem Rz:a+10≤1000→a≤1000:=R 3615814475802139858975909 [a]
theorem RA:a+2=a→False:=R 1287327062053 [a]
theorem RB:a+2=a∨a+2=a+3→False:=R 4707635835713681073022138405 [a]
theorem RC:a-0≤a-0:=R 218357093109320683776297892989549 [a,a-0] (by kernel_rfl!) (aP a 0)
theorem RD:a<1000→a+1<4096:=R 130338866760028359921297973 [a]
theorem RE:∀{a:Nat},a<1000000→0≤(↑a:Int)∧(↑a:Int)<1000000:=λ{a} h=>⟨Int.natCast_nonneg a,Int.ofNat_lt.mpr h⟩
theorem RG:a<4→4=a+(4-a):=R 28952603050379224043631112408262827524339454036933 [a,4-a] (by kernel_rfl!) (aP 4 a)
theorem RH:∀{a:Nat},a<6→(↑a:Int)=0∨(↑a:Int)=1∨(↑a:Int)=2∨(↑a:Int)=3∨(↑a:Int)=4∨(↑a:Int)=5:=λ{a} h=>match a,h with|0,_=>.inl rfl|1,_=>.inr (.inl rfl)|2,_=>.inr (.inr (.inl rfl))|3,_=>.inr (.inr (.inr (.inl rfl)))|4,_=>.inr (.inr (.inr (.inr (.inl rfl))))|5,_=>.inr (.inr (.inr (.inr (.inr rfl))))|_+6,h=>absurd h (Nat.not_lt.mpr (Nat.le_add_left 6 _))
theorem RJ:a<64→a≤16777216:=R 3614383131942201808738501 [a]
theorem RM:a=13∨a=10→a<1114112:=R 168919171208678802739652027605 [a]
theorem RN:a=235+1→236≤a:=R 2786420325255703428133 [a]
theorem RP:a=46∨a=46→a<1114112:=R 218919245886447728362908799018789 [a]
theorem RQ:a=6→2≤a:=R 46081651330405 [a]
theorem RT:a=6→a<64:=R 1663253808111973 [a]
theorem RU:a=6→a≤1000:=R 59798960592572773 [a]
theorem RV:a≤1000→a+1≤1001:=R 3615985058468187651327541 [a]
theorem RW:a≤1000→a+1≤16777216:=R 6070775738540234168882771936821 [a]
theorem RX:a≤1000→a+1≤16777216+1:=R 283104695772560473147651635298846261 [a]
theorem RY:a≤1000→a≤16777215:=R 3617014964317663446451765 [a]
theorem RZ:∀{a:Nat},a≤10000→(↑a:Int)≤1114111:=λ{a} h=>Int.ofNat_le.mpr (Nat.le_trans h (by decide))
theorem R1:a≤10000→a+1≤16777216+1:=R 10191769047812177033315458870253104741 [a]
theorem R2:∀{a:Nat},a≤10000→a<4*2^64:=λ{a} h=>Nat.lt_of_le_of_lt h (by decide)
theorem R3:a≤111→350+5*a≤350+5*111:=R 475501393129652438824629505884524582752165 [a]
theorem R4:a≤111→50+10*a≤50+10*111:=R 366899223095297514338593324725435477925 [a]
theorem R5:a≤3→1+3*a≤10:=R 100445429888464501566901 [a]
theorem R6:a≤3→3*a≤10:=R 2152894217035265461 [a]
theorem R7:a≤3→a+0+0+0≤5:=R 100421737802947308766645 [a]
theorem R8:a≤3→a+1+0+0≤5:=R 3615182560906129701746101 [a]
theorem R9:a≤3→a+1+1+0≤5:=R 130146572193835732213314997 [a]
theorem Sa:a≤4→4=a+(4-a):=R 28952603050378600369805908115006158435141570907077 [a,4-a] (by kernel_rfl!) (aP 4 a)
theorem Sb:a≤40→a≤50:=R 59781140987764645 [a]
theorem Sd:a≤40→a≤900:=R 2152339414843252645 [a]
theorem Se:a≤5→a≤1000:=R 59798960592478165 [a]
theorem Sf:a≤50→2+a≤100:=R 2789423150322294656821 [a]
theorem Sg:a≤50→2+a≤52:=R 2789412181846974467893 [a]
theorem Sh:a≤800→a≤900:=R 77484218934343676725 [a]
theorem Si:a≤899→a≤900:=R 77484218934348995509 [a]
theorem Sj:a≤900→0+2*a≤9000:=R 168696789551128753097090596021 [a]
theorem Sl:a≤900→0+a≤900:=R 100419547763412841725109 [a]
theorem Sn:a≤900→a+1≤1000:=R 3615814476740008066120885 [a]
theorem Sp:a≤900→a≤10000:=R 2788880245228666911925 [a]
theorem Sq:a≤900→a≤2000:=R 77470113384813395125 [a]
theorem Ss:a≤a+1+1:=R 34683234942709 [a]
theorem CE:a≤a+2:=R 743428405 [a]
theorem Su:a≤a+3:=R 743475061 [a]
theorem Sv:min 40 a≤900:=R 17129739996875053544247896787815649773562657 [a,min 40 a] (by kernel_rfl!) (iP 40 a)
theorem Sw:∀{a:Nat},¬(↑(a+1):Int)=0:=by omega
theorem Sx:∀{a:Nat},¬(↑63:Int)<(↑a:Int)→a≤900:=λ{a} h=>Nat.le_trans (Nat.not_lt.mp λg=>h (Int.ofNat_lt.mpr g)) (by decide)
theorem Sy:∀{a:Nat},¬0<(↑a:Int)→0=(↑a:Int):=λ{a} h=>congrArg Int.ofNat (Nat.eq_zero_of_not_pos λg=>h (Int.ofNat_lt.mpr g)).symm
theorem Sz:∀{a:Nat},¬0<(↑a:Int)→Int.toNat 0=a:=λ{a} h=>(Nat.eq_zero_of_not_pos λg=>h (Int.ofNat_lt.mpr g)).symm
theorem SA:¬a+1<a:=R 42147098389 [a]
theorem SD:¬a+1=a:=R 42207564565 [a]
theorem SE:¬a+2=a:=R 42207565861 [a]
theorem SG:¬a<4*0:=R 42163851781 [a]
theorem SH:¬a=0→0<a:=R 1282201283557 [a]
theorem SJ:∀{a:Nat},¬a=46→¬(↑a:Int)=46:=λ{a} h g=>h (Int.ofNat_inj.mp g)
theorem SM:∀{a b:Int},Int.toNat a<Int.toNat b→a<b:=λ{a b} h=>Int.lt_of_not_ge λg=>Nat.not_le.mpr h (Int.toNat_le_toNat g)
theorem SN:∀{a b:Int},a<b→b<a→False:=λ{a b} h g=>absurd (Int.lt_trans h g) (Int.lt_irrefl _)
theorem SQ:∀{a b:Nat},(a+1)*b≤1001*10→a≤1000→a+(a+1)*b≤16777216:=λ{a b} h g=>Nat.le_trans (Nat.add_le_add g h) (by decide)
theorem SR:∀{a b:Nat},(↑(a+1-b):Int)+(↑(min b (a+1)):Int)=(↑a:Int)+1:=by omega
theorem SW:0<a→a≤b→b≤a-1→False:=R 37526403741621834761194655503062183907263780670212621 [a,b,a-1] (by kernel_rfl!) (aP a 1)
theorem SX:0<a→b=0→b<a:=R 60160252355981181 [a,b]
theorem SY:0<a→b≤a-1→b+1≤a:=R 1350942810627911720855011098923312559765585622014167565 [a,b,a-1] (by kernel_rfl!) (aP a 1)
theorem S0:1<a→a≤b→0<b:=R 2165772449695871565 [a,b]
theorem S3:1<a→a≤b→a-1<b:=R 1042395531716065008644736643716874017983794732665357 [a,b,a-1] (by kernel_rfl!) (aP a 1)
theorem S4:1≤a→a≤b→1≤b:=R 77964185670646332429 [a,b]
theorem S6:1≤a→a≤b→b-1<b:=R 1042395531716064384970911439423617480519121801711389 [a,b,b-1] (by kernel_rfl!) (aP b 1)
theorem S7:2≤a→b=a→2≤b:=R 77964188496051018033 [a,b]
theorem S8:2≤a→b=a→¬b<2:=R 2807672354615424637233 [a,b]
theorem S9:3*(a-b)+5≤3*(a-b)+6:=R 1035082400960849497888596297654225865282159543818662 [a,b,a-b] (by kernel_rfl!) (aP a b)
theorem Tc:4+a≤b→a≤b-4:=R 804156197850767342589948948944480920365252951945 [a,b,b-4] (by kernel_rfl!) (aP b 4)
theorem Td:∀{a b:Nat},Int.toNat ((↑a:Int)+(↑b:Int)*1)=a+b:=λ{a b}=>congrArg Int.toNat (show(a:Int)+b*1=((a+b:Nat):Int) by rw[Int.mul_one];rfl)
theorem Te:Min.min a b≤b+(a-1):=R 105845384492166372047586215438822067752248914843770275222746204361 [a,b,min a b,a-1] (by kernel_rfl!) (iP a b) (aP a 1)
theorem Tf:a+(b+1)=6→a<6:=R 2794361821110468993817 [a,b]
theorem Tg:a+(b+1)≤1000→b≤999:=R 4685874486851474227684123417 [a,b]
theorem Th:a+0=b→b≤a:=R 46080449824357 [a,b]
theorem Ti:a+1+b≤1000→a+b≤1000:=R 6073179848073105039417860850709 [a,b]
theorem Tj:a+1+b≤1000→a≤1000:=R 4686095560639573257185821717 [a,b]
theorem Tn:a+1-(b+1+1)=a-(b+1):=R 241374717248385594979315825413419261472403301468882345173338720090539439801365892709600109490747508676396899091056406 [a,b,a+1-(b+1+1),a-(b+1)] (by kernel_rfl!) (aP (a+1) (b+1+1)) (aP a (b+1))
theorem To:a+1-b=0→b<a+1→False:=R 2269075010496930370718665538323665352968605938400029095414518 [a,b,a+1-b] (by kernel_rfl!) (aP (a+1) b)
theorem Tq:a+1-b=0→b=0→False:=R 48634154001873625858806443979763196268537738157997083382 [a,b,a+1-b] (by kernel_rfl!) (aP (a+1) b)
theorem Tr:a+1<b+1→a<b:=R 77532634944263053333 [a,b]
theorem Tt:a+1<b→a<b:=R 1661793430515733 [a,b]
theorem Tu:a+1<b→b=b-1+1:=R 37522599627219637973144280627719278501271559218007837 [a,b,b-1] (by kernel_rfl!) (aP b 1)
theorem Tv:a+1<b→b≤a+1→False:=R 101057076982648218222613 [a,b]
theorem Tw:a+1<b→b≤a→False:=R 2166003132693839893 [a,b]
theorem Tz:a+1<b→¬1=b:=R 2176843419479044117 [a,b]
theorem TA:a+1≤b→a+1+1≤b+1:=R 168553223198584250013587000341 [a,b]
theorem TF:a+1≤b→b-1<b:=R 804192919686104281822191630771832884376986324765 [a,b,b-1] (by kernel_rfl!) (aP b 1)
theorem TG:a+1≤b→b-a=b-(a+1)+1:=R 842550148344706595713469862021061141766202601125884719663258247914212197019060981678278857 [a,b,b-a,b-(a+1)] (by kernel_rfl!) (aP b a) (aP b (a+1))
theorem TH:a+2*(b+1)≤9000→a+2+2*b≤9000:=R 799349719443838099573920573201959308683733719589 [a,b]
theorem TJ:a+2*(b+1)≤9000→a+2≤10000:=R 13214778108900899373936489348714814069285 [a,b]
theorem TN:a+2=b→b<a→False:=R 2166005953864214821 [a,b]
theorem TP:a+236<b→236≤b+3:=R 3612690017412110217320293 [a,b]
theorem TQ:a+7<b→b≤a+7→False:=R 101057077592007958240885 [a,b]
theorem TR:a+8<b→b≤a+7→False:=R 101057077592007958242181 [a,b]
theorem TS:a+b≤1000→a+b≤16777216:=R 218547926587448428128468911757865 [a,b]
theorem TU:a+b≤10000→a+b≤16777216:=R 7867725357148143412624225875463465 [a,b]
theorem TV:∀{a b:Nat},a-(b+1)≤a-(b+1)+a-1-(a-1):=λ{a b}=>(Nat.eq_zero_or_pos a).elim (λh=>by rw[h,Nat.zero_sub];exact Nat.zero_le _) λh=>by rw[Nat.add_sub_assoc h,Nat.add_sub_cancel];exact Nat.le_refl _
theorem TY:∀{a b:Nat},a-b=max b a-b:=λ{a b}=>(Nat.le_total b a).elim (λh=>by rw[Nat.max_eq_right h]) λh=>by rw[Nat.max_eq_left h,Nat.sub_self,Nat.sub_eq_zero_of_le h]
theorem TZ:a-b≤a:=R 218347065196326864099412788615590 [a,b,a-b] (by kernel_rfl!) (aP a b)
theorem Ua:a<6→b≤a→b≤1000:=R 101045055736916611034149 [a,b]
theorem Ub:a<900→b<900→a≤899∧b≤899:=R 478892100969598016302781212199780671500469 [a,b]
theorem Uc:a<b+1→b≤a→a=b:=R 2806971903953866202905 [a,b]
theorem Ud:a<b+1→b≤a→a=b+1-1:=R 137202059339693905972856848632728502604157843140563157640622691029597 [a,b,b+1-1] (by kernel_rfl!) (aP (b+1) 1)
theorem Ue:a<b→0+a≤b:=R 46083088831321 [a,b]
theorem Ug:a<b→a=b+1∨a=b∨a=b+3∨a=b+2∨a=b+5→False:=R 1750754565785152566581652035859386690432959971481969806937 [a,b]
theorem Uh:a<b→a=b+2→False:=R 2166009523484483161 [a,b]
theorem Ui:a<b→a=b+3∨a=b+4∨a=b+2→False:=R 13301412360268654251575021089191971712601 [a,b]
theorem Uj:a<b→a=b+4→False:=R 2166009527838047833 [a,b]
theorem Uk:a<b→a=b∨a=b+1∨a=b+2→False:=R 285095429532507164170970634955899481 [a,b]
theorem Ul:a<b→a=b∨a=b+2→False:=R 3638083689275261219881561 [a,b]
theorem Um:a<b→b-a=b-a-1+1:=R 8296086134573260218425040713504664009034903269391483057986240651236673390793 [a,b,b-a,b-a-1] (by kernel_rfl!) (aP b a) (aP (b-a) 1)
theorem Un:a<b→b=a→False:=R 46425085196185 [a,b]
theorem Uo:∀{a b:Nat},a<b→b≤10000→(↑a:Int)<9223372036854775808:=λ{a b} h g=>Int.ofNat_lt.mpr (Nat.lt_of_lt_of_le h (Nat.le_trans g (by decide)))
theorem Up:a<b→¬(a=b∨a=b+1)∧¬b=b+1:=R 285628563514653997020773676071633497 [a,b]
theorem Uq:a<b→¬b=a:=R 1296033806233 [a,b]
theorem Ur:a=54∨a=231∨a=b+1∨a=b+2→a=54∨a=231∨a=b+1∨a=b+2∨a=b:=R 18121528798771854282078082804347647966234709851954007683032372068679988043804067461685 [a,b]
theorem Us:a=54∨a=231∨a=b+1∨a=b+2→a=b∨a=b+1∨a=b+2∨a=b+3∨a=54∨a=231∨a=224:=R 3091201713540538450892044568421880139229527261248060593517101927405238998934617351138032530044015697164853 [a,b]
theorem Ut:a=54∨a=231∨a=b+1∨a=b+2∨a=b→a=b∨a=b+3∨a=54∨a=231∨a=b+1∨a=b+2∨a=224:=R 5192031857290105030701545571577437638540752335723003725562988753394788505141153016001292973597412532062409423413 [a,b]
theorem Uu:a=b+0→a-b=0:=R 478822519778544022429315968425070698404262 [a,b,a-b] (by kernel_rfl!) (aP a b)
theorem Uv:a=b+0→a≤b:=R 46082566512217 [a,b]
theorem Uw:a=b+1→a=b+2→False:=R 101057340327692121207577 [a,b]
theorem Ux:a=b+1→a=b→False:=R 2166008851175437081 [a,b]
theorem Uy:a=b+1→b≤a:=R 1658896207627033 [a,b]
theorem Uz:a=b+1∨a=b∨a=b+3→b≤a:=R 218346778905865780230145348596505 [a,b]
theorem UA:a=b+2∨a=b+5→b≤a:=R 129998034074156115073804633 [a,b]
theorem UB:a=b+235→236≤a+1:=R 3612680536993277829867865 [a,b]
theorem UC:a=b+235→a+4=b+3+236:=R 219190967995041303866956907506009 [a,b]
theorem UD:a=b+3∨a=b+4→a=b→False:=R 169737473066341731554346819481 [a,b]
theorem UE:a=b+3∨a=b+4∨a=b+2→b≤a:=R 10187187316631852768529511021602824089 [a,b]
theorem UG:a=b→0+a≤b:=R 46083088832617 [a,b]
theorem UH:a=b→a<b+1:=R 1662463637181289 [a,b]
theorem UI:a=b→a=54∨a=231∨a=b+1∨a=b+2∨a=b:=R 1046019586507565883957894612270842777490609678615145 [a,b]
theorem UJ:a=b→a=b∨a=224:=R 78236606125641992041 [a,b]
theorem UK:∀{a b:Nat},a=b→b≤1000→¬(↑a:Int)≥2^63:=λ{a b} h g q=>absurd (Int.ofNat_le.mp q) (Nat.not_le.mpr (Nat.lt_of_le_of_lt (h▸g) (by decide)))
theorem UL:a=b→b≤10000→a<1114112:=R 219961002785012181390951092610217 [a,b]
theorem UM:a=b→b≤6→a≤900:=R 101044507313073760306345 [a,b]
theorem UN:a=b→b≤a:=R 35555902633 [a,b]
theorem UO:a=b∨a=224→a=b∨a=b+1∨a=b+2∨a=b+3∨a=54∨a=231∨a=224:=R 388407254792804808376203731018887586391061401741401248066509877231093754606923369 [a,b]
theorem UP:a=b∨a=224→a=b∨a=b+3∨a=54∨a=231∨a=b+1∨a=b+2∨a=224:=R 388407254792804808373813847247907543441472257715827201173756918632254964437364329 [a,b]
theorem UQ:a=b∨a=224→¬a=224→¬a=b→False:=R 285107693315344277282929749227482729 [a,b]
theorem UR:a=b∨a=b+1∨a=b+2∨a=b+3∨a=54∨a=231∨a=224→(a=54∨a=231∨a=224)∨b≤a:=R 1839864073881727297349829725539737047623998116091400886786884907241571879771192301293197169907520361 [a,b]
theorem UT:a=b∨a=b+3→a=b∨a=b+1∨a=b+2∨a=b+3∨a=54∨a=231∨a=224:=R 13982661172540973101543334316679953110078210462690444930394355580319374358264083305 [a,b]
theorem UU:a=b∨a=b+3→a=b∨a=b+3∨a=54∨a=231∨a=b+1∨a=b+2∨a=224:=R 13982661172540973101457298500924671563893001277769779242255249070761177912159957865 [a,b]
theorem UW:a=b∨a=b+3∨a=b+4→b≤a:=R 218346778905870518612158156043113 [a,b]
theorem UX:a=min 40 b→a≤40:=R 804182994780025269668385063550648405900914230625 [a,b,min 40 b] (by kernel_rfl!) (iP 40 b)
theorem UY:a≤1000→b≤a→b≤16777216:=R 219950688360039978415809928517173 [a,b]
theorem UZ:a≤1000→min b a≤16777216:=R 1042210237076207116814404436721466050917804571027878 [a,b,min b a] (by kernel_rfl!) (iP b a)
theorem U0:a≤121→b≤350+5*a→b<1000:=R 10262612712002385688897292324441281333 [a,b]
theorem U1:a≤2000→3*(a-b)+6≤10000:=R 63018470350651898562002866922486892429752824137726044117414 [a,b,a-b] (by kernel_rfl!) (aP a b)
theorem U3:a≤50+10*b→a+1≤50+10*(b+1):=R 475500957608349436254605620625677444898869 [a,b]
theorem U4:a≤6→b≤a-1→b≤5:=R 37526221709034240744714448655063290367697979269777933 [a,b,a-1] (by kernel_rfl!) (aP a 1)
theorem U5:a≤6→b≤a→0+b≤1000:=R 130954392235828844369933797 [a,b]
theorem U6:a≤6→b≤a→b≤6:=R 77966588707679581669 [a,b]
theorem U7:a≤6→b≤a→b≤900:=R 101044507313150601541093 [a,b]
theorem U8:a≤899→b≤900→a≤900∧b≤900:=R 478892118293870946602921542443622037121973 [a,b]
theorem U9:a≤b+1→¬b+1<a:=R 2821052710163000752921 [a,b]
theorem Va:a≤b→350+5*a≤350+5*b:=R 283100911726799011307314880836025929 [a,b]
theorem Vb:a≤b→50+10*a≤50+10*b:=R 218442062620903395086569218917449 [a,b]
theorem Vc:a≤b→a+(b-a)≤b:=R 478773365403542009298919250622106272336073 [a,b,b-a] (by kernel_rfl!) (aP b a)
theorem Vd:a≤b→a-b=0:=R 369461819989462566585761265144594930086 [a,b,a-b] (by kernel_rfl!) (aP a b)
theorem Ve:a≤b→b+1-a=b-a+1:=R 18058773755673580936703568003219979017092402353511704602502342881821548034145037093657 [a,b,b+1-a,b-a] (by kernel_rfl!) (aP (b+1) a) (aP b a)
theorem Vf:a≤b→b-(b-a)=a:=R 3811168050728182769346650312698822295523712457086975893611990026441 [a,b,b-a,b-(b-a)] (by kernel_rfl!) (aP b a) (aP b (b-a))
theorem Vg:∀{a b:Nat},a≤b→b≤a→(↑a:Int)=(↑b:Int):=λ{a b} h g=>congrArg Int.ofNat (Nat.le_antisymm h g)
theorem Vh:a≤b→b≤a→a=b:=R 60163149518899849 [a,b]
theorem Vi:∀{a b:Nat},a≤b→min (↑a:Int) (↑b:Int)=(↑a:Int):=λ{a b} h=>Int.min_eq_left (Int.ofNat_le.mpr h)
theorem Vj:a≤b→¬a<b→a=b:=R 2165873398642964809 [a,b]
theorem Vk:a≤b→¬a=b→a+1≤b:=R 101041545621631896034633 [a,b]
theorem Vl:a≤b→¬b<a:=R 1295973338761 [a,b]
theorem Vm:a≤b→¬b<a+0:=R 1679601442877065 [a,b]
theorem Vn:a≤max a b:=R 168493148935925363927166757321 [a,b,max a b] (by kernel_rfl!) (nT a b)
theorem Vo:¬a<b→b≤a:=R 1280012742361 [a,b]
theorem Vp:¬a≤b→b<a:=R 1282189523401 [a,b]
theorem Vq:¬a≥b→(a+b)/2+1≤b:=R 22337650545250088346406625599567291743379066153 [a,b,(a+b)/2,(a+b)%2] (by kernel_rfl!) (pR (a+b))
theorem Vr:¬a≥b→a≤(a+b)/2:=R 478773841001550232111684445057810429578537 [a,b,(a+b)/2,(a+b)%2] (by kernel_rfl!) (pR (a+b))
theorem Vs:(a+b)/2≤c→¬c=(a+b)/2→(a+b)/2<c:=R 804317569975475605523362829163074313325600043305 [a,b,c,(a+b)/2,(a+b)%2] (by kernel_rfl!) (pR (a+b))
theorem Vt:0<a→b≤c→b+1≤a+c:=R 3637532555111532132409725 [a,b,c]
theorem Vu:236≤a→a+3<b→b≤c→(¬54=231∧¬54=a∧¬54=a+1∧¬54=a+2∧¬54=a+3∧¬54=c)∧(¬231=a∧¬231=a+1∧¬231=a+2∧¬231=a+3∧¬231=c)∧(¬a=a+1∧¬a=a+2∧¬a=a+3∧¬a=c)∧(¬a+1=a+2∧¬a+1=a+3∧¬a+1=c)∧(¬a+2=a+3∧¬a+2=c)∧¬a+3=c:=R 2313397025126888562902235083415896853070218118985962772778687678226275058237618044104221024308609719626441714616265110972139398953174977623906147016724265734938131195251158219236626589168060497937644292943129024444551287418910527485580536107456385240261325777545632843594589326269464883601157919362737319763217 [a,b,c]
theorem Vv:236≤a→a+3<b→b≤c→c=224→False:=R 10263888846987330257171591704246017297 [a,b,c]
theorem Vw:236≤a→a+3<b→b≤c→c=54∨c=231∨c=a+1∨c=a+2→False:=R 137202478651567602557383544065697785901860382727187817907840805297425 [a,b,c]
theorem Vx:236≤a→a+3<b→b≤c→c=a∨c=a+3∨c=54∨c=231∨c=a+1∨c=a+2∨c=224→False:=R 39310129117172938396781396050375828861811042030710437455218151885017221696500140952969201900817 [a,b,c]
theorem Vy:236≤a→a+3<b→b≤c→c=c-236+236:=R 230447468286110964040916041229837445363035748786514818628201130996866020753 [a,b,c,c-236] (by kernel_rfl!) (aP c 236)
theorem Vz:236≤a→a+3<b→b≤c→¬c=224:=R 285109128995809133103283186876603665 [a,b,c]
theorem VA:4+a≤b→b<4*(c+1)→b-4<4*c:=R 137201920681224987785651011161344670624515650301421899309703193747593 [a,b,c,b-4] (by kernel_rfl!) (aP b 4)
theorem VB:∀{a b c:Nat},a*b≤(c+1)*b→c+(c+1)*b≤16777216→¬c+a*b>16777216:=λ{a b c} h g=>Nat.not_lt.mpr (Nat.le_trans (Nat.add_le_add_left h c) g)
theorem VC:a+(b+1)≤100→c≤a→c+1≤10000:=R 369432711364664129807126239100024906521 [a,b,c]
theorem VD:a+(b+1)≤1000→c≤a+1→c+b≤1000:=R 478790006436341366578935971295620442563353 [a,b,c]
theorem VE:a+(b+1)≤6→c≤a→c≤900:=R 6109774963034989870188440838937 [a,b,c]
theorem VF:a+(b+1)≤900→c+1≤a→c≤1000:=R 369436733359448062649639189671980639001 [a,b,c]
theorem VG:a+(b+1)≤900→c+1≤a→c≤999:=R 369436252129644664275212747473525482265 [a,b,c]
theorem VH:a+(b+1)≤900→c=a+1→c+b≤900:=R 478787407795403031274355402893597878854425 [a,b,c]
theorem VI:a+(b+c)≤900→a+b+c≤900:=R 218591497760849880851195145792505 [a,b,c]
theorem VJ:a+(b+c)≤900→a+b≤900:=R 168666279136294796003298028537 [a,b,c]
theorem VK:a+(b+c)≤900→b≤900:=R 130143733873294502006402041 [a,b,c]
theorem VL:a+0=b→c=b→c≤a:=R 77964033700846172773 [a,b,c]
theorem VM:a+1<b→b=a+c→b=a+1+(c-1):=R 105865813652064678316240363885420698083687687373359805533268522285 [a,b,c,c-1] (by kernel_rfl!) (aP c 1)
theorem VN:a+1<b→b=a+c→b=a+2+(c-2):=R 105865813652146767327755577253327884407570755748987959529552725329 [a,b,c,c-2] (by kernel_rfl!) (aP c 2)
theorem VO:a+1<b→b=a+c→c-1<c:=R 1750824278607220363550272554685267795740881368871248114989 [a,b,c,c-1] (by kernel_rfl!) (aP c 1)
theorem VP:a+1<b→b=a+c→c-2<c:=R 1750824278607220363550272554685267795911463097053003105617 [a,b,c,c-2] (by kernel_rfl!) (aP c 2)
theorem VQ:a+1<b→b≤c→c=a∨c=a+1→False:=R 285107683068946535867788289568538645 [a,b,c]
theorem VR:a+1<b→b≤c→¬a+1=c:=R 4715814316680060546887581717 [a,b,c]
theorem VS:a+1<b→c=a+2→a<c∧c≤b:=R 219999821329498722443637971587093 [a,b,c]
theorem VU:a+1≤b→c≤a→c≤b:=R 2806708863668197387285 [a,b,c]
theorem VW:a+1≤b→¬(a-(a-c)<b∧b≤a):=R 10751800267959739265750920581588027373982070696044777189765173919836894117884135 [a,b,c,a-c,a-(a-c)] (by kernel_rfl!) (aP a c) (aP a (a-c))
theorem VX:a+1≤b→¬b=a-(a-c):=R 6401343536737418847255408371290024005148398610804903547223933206583963879 [a,b,c,a-c,a-(a-c)] (by kernel_rfl!) (aP a c) (aP a (a-c))
theorem VY:a+3<b→a=c→b≤c→False:=R 3638239765005893788564021 [a,b,c]
theorem VZ:a+3<b→b≤c→(¬a+1=a+2∧¬a+1=c)∧¬a+2=c:=R 1750920743925378887232354382173898017272079909039626914357 [a,b,c]
theorem V0:a+3<b→b≤c→(¬a+3=c∧¬a+3=a+1∧¬a+3=a+2∧¬a+3=a)∧(¬c=a+1∧¬c=a+2∧¬c=a)∧(¬a+1=a+2∧¬a+1=a)∧¬a+2=a:=R 116175073596939979519963407801718652831265040710275258156966797878978187489069185028509409719855876961899946815045642541683009328125285800884294257205 [a,b,c]
theorem V1:a+3<b→b≤c→(¬a=a+1∧¬a=a+2∧¬a=a+3∧¬a=c)∧(¬a+1=a+2∧¬a+1=a+3∧¬a+1=c)∧(¬a+2=a+3∧¬a+2=c)∧¬a+3=c:=R 116175073597120205577576853942279320589060142041175126782766017331197939404490078742719669191061525268621385957435773312280387911335574239680018647605 [a,b,c]
theorem V2:a+3<b→b≤c→¬a=c:=R 101076266135721033468469 [a,b,c]
theorem V3:a+3<b→b≤c→¬c=a:=R 101076259026524066679349 [a,b,c]
theorem V4:a+5<b→b≤c→a≤c:=R 2806712316861336130645 [a,b,c]
theorem V5:a+b+c=a+(b+c):=R 52230268350112681 [a,b,c]
theorem V6:∀{a b c:Nat},a-(a-b)<c∧c≤a→c-1<a:=λ{a b c} h=>match c,h with|0,h=>absurd h.1 (Nat.not_lt_zero _)|c+1,h=>h.2
theorem V7:∀{a b c:Nat},a-b≤c-max 0 c→b≤a→b=a:=λ{a b c} h g=>by
 rw[Nat.zero_max,Nat.sub_self]at h;exact Nat.le_antisymm g (Nat.sub_eq_zero_iff_le.mp (Nat.le_zero.mp h))
theorem V8:a<(b+c)/2+1→¬a=(b+c)/2→a<(b+c)/2:=R 37526241789244397985866175402522690236002073974141262 [a,b,c,(b+c)/2,(b+c)%2] (by kernel_rfl!) (pR (b+c))
theorem V9:a<64→a=b→c=b→c<64:=R 169745325069790669261511272645 [a,b,c]
theorem Wa:a<b+1→c≤b→¬(c<a∧a≤b)→¬a=c→a<b:=R 17239390465040521113375914876958690337582873 [a,b,c]
theorem Wb:∀{a b c:Nat},a<b+1→¬(b-(b-c)<a∧a≤b)→¬a=b-(b-c)→a<b:=by omega
theorem Wc:a<b-1→b≤c+1→a<c:=R 1350944655271452922428801620738910938415011850138923037 [a,b,c,b-1] (by kernel_rfl!) (aP b 1)
theorem Wd:a<b→a=c+1→b≤c+1→False:=R 169745715759558319796257714009 [a,b,c]
theorem We:a<b→a=c→b=c→False:=R 77980110344849568601 [a,b,c]
theorem Wf:∀{a b c:Nat},a<b→b-(c+1)+b-1-(b-1)<b:=λ{a b c} h=>by
 have:0<b:=Nat.lt_of_le_of_lt (Nat.zero_le _) h;rw[Nat.add_sub_assoc this,Nat.add_sub_cancel];exact Nat.sub_lt this (Nat.succ_pos c)
theorem Wg:a<b→b-(c+1)≤b-1∧b-1<b:=R 30331926561078373368590108002326591052397780991867319503380276359308954115759249982275615767 [a,b,c,b-(c+1),b-1] (by kernel_rfl!) (aP b (c+1)) (aP b 1)
theorem Wh:a<b→b<c→¬a=c:=R 2166415169293170073 [a,b,c]
theorem Wi:a<b→b=c→¬a=c:=R 2166415169353636249 [a,b,c]
theorem Wj:a<b→b≤2000→c≤2*a+(b-a)→c≤10000:=R 4939288705762870337079344943176885709974075622191160951599793763106569 [a,b,c,b-a] (by kernel_rfl!) (aP b a)
theorem Wk:a<b→b≤2000→c≤2*a→c≤10000:=R 369498143077800872549818624552384443289 [a,b,c]
theorem Wl:a<b→b≤c+1→¬a<c→a=b-1:=R 81686809182968303762371074441455441578383732875254881956638749 [a,b,c,b-1] (by kernel_rfl!) (aP b 1)
theorem Wm:a<b→b≤c→¬a=c:=R 2166415169232703897 [a,b,c]
theorem Wn:a<b→c=a+1→a<c∧c≤b:=R 4715359682130888253216692697 [a,b,c]
theorem Wo:a<b→c=b→¬a=c:=R 2166415169352003289 [a,b,c]
theorem Wq:a<b→¬a<c→c+b-1-a<b:=R 23404233840717082974481485983115337009688337834548732482233978785925416816414381299136685 [a,b,c,c+b-1,c+b-1-a] (by kernel_rfl!) (aP (c+b) 1) (aP (c+b-1) a)
theorem Wr:a<b→¬a<c→c≤a∧a<b:=R 3638399547421005741956953 [a,b,c]
theorem Ws:a<b∧b≤c→a≤b-1:=R 28949660987215612154994633775760863195083233800221 [a,b,c,b-1] (by kernel_rfl!) (aP b 1)
theorem Wt:a=b+(c+1)→a-b=c+1:=R 1042294434091078392346708258398003409184112726790118 [a,b,c,a-b] (by kernel_rfl!) (aP a b)
theorem Wu:a=b+1→a≤1000→b+1-c+min c (b+1)≤1000:=R 6705589102405947490441463020908784807714904765030885498452839390653848390027671039320602945939810712835580941048603 [a,b,c,b+1-c,min c (b+1)] (by kernel_rfl!) (aP (b+1) c) (iP c (b+1))
theorem Wv:a=b+1→c=a→b≤c:=R 2806712423909035463449 [a,b,c]
theorem Ww:a=b+3∨a=b+4∨a=b+2→a=c∨a=b∨a=b+3∨a=b+4∨a=b+2:=R 8324915405366790124459473238789958006347084399068245988813932065953132732313 [a,b,c]
theorem Wx:a=b→a=c→¬b=c→False:=R 2807284511299487512681 [a,b,c]
theorem Wy:a=b→b≤c→a≤c:=R 60157585666610857 [a,b,c]
theorem Wz:a=b∨a=c→b≤c→b≤a:=R 101041383819770452867177 [a,b,c]
theorem WB:a=b∨a=c∨a=c+3∨a=c+4→a=b∨a=c∨a=c+3∨a=c+4∨a=c+2:=R 299696954593204623170451364702504572586319780339845133638600496603969391536233 [a,b,c]
theorem WC:a≤1→b≤c→a+b≤c+1:=R 130951258301122782556660885 [a,b,c]
theorem WD:a≤10→b≤50+10*c→b+a≤50+10*(c+1):=R 804163820369220595399976795097694677133865064997 [a,b,c]
theorem WG:a≤1000→min b (a-c)≤16777216:=R 10751703506960565910859598910353519057494828954906286270155149669599754402001127 [a,b,c,a-c,min b (a-c)] (by kernel_rfl!) (aP a c) (iP b (a-c))
theorem WH:a≤2*b→b≤c→c≤2000→a≤10000:=R 369498143077800432089501046646800930853 [a,b,c]
theorem WK:a≤2→b≤9000→b+min a c<9900:=R 63029741825675062289654816914358764323642640012619182604077 [a,b,c,min a c] (by kernel_rfl!) (iP a c)
theorem WL:a≤350+5*b→c≤5→a+c≤350+5*(b+1):=R 1042196311198484326817477281517161405663929448885717 [a,b,c]
theorem WM:a≤b→b≤c→a≤c+1:=R 2806739932703984258185 [a,b,c]
theorem WN:a≤b→¬c≥a→(c+a)/2≤b:=R 804316493343548387672433760618452636981489037575 [a,b,c,(c+a)/2,(c+a)%2] (by kernel_rfl!) (pR (c+a))
theorem WO:a≤max b c→max b c≤a→a=max b c:=R 478870553755158331455350992474060617793838 [a,b,c,max b c] (by kernel_rfl!) (nT b c)
theorem WQ:max a b≤c→max a b-c=0:=R 2940716942581378459215914655757587875282020152201779309565239305 [a,b,c,max a b,max a b-c] (by kernel_rfl!) (nT a b) (aP (max a b) c)
theorem WR:¬a<b→Min.min b c≤a:=R 10261759380153622566336623407603916846 [a,b,c,min b c] (by kernel_rfl!) (iP b c)
theorem WU:236≤a→a+3<b→b≤c→b≤d+7→224=d+7∨224=d+6∨224=a+3∨224=c→False:=R 842552521021824361960002464044118379175135573174756684930588520046073239760789389040475409 [a,b,c,d]
theorem WV:236≤a→a+3<b→b≤c→c≤d→d≤224→False:=R 17239392566591929121916839571174563269106961 [a,b,c,d]
theorem WW:Min.min a b=c+(d+1)→c<a:=R 17236622812708962158917756095924257712764233 [a,b,c,d,min a b] (by kernel_rfl!) (iP a b)
theorem WX:Min.min a b=c+(d+1)→c<b:=R 17236645264966669513474996183135381505439049 [a,b,c,d,min a b] (by kernel_rfl!) (iP a b)
theorem WY:a+(b+1)=c→c≤900→d≤a→d≤1000:=R 13301937172795959506433346912771588326169 [a,b,c,d]
theorem WZ:a+(b+1)=c→d=c→¬a≥d:=R 130994490673858574721909529 [a,b,c,d]
theorem W0:a+1<b→b=a+c→c<d+1→c-1<d:=R 137202466743725957790280323639714583671148892796345204612605285389869 [a,b,c,d,c-1] (by kernel_rfl!) (aP c 1)
theorem W2:a+1<b→b=a+c→c<d+1→c-2<d:=R 137202466743725957790280323639714583671148892796515786340787040380497 [a,b,c,d,c-2] (by kernel_rfl!) (aP c 2)
theorem W3:a+1<b→b≤c→d=a∨d=a+1→d=c→False:=R 478871997806749864091828350784873759899669 [a,b,c,d]
theorem W4:a+1≤b→b<c→c≤d→a≤b∧b<c∧c≤d:=R 13302018199433408112824911128865985551381 [a,b,c,d]
theorem W5:a+3<b→b≤c→c≤d→d≤a→False:=R 6110854398074717374621665331765 [a,b,c,d]
theorem W6:∀{a b c d:Nat},a-b≤c-d→(b+a)/2-b≤c-(d+1):=λ{a b c d} h=>(Nat.lt_or_ge b a).elim (λg=>Nat.le_trans (Nat.sub_le_sub_right (Nat.le_sub_one_of_lt (Nat.div_lt_of_lt_mul (Nat.two_mul a▸Nat.add_lt_add_right g a))) b) (Nat.sub_right_comm a 1 b▸(show a-b-1≤c-d-1 from Nat.sub_le_sub_right h 1))) λg=>(Nat.sub_eq_zero_of_le (Nat.div_le_of_le_mul (Nat.two_mul b▸Nat.add_le_add_left g b))).symm▸Nat.zero_le _
theorem W7:∀{a b c d:Nat},a-b≤c-d→a-((b+a)/2+1)≤c-(d+1):=λ{a b c d} h=>(Nat.le_total a b).elim (λg=>(Nat.sub_eq_zero_of_le (Nat.le_succ_of_le ((Nat.le_div_iff_mul_le Nat.two_pos).mpr (Nat.mul_two a▸Nat.add_le_add_right g a)))).symm▸Nat.zero_le _) λg=>Nat.le_trans (Nat.sub_le_sub_left (Nat.succ_le_succ ((Nat.le_div_iff_mul_le Nat.two_pos).mpr (Nat.mul_two b▸Nat.add_le_add_left g b))) a) (show a-b-1≤c-d-1 from Nat.sub_le_sub_right h 1)
theorem W8:a<64→a=b→c<b→d=c→d<64:=R 285108004643925968904338408664934597 [a,b,c,d]
theorem W9:a<b+1→c<a→c=d→¬(d<a∧a≤b)→False:=R 369500000310837672025709192301690892057 [a,b,c,d]
theorem Xa:a<b+1→c<a→d<c∧c≤b→¬(d<a∧a≤b)→False:=R 620618112522087927337845703646886495320682265 [a,b,c,d]
theorem Xb:a<b→a=b∨a=c∨a=d→b≤c→b≤d→False:=R 369499997574729946600937632253282157145 [a,b,c,d]
theorem Xc:a<b→b<c→d+c-1-b<d+c-1-a:=R 6705589966544299950700184902836619091738205832223893361351689769018338953554850686125462073078522204967848360199165 [a,b,c,d,d+c-1,d+c-1-b,d+c-1-a] (by kernel_rfl!) (aP (d+c) 1) (aP (d+c-1) b) (aP (d+c-1) a)
theorem Xd:a<b→b<c→d≤d+c-1-a:=R 650117585759077031906135383034048576506759980879531635573388505217743387696312808555517 [a,b,c,d,d+c-1,d+c-1-a] (by kernel_rfl!) (aP (d+c) 1) (aP (d+c-1) a)
theorem Xe:a<b→b<c→¬a<d→d+c-1-b<c:=R 39310130324962062164335512003634774102579941385889552615686973887850100882609861930902818046973 [a,b,c,d,d+c-1,d+c-1-b] (by kernel_rfl!) (aP (d+c) 1) (aP (d+c-1) b)
theorem Xf:a<b→b<c→¬a<d→d≤a∧a<c:=R 6110861859355968789193407722905 [a,b,c,d]
theorem Xg:a<b→b<c→¬a<d→d≤b∧b<c:=R 6110861859526682139076828198297 [a,b,c,d]
theorem Xh:a<b→b=c→c<a∧a≤d→False:=R 130976656422734430064343449 [a,b,c,d]
theorem Xi:a<b→b≤a→c≤d:=R 60157668380979097 [a,b,c,d]
theorem Xj:a<b→b≤c→d=a→d=c→False:=R 130976817787594685279551897 [a,b,c,d]
theorem Xk:a<b→c<a∧a≤d→a-1<b-1:=R 23404233934758179178132937345564970388770713299942079117203412255362997143902395282770957 [a,b,c,d,a-1,b-1] (by kernel_rfl!) (aP a 1) (aP b 1)
theorem Xl:a<b→c<b→d=a∨d=c→d=b∨d=b+3∨d=b+4→False:=R 1350950543422196766580673549429219665399736836665408217 [a,b,c,d]
theorem Xm:a<b→c<b→d=a∨d=c∨d=b+1→d=b∨d=b+2→False:=R 1350950543267498848854344596361598725661634940991208153 [a,b,c,d]
theorem Xn:a<b→c<b∧b≤d→¬(c<a∧a≤d)→¬a=c→a<b-1:=R 298659941175908310495863430459328395797434730342264078358442097982468681191709 [a,b,c,d,b-1] (by kernel_rfl!) (aP b 1)
theorem Xo:a<b→c≤a→¬d≥c→(d+c)/2<b:=R 1350950423468240485230253441692484876685840985080255824 [a,b,c,d,(d+c)/2,(d+c)%2] (by kernel_rfl!) (pR (d+c))
theorem Xp:a<b→¬b=c→¬b+2=c→d=b∨d=b+2→d=a∨d=b+1∨d=c→False:=R 137202483201541553672714636763251860327423452130797544671572529199513 [a,b,c,d]
theorem Xq:a=b-c→b≤d→d≤10000→a≤16777216:=R 137202464044388995943418027710498558006857768238830488446385538053963 [a,b,c,d,b-c] (by kernel_rfl!) (aP b c)
theorem Xr:a≤b→b≤c→¬(d≤c∧c<a):=R 3638761111358420336589961 [a,b,c,d]
theorem Xs:a≤b→c≤d→a+c≤b+d:=R 101042574731611355767753 [a,b,c,d]
theorem Xu:a≤b→c≤d→d≤a→224<c→224=c∨224=b∨224=c+2→False:=R 81686816035059304633480951118622208517590413494749196140614601 [a,b,c,d]
theorem Xv:a≤b→c≤d∧d<a→c+a-1-d<b:=R 1091947934101282802413897355770773088664570583850593355375493447811122265172665703595729572461 [a,b,c,d,c+a-1,c+a-1-d] (by kernel_rfl!) (aP (c+a) 1) (aP (c+a-1) d)
theorem Xw:a≤b→max a c-b=d+1→b<c:=R 230447458131528074253400645745736655953094473391533625007679158506434426733 [a,b,c,d,max a c,max a c-b] (by kernel_rfl!) (nT a c) (aP (max a c) b)
theorem Xx:max a b-c=d+1→c+1≤max a b:=R 6401283129347692047236624135159906476193430895233847827444461888767366729 [a,b,c,d,max a b,max a b-c] (by kernel_rfl!) (nT a b) (aP (max a b) c)
theorem Xy:∀{a b c d:Nat},max a b-c=d+1→d=max a b-(c+1):=λ{a b c d} h=>show d=max a b-(c+1) by rw[Nat.sub_add_eq,h];rfl
theorem Xz:236≤a→a+3<b→b≤c→c≤d→d≤e→e=a∨e=224→False:=R 48634221220986267229529081355442124981760427627271740689 [a,b,c,d,e]
theorem XA:a+(b+1)=c→a+1=d→a=e→a≤e∧e<d∧d≤c:=R 804322173580315492710995085110713351339613848345 [a,b,c,d,e]
theorem XC:a+3<b→c<d→b≤e→d≤e→e=a+3∨e=c∨e=a+1∨e=a+2∨e=a→False:=R 8296109496902245597896455303895356889017843190110755800492885967234072074805 [a,b,c,d,e]
theorem XD:a<b+(c+1)→b≤d→d<e→a<e+c:=R 7919634853309536770105610698814649 [a,b,c,d,e]
theorem XE:a<b+1→b≤c→c<a→d<e:=R 4715145265629832432893730585 [a,b,c,d,e]
theorem ahD:a<b→b≤c→d=e→e<a→d=c→False:=R 219990767032197631207483666317721 [a,b,c,d,e]
theorem XF:∀{a b c d e:Nat},a<b→b≤c→d≤2*(c-b)→e≤a→Min.min a c-e+(d+1+1)≤2*(c-e):=by omega
theorem XG:a<b→c≤2*d→d≤a→e≤c+1→e+1≤2*b:=R 804320979737576351457009383759279345722775315929 [a,b,c,d,e]
theorem XH:a≤2000→b≤2*c→d≤a→e<d→c<e→b≤10000:=R 1042400142155486012755466115193468371262169438268469 [a,b,c,d,e]
theorem XI:a≤b→b≤c→c≤d→d≤e→a≤e:=R 169745935886204147262207061129 [a,b,c,d,e]
theorem XJ:a≤b→¬a=b→c=d∨c=e∨c=a→d<a→e<a→c=b→False:=R 37526405262980200873682355776693294062014597483601225 [a,b,c,d,e]
theorem XK:∀{a b c d e:Nat},¬a=b→¬a=c→¬b=d→¬d=c→e=a∨e=d→e=b∨e=c→False:=λ{a b c d e} h1 h2 h3 h4 h h'=>h.elim (λq=>h'.elim (λr=>h1 (q.symm.trans r)) λr=>h2 (q.symm.trans r)) λq=>h'.elim (λr=>h3 (r.symm.trans q)) λr=>h4 (q.symm.trans r)
theorem XM:∀{a b c d e f:Nat},a*b≤a*c→d+a*c=e→e≤f→d+a*b≤f:=λ{a b c d e f} h g q=>Nat.le_trans (Nat.add_le_add_left h d) (g▸q)
theorem XN:a+3<b→b≤c→c≤d→d≤e→e≤f→¬f=a:=R 478872017682975904000319875117116591311413 [a,b,c,d,e,f]
theorem XO:a<b→c≤2*d→d≤a→e≤2→c+(Min.min a f-d+e)≤2*b:=R 1834053446437900942687614730420758964869873605067467907149950002934782812683475580069586770905948761 [a,b,c,d,e,f,min a f,min a f-d] (by kernel_rfl!) (iP a f) (aP (min a f) d)
theorem XQ:a≤2000→b≤2*c→c≤d→e≤a→d<e→f≤b+1→f≤10000:=R 81686816103606641825085523156872268695168438474522575561600053 [a,b,c,d,e,f]
theorem XR:a≤b→b≤c→c≤d→d≤e→e≤f→a≤f:=R 285108033150129246759185560537951369 [a,b,c,d,e,f]
theorem XS:∀{a b c d e f g h i j:Nat},a+8*(6-b)≤c→a=d+e→d=f+g→h=f+i→g=j+1→i=j→h+8*(6-b)<c:=by omega
end
section
variable{a b c d:Nat}
theorem je:a=b→¬a=b→False:=λh g=>g h
theorem ahE:a=b→¬b=a→False:=λh g=>g h.symm
theorem XT:a=b→a=c∨a=b∨a=d:=λh=>.inr (.inl h)
theorem XU:a=b→a=c∨a=d∨a=b:=λh=>.inr (.inr h)
end
section
variable{α:Type}{x a0 a1 a2 a3 a4 a5 a6 a7 a8 a9 iD:α}{l m:List α}{P:α→Prop}
theorem lu{a:α}{l:List α}(h:x∈a::l)(c:P a)(d:x∈l→P x):P x:=(List.mem_cons.mp h).elim (λe=>e▸c) d
theorem cV(h:x∈[a0])(h0:P a0):P x:=lu h h0 λh=>nomatch h
theorem bJ(h:x∈[a0,a1])(h0:P a0)(h1:P a1):P x:=lu h h0 λh=>cV h h1
theorem cB(h:x∈[a0,a1,a2])(h0:P a0)(h1:P a1)(h2:P a2):P x:=lu h h0 λh=>bJ h h1 h2
theorem fX(h:x∈[a0,a1,a2,a3])(h0:P a0)(h1:P a1)(h2:P a2)(h3:P a3):P x:=lu h h0 λh=>cB h h1 h2 h3
theorem jz(h:x∈[a0,a1,a2,a3,a4])(h0:P a0)(h1:P a1)(h2:P a2)(h3:P a3)(h4:P a4):P x:=lu h h0 λh=>fX h h1 h2 h3 h4
theorem nV(h:x∈[a0,a1,a2,a3,a4,a5])(h0:P a0)(h1:P a1)(h2:P a2)(h3:P a3)(h4:P a4)(h5:P a5):P x:=lu h h0 λh=>jz h h1 h2 h3 h4 h5
theorem Jq(h:x∈[a0,a1,a2,a3,a4,a5,a6])(h0:P a0)(h1:P a1)(h2:P a2)(h3:P a3)(h4:P a4)(h5:P a5)(h6:P a6):P x:=lu h h0 λh=>nV h h1 h2 h3 h4 h5 h6
theorem jN(h:x∈[a0]):x=a0:=by simpa using h
theorem b3(h:x∈[a0,a1]):x=a0∨x=a1:=by simpa using h
theorem fB(h:x∈[a0,a1,a2]):x=a0∨x=a1∨x=a2:=by simpa using h
theorem jO(h:x∈[a0,a1,a2,a3]):x=a0∨x=a1∨x=a2∨x=a3:=by simpa using h
theorem pT(h:x∈[a0,a1,a2,a3,a4]):x=a0∨x=a1∨x=a2∨x=a3∨x=a4:=by simpa using h
theorem CF(h:x∈[a0,a1,a2,a3,a4,a5]):x=a0∨x=a1∨x=a2∨x=a3∨x=a4∨x=a5:=by simpa using h
theorem XW(h:x∈[a0,a1,a2,a3,a4,a5,a6]):x=a0∨x=a1∨x=a2∨x=a3∨x=a4∨x=a5∨x=a6:=by simpa using h
theorem aY:x∈x::l:=.head _
theorem in1:x∈a0::x::l:=.tail _ aY
theorem bT:x∈a0::a1::x::l:=.tail _ in1
theorem eW:x∈a0::a1::a2::x::l:=.tail _ bT
theorem in4:x∈a0::a1::a2::a3::x::l:=.tail _ eW
theorem kB:x∈a0::a1::a2::a3::a4::x::l:=.tail _ in4
theorem CG:x∈a0::a1::a2::a3::a4::a5::x::l:=.tail _ kB
theorem inl(h:x∈l):x∈l++m:=List.mem_append_left _ h
theorem inr(h:x∈m):x∈l++m:=List.mem_append_right _ h
theorem CH(h:[a0,a1,a2,a3].Nodup):(¬a0=a1∧¬a0=a2∧¬a0=a3)∧(¬a1=a2∧¬a1=a3)∧¬a2=a3:=by simpa using h
theorem dP(h:[a0,a1,a2,a3,a4].Nodup):(¬a0=a1∧¬a0=a2∧¬a0=a3∧¬a0=a4)∧(¬a1=a2∧¬a1=a3∧¬a1=a4)∧(¬a2=a3∧¬a2=a4)∧¬a3=a4:=by simpa using h
theorem mA(h:x∈l++m):x∈l∨x∈m:=List.mem_append.mp h
theorem sA(h:x∈[a0]):x=a0:=List.mem_singleton.mp h
theorem mD{β:Type}{l:List (Bool×Nat×β)}{p:Bool×Nat×β}(h:p∈l):p.2.1∈l.map (·.2.1):=List.mem_map_of_mem h
end
theorem aS{t0:Sort _}{p0:t0→Prop}{p1:t0→Prop}{P:Prop}(h:∃x0,p0 x0∧p1 x0)(f:∀x0,p0 x0→p1 x0→P):P:=h.elim λy0 g0=>f y0 g0.1 g0.2
theorem fC{t0:Sort _}{p0:t0→Prop}{P:Prop}(h:∃x0,p0 x0)(f:∀x0,p0 x0→P):P:=h.elim λy0 g0=>f y0 g0
theorem dY{p0:Prop}{p1:Prop}{P:Prop}(h:p0∧p1)(f:p0→p1→P):P:=f h.1 h.2
theorem dJ{p0:Prop}{p1:Prop}{p2:Prop}{P:Prop}(h:p0∧p1∧p2)(f:p0→p1→p2→P):P:=f h.1 h.2.1 h.2.2
theorem jP{t0:Sort _}{t1:Sort _}{p0:t0→t1→Prop}{p1:t0→t1→Prop}{P:Prop}(h:∃x0,∃x1,p0 x0 x1∧p1 x0 x1)(f:∀x0,∀x1,p0 x0 x1→p1 x0 x1→P):P:=h.elim λy0 g0=>g0.elim λy1 g1=>f y0 y1 g1.1 g1.2
theorem ie{t0:Sort _}{p0:t0→Prop}{p1:t0→Prop}{p2:t0→Prop}{P:Prop}(h:∃x0,p0 x0∧p1 x0∧p2 x0)(f:∀x0,p0 x0→p1 x0→p2 x0→P):P:=h.elim λy0 g0=>f y0 g0.1 g0.2.1 g0.2.2
theorem kC{p0:Prop}{p1:Prop}{p2:Prop}{p3:Prop}{P:Prop}(h:p0∧p1∧p2∧p3)(f:p0→p1→p2→p3→P):P:=f h.1 h.2.1 h.2.2.1 h.2.2.2
theorem jQ{t0:Sort _}{p0:Prop}{p1:t0→Prop}{P:Prop}(h:p0∧(∃x0,p1 x0))(f:p0→∀x0,p1 x0→P):P:=h.2.elim λy0 g0=>f h.1 y0 g0
theorem ly{t0:Sort _}{p0:t0→Prop}{p1:t0→Prop}{p2:t0→Prop}{p3:t0→Prop}{P:Prop}(h:∃x0,p0 x0∧p1 x0∧p2 x0∧p3 x0)(f:∀x0,p0 x0→p1 x0→p2 x0→p3 x0→P):P:=h.elim λy0 g0=>f y0 g0.1 g0.2.1 g0.2.2.1 g0.2.2.2
theorem Jr{p0:Prop}{p1:Prop}{p2:Prop}{p3:Prop}{p4:Prop}{p5:Prop}{p6:Prop}{p7:Prop}{P:Prop}(h:p0∧p1∧p2∧p3∧p4∧p5∧p6∧p7)(f:p0→p1→p2→p3→p4→p5→p6→p7→P):P:=f h.1 h.2.1 h.2.2.1 h.2.2.2.1 h.2.2.2.2.1 h.2.2.2.2.2.1 h.2.2.2.2.2.2.1 h.2.2.2.2.2.2.2
theorem nW{p0:Prop}{p1:Prop}{p2:Prop}{p3:Prop}{p4:Prop}{p5:Prop}{p6:Prop}{p7:Prop}{p8:Prop}{P:Prop}(h:p0∧p1∧p2∧p3∧p4∧p5∧p6∧p7∧p8)(f:p0→p1→p2→p3→p4→p5→p6→p7→p8→P):P:=f h.1 h.2.1 h.2.2.1 h.2.2.2.1 h.2.2.2.2.1 h.2.2.2.2.2.1 h.2.2.2.2.2.2.1 h.2.2.2.2.2.2.2.1 h.2.2.2.2.2.2.2.2
theorem rS{t0:Sort _}{t1:Sort _}{p0:t0→t1→Prop}{P:Prop}(h:∃x0,∃x1,p0 x0 x1)(f:∀x0,∀x1,p0 x0 x1→P):P:=h.elim λy0 g0=>g0.elim λy1 g1=>f y0 y1 g1
theorem vm{p0:Prop}{p1:Prop}{p2:Prop}{p3:Prop}{p4:Prop}{p5:Prop}{p6:Prop}{p7:Prop}{p8:Prop}{p9:Prop}{P:Prop}(h:p0∧p1∧p2∧p3∧p4∧p5∧p6∧p7∧p8∧p9)(f:p0→p1→p2→p3→p4→p5→p6→p7→p8→p9→P):P:=f h.1 h.2.1 h.2.2.1 h.2.2.2.1 h.2.2.2.2.1 h.2.2.2.2.2.1 h.2.2.2.2.2.2.1 h.2.2.2.2.2.2.2.1 h.2.2.2.2.2.2.2.2.1 h.2.2.2.2.2.2.2.2.2
theorem yD{t0:Sort _}{t1:Sort _}{p0:t0→t1→Prop}{p1:t0→t1→Prop}{p2:t0→t1→Prop}{P:Prop}(h:∃x0,∃x1,p0 x0 x1∧p1 x0 x1∧p2 x0 x1)(f:∀x0,∀x1,p0 x0 x1→p1 x0 x1→p2 x0 x1→P):P:=h.elim λy0 g0=>g0.elim λy1 g1=>f y0 y1 g1.1 g1.2.1 g1.2.2
theorem CI{p0:Prop}{p1:Prop}{p2:Prop}{p3:Prop}{p4:Prop}{p5:Prop}{P:Prop}(h:p0∧p1∧p2∧p3∧p4∧p5)(f:p0→p1→p2→p3→p4→p5→P):P:=f h.1 h.2.1 h.2.2.1 h.2.2.2.1 h.2.2.2.2.1 h.2.2.2.2.2
theorem XX{p0:Prop}{p1:Prop}{p2:Prop}{p3:Prop}{p4:Prop}{P:Prop}(h:p0∧p1∧p2∧p3∧p4)(f:p0→p1→p2→p3→p4→P):P:=f h.1 h.2.1 h.2.2.1 h.2.2.2.1 h.2.2.2.2
theorem CJ{t0:Sort _}{t1:Sort _}{p0:Prop}{p1:t0→t1→Prop}{p2:t0→t1→Prop}{p3:t0→t1→Prop}{p4:t0→t1→Prop}{p5:Prop}{P:Prop}(h:p0∧(∃x0,∃x1,p1 x0 x1∧p2 x0 x1∧p3 x0 x1∧p4 x0 x1)∧p5)(f:p0→∀x0,∀x1,p1 x0 x1→p2 x0 x1→p3 x0 x1→p4 x0 x1→p5→P):P:=h.2.1.elim λy0 g0=>g0.elim λy1 g1=>f h.1 y0 y1 g1.1 g1.2.1 g1.2.2.1 g1.2.2.2 h.2.2
theorem ahF{t0:Sort _}{t1:Sort _}{t2:Sort _}{p0:t0→t1→t2→Prop}{p1:t0→t1→t2→Prop}{P:Prop}(h:∃x0,∃x1,∃x2,p0 x0 x1 x2∧p1 x0 x1 x2)(f:∀x0,∀x1,∀x2,p0 x0 x1 x2→p1 x0 x1 x2→P):P:=h.elim λy0 g0=>g0.elim λy1 g1=>g1.elim λy2 g2=>f y0 y1 y2 g2.1 g2.2
theorem ahG{t0:Sort _}{t1:Sort _}{p0:t0→t1→Prop}{p1:t0→t1→Prop}{p2:t0→t1→Prop}{p3:t0→t1→Prop}{P:Prop}(h:∃x0,∃x1,p0 x0 x1∧p1 x0 x1∧p2 x0 x1∧p3 x0 x1)(f:∀x0,∀x1,p0 x0 x1→p1 x0 x1→p2 x0 x1→p3 x0 x1→P):P:=h.elim λy0 g0=>g0.elim λy1 g1=>f y0 y1 g1.1 g1.2.1 g1.2.2.1 g1.2.2.2
theorem Js{p0:Prop}{p1:Prop}{p2:Prop}{p3:Prop}{P:Prop}(h:p0∧(p1∧p2)∧p3)(f:p0→p1→p2→p3→P):P:=f h.1 h.2.1.1 h.2.1.2 h.2.2
theorem Jt{t0:Sort _}{t1:Sort _}{t2:Sort _}{p0:t0→t1→t2→Prop}{p1:t0→t1→t2→Prop}{p2:t0→t1→t2→Prop}{p3:t0→t1→t2→Prop}{p4:t0→t1→t2→Prop}{p5:t0→t1→t2→Prop}{P:Prop}(h:∃x0,∃x1,∃x2,p0 x0 x1 x2∧p1 x0 x1 x2∧p2 x0 x1 x2∧p3 x0 x1 x2∧p4 x0 x1 x2∧p5 x0 x1 x2)(f:∀x0,∀x1,∀x2,p0 x0 x1 x2→p1 x0 x1 x2→p2 x0 x1 x2→p3 x0 x1 x2→p4 x0 x1 x2→p5 x0 x1 x2→P):P:=h.elim λy0 g0=>g0.elim λy1 g1=>g1.elim λy2 g2=>f y0 y1 y2 g2.1 g2.2.1 g2.2.2.1 g2.2.2.2.1 g2.2.2.2.2.1 g2.2.2.2.2.2
theorem Ju{t0:Sort _}{t1:Sort _}{t2:Sort _}{t3:Sort _}{t4:Sort _}{p0:t0→t1→t2→t3→t4→Prop}{p1:t0→t1→t2→t3→t4→Prop}{p2:t0→t1→t2→t3→t4→Prop}{p3:t0→t1→t2→t3→t4→Prop}{p4:t0→t1→t2→t3→t4→Prop}{p5:t0→t1→t2→t3→t4→Prop}{p6:t0→t1→t2→t3→t4→Prop}{P:Prop}(h:∃x0,∃x1,∃x2,∃x3,∃x4,p0 x0 x1 x2 x3 x4∧p1 x0 x1 x2 x3 x4∧p2 x0 x1 x2 x3 x4∧p3 x0 x1 x2 x3 x4∧p4 x0 x1 x2 x3 x4∧p5 x0 x1 x2 x3 x4∧p6 x0 x1 x2 x3 x4)(f:∀x0,∀x1,∀x2,∀x3,∀x4,p0 x0 x1 x2 x3 x4→p1 x0 x1 x2 x3 x4→p2 x0 x1 x2 x3 x4→p3 x0 x1 x2 x3 x4→p4 x0 x1 x2 x3 x4→p5 x0 x1 x2 x3 x4→p6 x0 x1 x2 x3 x4→P):P:=h.elim λy0 g0=>g0.elim λy1 g1=>g1.elim λy2 g2=>g2.elim λy3 g3=>g3.elim λy4 g4=>f y0 y1 y2 y3 y4 g4.1 g4.2.1 g4.2.2.1 g4.2.2.2.1 g4.2.2.2.2.1 g4.2.2.2.2.2.1 g4.2.2.2.2.2.2
theorem Jv{t0:Sort _}{p0:Prop}{p1:t0→Prop}{p2:t0→Prop}{P:Prop}(h:p0∧(∃x0,p1 x0∧p2 x0))(f:p0→∀x0,p1 x0→p2 x0→P):P:=h.2.elim λy0 g0=>f h.1 y0 g0.1 g0.2
theorem Jw{p0:Prop}{p1:Prop}{p2:Prop}{P:Prop}(h:(p0∧p1)∧p2)(f:p0→p1→p2→P):P:=f h.1.1 h.1.2 h.2
open List renaming map_append→aL,mem_cons→aM,mem_map→aN,length_map→bl,nodup_cons→bA,mem_nil_iff→bO,map_cons→bP,mem_map_of_mem→c7,nodup_append→cJ,map_map→bQ,getElem?_eq_getElem→fY,mem_of_getElem?→eB,getElem?_map→dK,mem_flatMap→eF,length_append→fZ,append_nil→dZ,nil_sublist→eX,append_assoc→fP,flatMap_append→iQ,getElem?_eq_some_iff→kD,range→dm,pairwise_append→jR,nodup_nil→gT,drop_eq_nil_iff→kE,flatten_cons→jS,drop_drop→iR,getElem?_cons_zero→nX,sublist_append_right→pU,map_nil→iS,filter_sublist→nY,filter_congr→mC,contains_iff_mem→pV,foldl_cons→lz,getElem?_drop→nZ,filter_append→n6,filter_cons→mE,filter_eq_nil_iff→rT,drop_eq_nil_of_le→rU,mem_filter→mF,pairwise_iff_getElem→vn,length_cons→n7,flatMap_cons→pW,mem_append→n8,nodup_iff_pairwise_ne→yE,perm_append_comm→vo,nil_append→pX,toArray→mG,map_eq_nil_iff→vp,pairwise_singleton→yF,not_mem_nil→rW,length_take→rX,length_drop→rY,mem_singleton→vq,getElem?_append_right→CK,getD_eq_getElem?_getD→CM,getElem?_append_left→CN,map_congr_left→yG,length_erase_of_mem→CO,pairwise_cons→yH,find?_eq_none→yI,length→pY,pairwise_map→yJ,mem_range→vt,length_pos_of_mem→CP,drop_take→vz,mem_iff_getElem?→CQ,length_filter_le→CT,getElem?_eq_none→CU,mem_flatten→yK,any_eq_true→yL,mem_of_mem_drop→CV,mem_erase_of_ne→CW,eq_nil_of_length_eq_zero→Jx,length_nil→yM,find?_cons→yN,filter_map→yO,getElem?_range→CX,flatten_append→CY,filter_eq_self→C0,mem_or_eq_of_mem_set→Jy,mem_of_find?_eq_some→Jz,exists_mem_of_ne_nil→JA,drop_eq_getElem_cons→JB,sublist_append_left→JC,map_take→yP,range'_succ→C1,map_flatMap→C2,length_eq_zero_iff→JD,isEmpty_iff→C3,zipWith→yQ,take_of_length_le→JE,map_eq_append_iff→JF,drop_of_length_le→JG,forIn_cons→C5,take_append_drop→JH,set_getElem_self→JI,eq_nil_or_concat→JK,concat_eq_append→JL,reverse_reverse→JM,replicate→C6,range'→yR,mem_append_left→JN,forIn_nil→C7,foldl_map→C8,length_pos_iff→JO,map_drop→C9,map_set→Dc,getD→yS,map_id→Dd
open Nat renaming le_trans→bh,le_refl→bk,le_of_ble_eq_true→iE,succ_le_succ→ig,zero_add→iF,zero_le→iT,succ_pos→jT,ble→fD,le_succ→jU,lt_of_lt_of_le→rZ,lt_or_ge→mH,le_succ_of_le→sd,not_lt_of_le→sf,le_add_right→sj,add_zero→n9,not_le_of_lt→vA,ne_of_lt→pZ,ne_of_gt→qa,le_of_eq→qb,le_of_succ_le→yT,succ_ne_zero→yU,lt_or_gt_of_ne→De,add_sub_cancel→Df,le_add_right_of_le→JP,le_add_left→Dg,lt_irrefl→Dh,beq→sq
open Or renaming elim→dw
open Bool renaming false_ne_true→mJ,false_eq_true→mK,eq_iff_iff→mL,eq_false_iff→sr,and_eq_true_iff→yV,or_false→sy,or_true→sC,and_eq_true→Di
open List.Sublist renaming refl→mO,append→vB,cons_cons→yW,cons→Dj
open Option renaming isSome_iff_exists→sD,isSome_iff_ne_none→Dk,map_some→vC,isSome_map→JQ
open Int renaming toNat_natCast→oh,fmod_nonneg_of_pos→Dl,ofNat_inj→vD,fmod_eq_emod_of_nonneg→JR,lt_irrefl→yX,eq_ofNat_of_zero_le→JS,le_refl→yY,zero_add→Dm,ofNat→yZ
open Ne renaming symm→iU
open Option.some renaming inj→vE,injEq→JT
open Array renaming toList→vF,perm_iff_toList_perm→JU,find?_toList→Dn,size_push→Dp,getElem?_toList→JV,mem_toList_iff→JW
open PySem PySem.W PySem.Spec PySem.Calls PyProof.Rows
open PySem renaming wpAny_bind→av,Value→aj,World→ao,wpAny_pure→aJ,Shared→aA,codeAny_builtin→cN,Heap→az,DictEntry→bx,wpAny_ite_false→c9,Around→aV,Result→aW,wpAny_newObj_type→gu,sizeLine_eq→fQ,wpAny_field→gM,Code→bf,wpAny_loadPart'→jV,firstArgMember→jW,Params→cF,wpAny_setField→kG,wpAny_holding→jX,rawInt→cW,Builtin→eY,Program→f6,wpAny_typeNameOfWhole_valiter→y9,wpAny_typeNameOfWhole_keyiter→za,wpAny_ite_true→mQ,Stmt→bR,wpAny_of_eq→kH,wpAny_seqItems→oi,wpAny_mono→jY,FuncData→iG,wpAny_truthy_bool→sE,codeAny→gU,wpAny_typeNameOf_valiter→zb,wpAny_typeNameOf_keyiter→zc,wpAny_rule→lA,behindInMarks→qc,wpAny_dictEntries→vG,wpAny_fieldsOf→sF,recursionLimit→sG,wpAny_handled→sH,wpAny_dictEpoch→vH,wpAny_mkInt→qd,wpAny_callSpecial?_slot→Dq,intKind→jZ,wpAny_isOneOf_valiter→Dr,wpAny_typeNameOfWhole_itemiter→JX,wpAny_execs_cons→zf,preSum→jf,plainId_quiet→vJ,wpAny_throw→sJ,theTreesLotGoes→zg,codeAny_of_tree→zh,wpAny_typeOf→vK,seqItems?→qe,typeIs_str→sO,newExc→j3,entry_list_getitem→Ds,entryFor→oj,SetTable→om,wpAny_typeNameOf_itemiter→JY,wpAny_letGo→vL,richCompare_gives→Dt,pushEnvs_eq→vM,Flow→f7,wpAny_isInstance→Du,scanBound→sP,noteFrame→sQ,typeIs_int→vN,standAt→ou,wpAny_tryCatch→Dv,wpAny_noted→zj,wpAny_listPart→Dw,raiseNew→sR,plainId→qf,wpAny_call→zk,sysModules→zl
open PySem.Value renaming ref→bg,none→dz,int→iV,isInt→ow
open PySem.Heap renaming get?_push_of_some→gV,get?_update_self→iW,size_after_update→jA,get?_push_size→jg,size_push→iH,get?_update_other→qg,lt_size→vO
open PySem.Around renaming under_plainId→gO
open PySem.Obj renaming mapSeq→cz,mapFields→eG
open PyProof.Rows renaming arrOf→aZ,SortSt→fE,entry_tuple_getitem→zo,listUpdate_at→sW,setPending→sX,mirror→j4,listItems_at→zp,Keyed→jB
open PySem.W.ZFast renaming ze14044960220447912780→mR,ze12563942051412417395→qh,ze9404975358583537561→zq,ze17772580674575903948→Dy,zw3471404346716756564→JZ,ze1578499551869305889→J0
open PySem.Str renaming ofString→gB,length→zu
open PySem.Builtin.Range renaming rangeFitsLong→oz,rangeSize→zv
open PySem.Builtin.Dict_items renaming ownsTuple→vP
open PySem.Sre renaming Seen→gP,forSearch→vQ,Frame→qi,itemWidth→Dz
open PySem.Builtin.List renaming listExtendWith→zx,listSubscript?→J2,listUpdate→J3
open PySem.Builtin.Slice renaming slicePlaces→zy,sliceApplied→DA,sliceAdjust→DC
open PySem.W.X renaming KT→bZ
open PySem.PyData renaming canLayAll0→sY,eqvAll→oA,int→sZ,str→vR,depthAll→DE,eqv→DG
open PySem.Builtin.Tuple renaming tupleExact→zA,tupleItemsOf→J4
open PySem.AutoSeq1 renaming wpAny_loadPart'→zB
open PySem.Challenge renaming pw_ik0048_01→DH,rw_ik0048_01→J5
open PySem.F renaming plain_list_iadd→zC,entry_dict_valueiterator_next→J6,plain_sum_loop→zE,entry_dict_keyiterator_next→J8,entry_range_iterator_next→J9,entry_tuple_add→DI,entry_str_add→DJ
noncomputable section
def dn:bf→Sem Fin:=ZFast.zw11892475500146522536 ZFast.tableZ
theorem Kc(c:bf):denote table c=dn c:=by
 delta dn;rw[←ZFast.ze11892475500146522536,←ZFast.tableZ_eq]
def qt:bf→Bool:=ZFast.zw17772548960776305114
theorem XY(c:bf):c.quiet=qt c:=by
 delta qt;rw[←ZFast.ze17772548960776305114]
def lD:bf→Bool:=ZFast.zw2167841511373827401
theorem zF(c:bf):c.isCaller=lD c:=by
 delta lD;rw[←ZFast.ze2167841511373827401]
structure bK(b:Nat)(A:aV):Prop where
 hd:b≤110→A.handled=none
 depth:A.depth≤350+5*b
 units:A.units≤50+10*b
 fr:A.frames.isSome=true
theorem bK.le{b b':Nat}{A:aV}(h:bK b A)(hb:b≤b'):bK b' A:=
 ⟨λq=>h.hd (bh hb q),bh h.depth (Va hb),bh h.units (Vb hb),h.fr⟩
theorem mV{a b:String}{d:Decidable (a=b)}{n k:Nat}{x:a=b→Nat}{y:¬a=b→Nat}(hx:∀h,x h=k)(hk:fD k n=true)(hy:∀h,y h≤n):dite (a=b) x y≤n:=match d with
 |.isTrue h=>bh (qb (hx h)) (iE hk)
 |.isFalse h=>hy h
theorem Kd{a b:Bool}:(if a=b then 1 else 0)≤3:=by split<;>decide
theorem mW{a b:String}{k:Nat}(e:a=b):(Eq.ndrec (motive:=λaf=>Nat) k e)=k:=by cases e;rfl
theorem Ke(c:bf):c.frames≤3:=by
 delta Code.frames Code.frames.match_1;cases c with
 |builtin i a=>exact mV (λh=>mW _) rfl λaf=>mV (λh=>mW _) rfl λaf=>mV (λh=>mW _) rfl λaf=>mV (λh=>mW _) rfl λaf=>mV (λh=>mW _) rfl λaf=>mV (λh=>mW _) rfl λaf=>mV (λh=>mW _) rfl λaf=>mV (λh=>mW _) rfl λaf=>mV (λh=>mW _) rfl λaf=>Kd
 |_=>exact Kd
theorem XZ(c:bf):c.cUnits≤10:=by
 have:=Ke c;delta Code.cUnits;split<;>(first|exact R5 this|decide|exact R6 this)
theorem X0{c:bf}(h:c.isCaller=false):c.weight≤5:=by
 have:=Ke c;delta Code.weight;rw[h];simp only[mK,if_false];split<;>split<;>(first|exact R9 this|exact R8 this|exact ahH this|exact R7 this)
theorem bK.under{b:Nat}{A:aV}(h:bK b A){c:bf}(hc:c.isCaller=false):bK (b+1) (A.under c):=by
 refine⟨λq=>h.hd (yT q),?_,?_,?_⟩
 ·have:=X0 hc;show A.depth+c.weight≤_;exact WL h.depth ‹_›
 ·have:=XZ c;show A.units+c.cUnits≤_;exact WD ‹_› h.units
 ·show(pushEnvs c.envs A.frames).isSome=true;rw[vM,JQ];exact h.fr
theorem bK.mark{b:Nat}{A:aV}(h:bK b A)(hb:b≤111)(x:Option aj):bK 111 (A.mark x):=
 ⟨λq=>absurd q (by decide),bh h.depth (R3 hb),bh h.units (R4 hb),h.fr⟩
theorem mark_none(A:aV):A.mark none=A:=by
 cases A
 rfl
noncomputable def Keeps(U:List Nat)(h h':az):Prop:=
 h.objs.size≤h'.objs.size∧∀b o,b∉U→h.get? b=some o→h'.get? b=some o
theorem Keeps.refl(U:List Nat)(h:az):Keeps U h h:=⟨bk _,λaf af af e=>e⟩
theorem Keeps.trans{U:List Nat}{h h' h'':az}(x:Keeps U h h')(y:Keeps U h' h''):Keeps U h h'':=
 ⟨bh x.1 y.1,λb o hb e=>y.2 b o hb (x.2 b o hb e)⟩
theorem Keeps.mono{U U':List Nat}{h h':az}(x:Keeps U h h')(s:∀a∈U,a∈U'):Keeps U' h h':=
 ⟨x.1,λb o hb e=>x.2 b o (λm=>hb (s b m)) e⟩
theorem Keeps.push(U:List Nat)(h:az)(o:Obj):Keeps U h (h.push o):=
 ⟨by rw[iH];exact E2,λaf af af e=>gV o e⟩
theorem Keeps.upd{U:List Nat}{h:az}{a:Nat}(f:Obj→Obj)(ha:a∈U):Keeps U h (h.update a f):=
 ⟨by rw[jA];exact Ci,λb af hb e=>(qg h f (λq:a=b=>hb (by rw[←q];exact ha))).trans e⟩
theorem cK{h:az}{a:Nat}{o:Obj}(e:h.get? a=some o):a<h.objs.size:=vO e
noncomputable def aR(kt:bZ)(h:az):Prop:=∀a o,kt.get a=some o→h.get? a=some o
noncomputable def eZ(h:az)(l:List (Nat×Obj)):Prop:=∀p∈l,h.get? p.1=some p.2
noncomputable def s9(prog:f6)(w:ao)(kt:bZ)(b:Nat)(c:bf)(pre:List (Bool×Nat×Obj))(X:Type)(res:X→aW)(upd:X→List (Nat×Obj))(new:X→List (Nat×Obj)):Prop:=
 ∀(A:aV) (s:aA) (R:aW→aA→Prop),bK b A→aR kt s.heap→eZ s.heap (pre.map (·.2))→(pre.map (·.2.1)).Nodup→(∀p∈pre,p.1=true→kt.get p.2.1=none)→
  (∀x h' t',Keeps ((upd x).map (·.1)) s.heap h'→eZ h' (upd x)→eZ h' (new x)→(∀p∈new x,s.heap.objs.size≤p.1)→((new x).map (·.1)).Nodup→
   R (res x) ⟨h',s.gens,s.drawn,t',s.os⟩)→
  gU (model prog w) A c R s
structure BB where
 h₀:az
 n₀:Nat
 U:List Nat
structure VV where
 prog:f6
 w:ao
 kt:bZ
 gens:Array GenState
 d:Drawn
 os:OsState
 R₀:aW→aA→Prop
structure Ent where
 a:Nat
 m:Bool
 o:Obj
inductive KK where
 |base
 |ret (Ac A:aV) (lv:Nat) (k:aW→Sem Fin) (κ:KK)
noncomputable def muts:List (Bool×Nat×Obj)→List Nat
 |[]=>[]
 |p::r=>match p.1 with
  |true=>p.2.1::muts r
  |false=>muts r
theorem X3{p:Bool×Nat×Obj}(hm:p.1=true)(pre:List (Bool×Nat×Obj))(hp:p∈pre):p.2.1∈muts pre:=by
 induction pre with
 |nil=>cases hp
 |cons q r ih=>
  unfold muts;rcases aM.mp hp with h|h
  ·subst h;rw[hm];exact List.mem_cons_self
  ·have:=ih h;cases q.1 with
   |true=>exact List.mem_cons_of_mem _ this
   |false=>exact this
structure Lies(kt:bZ)(h:az)(l:List (Bool×Nat×Obj)):Prop where
 has:eZ h (l.map (·.2))
 nd:(l.map (·.2.1)).Nodup
 off:∀p∈l,p.1=true→kt.get p.2.1=none
 top:aR kt h
noncomputable def DK(prog:f6)(w:ao)(kt:bZ)(b:Nat)(c:bf)(Pre:az→Prop)(X:Type)(res:X→aW)(Post:X→az→az→Prop):Prop:=
 ∀(A:aV) (s:aA) (R:aW→aA→Prop),bK b A→aR kt s.heap→Pre s.heap→
  (∀x h' t',aR kt h'→Post x s.heap h'→R (res x) ⟨h',s.gens,s.drawn,t',s.os⟩)→gU (model prog w) A c R s
noncomputable def DL(prog:f6)(w:ao)(kt:bZ)(f:Option (List Env))(b:Nat)(c:bf)(Pre:az→Prop)(X:Type)(res:X→aW)(Post:X→az→az→Prop):Prop:=
 ∀(A:aV) (s:aA) (R:aW→aA→Prop),bK b A→A.frames=f→aR kt s.heap→Pre s.heap→
  (∀x h' t',aR kt h'→Post x s.heap h'→R (res x) ⟨h',s.gens,s.drawn,t',s.os⟩)→gU (model prog w) A c R s
noncomputable def DM(prog:f6)(w:ao)(kt:bZ)(b:Nat)(c:bf)(pre:List (Bool×Nat×Obj))(X:Type)(res:X→aW)(upd:X→List (Nat×Obj))(new:X→List (Nat×Obj)):Prop:=
 ∀(A:aV) (s:aA) (R:aW→aA→Prop),bK b A→1≤s.toks→aR kt s.heap→eZ s.heap (pre.map (·.2))→(pre.map (·.2.1)).Nodup→(∀p∈pre,p.1=true→kt.get p.2.1=none)→
  (∀x h' t',Keeps ((upd x).map (·.1)) s.heap h'→eZ h' (upd x)→eZ h' (new x)→(∀p∈new x,s.heap.objs.size≤p.1)→((new x).map (·.1)).Nodup→
   R (res x) ⟨h',s.gens,s.drawn,t'+1,s.os⟩)→
  gU (model prog w) A c R s
structure jh(kt:bZ)(B:BB)(pre:List (Nat×Bool×Nat×Obj))(h:az):Prop where
 keeps:Keeps B.U B.h₀ h
 lies:Lies kt h (pre.map (·.2))
 fresh:∀p∈pre,B.n₀≤p.1→B.h₀.objs.size≤p.2.2.1
noncomputable def post(V:VV)(E:aW→aA→Prop)(Ac:aV):Fin→aA→Prop:=λfin s'=>match fin with
 |.done f=>E (.ok f) s'
 |.again c'=>c'.quiet=true∧gU (model V.prog V.w) Ac c' E s'
noncomputable def Ends(V:VV):KK→aW→aA→Prop
 |.base=>V.R₀
 |.ret Ac A _ k κ=>λr s=>wpAny (model V.prog V.w) A (k r) (post V (Ends V κ) Ac) (λe s'=>Ends V κ (.error e) s') s
noncomputable def Means(V:VV)(κ:KK)(Ac A:aV)(t:Sem Fin)(s:aA):Prop:=
 wpAny (model V.prog V.w) A t (post V (Ends V κ) Ac) (λe s'=>Ends V κ (.error e) s') s
structure Rep(V:VV)(B:BB)(h:az)(L:List Ent)(sz:Nat):Prop where
 size:h.objs.size=sz
 ents:∀e∈L,h.get? e.a=some e.o
 nd:(L.map Ent.a).Nodup
 mt:∀e∈L,e.m=true→(e.a∈B.U∨B.h₀.objs.size≤e.a)∧V.kt.get e.a=none
 top:aR V.kt h
 keeps:Keeps B.U B.h₀ h
 fr:∀(i a:Nat),B.n₀≤i→(L.map Ent.a)[i]?=some a→B.h₀.objs.size≤a
noncomputable def Inv(Ac A:aV)(lv:Nat):Prop:=bK lv A∧(∀c:bf,c.isCaller=false→bK lv (Ac.under c))∧lv≤121∧bK (Nat.pred lv) Ac
noncomputable def mX:KK→Prop
 |.base=>True
 |.ret Ac A lv _ κ=>Inv Ac A lv∧mX κ
structure Res where
 κ:KK
 Ac:aV
 A:aV
 lv:Nat
 t:Sem Fin
 L:List Ent
 sz:Nat
 tk:Nat
noncomputable def X4(V:VV)(R:Res)(B:BB):Prop:=∀h,Rep V B h R.L R.sz→Inv R.Ac R.A R.lv→mX R.κ→Means V R.κ R.Ac R.A R.t ⟨h,V.gens,V.d,R.tk,V.os⟩
inductive Cert:Type 1 where
 |done (r:aW) (upd new:List (Nat×Nat×Obj)):Cert
 |ev (es:List Nat) (rest:Cert):Cert
 |cut (b:Nat) (c:bf) (pre:List (Nat×Bool×Nat×Obj)) (X:Type) (res:X→aW) (upd:X→List (Nat×Nat×Obj)) (new:X→List (Nat×Obj)) (rest:X→Nat→Nat→Cert):Cert
 |wide (b:Nat) (c:bf) (pre:List (Nat×Bool×Nat×Obj)) (X:Type) (res:X→aW) (led:X→List (Bool×Nat×Obj)) (rest:X→az→Nat→Nat→Cert):Cert
 |ji (b:Nat) (c:bf) (pre:List (Nat×Bool×Nat×Obj)) (X:Type) (res:X→aW) (upd:X→List (Nat×Nat×Obj)) (new:X→List (Nat×Obj)) (rest:X→Nat→Nat→Cert):Cert
 |eH (f:Option (List Env)) (b:Nat) (c:bf) (pre:List (Nat×Bool×Nat×Obj)) (X:Type) (res:X→aW) (led:X→List (Bool×Nat×Obj)) (rest:X→az→Nat→Nat→Cert):Cert
 |halt (m:Nat) (R:Res):Cert
noncomputable def Good(V:VV):Cert→BB→Prop
 |.halt _ R,B=>X4 V R B
 |.done r upd new,B=>∀hp t,Keeps B.U B.h₀ hp→aR V.kt hp→eZ hp (upd.map (·.2))→eZ hp (new.map (·.2))→(∀p∈new,B.h₀.objs.size≤p.2.1)→(new.map (·.2.1)).Nodup→V.R₀ r ⟨hp,V.gens,V.d,t,V.os⟩
 |.ev _ rest,B=>Good V rest B
 |.cut b c pre X res upd new rest,B=>s9 V.prog V.w V.kt b c (pre.map (·.2)) X res (λx=>(upd x).map (·.2)) new∧∀x sz tk,Good V (rest x sz tk) B
 |.ji b c pre X res upd new rest,B=>DM V.prog V.w V.kt b c (pre.map (·.2)) X res (λx=>(upd x).map (·.2)) new∧∀x sz tk,Good V (rest x sz tk) B
 |.wide b c pre X res led rest,B=>∃(Pre:az→Prop) (Post:X→az→az→Prop),DK V.prog V.w V.kt b c Pre X res Post∧(∀h,jh V.kt B pre h→Pre h)∧
   (∀x h h',jh V.kt B pre h→aR V.kt h'→Post x h h'→Lies V.kt h' (led x))∧∀x h h' sz tk,jh V.kt B pre h→aR V.kt h'→Post x h h'→Good V (rest x h' sz tk) ⟨h',(led x).length,muts (led x)⟩
 |.eH f b c pre X res led rest,B=>∃(Pre:az→Prop) (Post:X→az→az→Prop),DL V.prog V.w V.kt f b c Pre X res Post∧(∀h,jh V.kt B pre h→Pre h)∧
   (∀x h h',jh V.kt B pre h→aR V.kt h'→Post x h h'→Lies V.kt h' (led x))∧∀x h h' sz tk,jh V.kt B pre h→aR V.kt h'→Post x h h'→Good V (rest x h' sz tk) ⟨h',(led x).length,muts (led x)⟩
noncomputable def tg:Str:=⟨⟨[115,121,115,46,114,101,99,117,114,115,105,111,110,108,105,109,105,116]⟩⟩
theorem X5:(gB "sys.recursionlimit")=tg:=by decide+kernel
def zG:List bx→Bool
 |[]=>true
 |e::r=>match e.key with
  |.str s _=>match Fast.sEq s tg with
   |true=>false
   |false=>zG r
  |_=>false
def zH(o:Obj):Bool:=match o.data with
 |.dict es _=>zG es.toList
 |_=>false
theorem Kf:∀{es:List bx},zG es=true→(∀e∈es,∃n t,e.key=.str n t)∧es.find? (λe=>e.key.isStr tg)=none
 |[],_=>⟨λaf h=>(nomatch h),rfl⟩
 |e::r,h=>by
  unfold zG at h;split at h
  ·rename_i s t hk
   split at h
   ·cases h
   ·rename_i hs
    obtain⟨h1,h2⟩:=Kf h;refine⟨λe' he=>?_,?_⟩
    ·rcases aM.mp he with rfl|he
     ·exact⟨s,t,hk⟩
     ·exact h1 e' he
    ·have hn:e.key.isStr tg=false:=by
      rw[hk];show(s==tg)=false;cases q:s==tg with
      |false=>rfl
      |true=>
       rw[Fast.sEq_iff.mpr (eq_of_beq q)]at hs;cases hs
     rw[yN,hn];exact h2
  ·cases h
theorem X6{h:az}{o:Obj}(ho:h.get? cStatics=some o)(g:zH o=true):h.NoLimit:=by
 delta zH at g;split at g
 ·rename_i es ep hd
  obtain⟨h1,h2⟩:=Kf g;refine⟨λn=>nsFind es n,⟨o,es,ep,ho,hd,λe he=>h1 e (by simpa using he),λaf=>rfl⟩,?_⟩
  show nsFind es (gB "sys.recursionlimit")=none;rw[X5];delta nsFind findBy;rw[←Dn,h2];rfl
 ·cases g
def Kg:Sem Unit:=.load cStatics none λo=>match zH o with
 |true=>.pure ()
 |false=>.unsupported ""
def bindZ:iG→Args→Sem (List (Str×aj)):=ZFast.zw9782568553167038054
def Kh:Scope→Nat→List (Str×Nat)→List (Str×aj)→Str→Option Nat→aj→Option Env→Nat→Sem Env:=@ZFast.zw11113344188204177931
noncomputable def DN(fd:iG):Sem Str:=match fd.code with
  |.none=>pure fd.qualname
  |c=>do match←field c 1 with
   |.str q _=>pure q
   |_=>pure fd.qualname
noncomputable def zI(fd:iG)(env:Env):bf:=match fd.body with
 |.stmts b=>.func b env
 |.expr e=>.expr e env
def DP(a:Nat)(fd:iG)(args:Args):Sem Fin:=do
 let q←DN fd
 let b←bindZ fd args
 let env←Kh fd.scope fd.globals fd.closure b (q++".<locals>.") (some a) fd.code none fd.builtins
 Kg
 .pure (.again (zI fd env))
theorem X7{prog:f6}{w:ao}{A:aV}{a:Nat}{fd:iG}{args:Args}{Q:Fin→aA→Prop}{E:aj→aA→Prop}{s:aA}(hd:A.depth<sG)(hg:fd.scope.isGenerator=false)(hc:fd.scope.isCoroutine=false)
  (h:wpAny (model prog w) A (DP a fd args) Q E s):wpAny (model prog w) A (callFunction a fd args) Q E s:=by
 have e:callFunction a fd args=(do
   let q←DN fd
   let b←bindArgs fd args
   let env←newFunctionEnv fd.scope fd.globals fd.closure b (q++".<locals>.") (some a) fd.code none fd.builtins
   enterFrame
   .pure (.again (zI fd env))):=by
  delta callFunction DN zI;simp only[hg,hc];cases fd.code with
  |none=>rfl
  |_=>
   simp only[bind_assoc];congr 1
   funext v
   cases v<;>rfl
 rw[e];intro Γ p hΓ;have h:=h Γ p hΓ;unfold DP bindZ Kh at h;rw[←ZFast.ze9782568553167038054,←ZFast.ze11113344188204177931]at h;simp only[Sem.wp_bind']at h⊢;refine Sem.wp_mono _ _ _ (λq p1 s1 h=>?_) (λaf af af x=>x) _ _ h;refine Sem.wp_mono _ _ _ (λb p2 s2 h=>?_) (λaf af af x=>x) _ _ h;refine Sem.wp_mono _ _ _ (λenv p3 s3 h=>?_) (λaf af af x=>x) _ _ h;unfold Kg at h;simp only[Sem.wp]at h;refine aS h λo ho h=>?_;cases g:zH o with
 |false=>rw[g]at h;simp only[Sem.wp]at h
 |true=>
  rw[g]at h;simp only[Sem.wp]at h;exact(wpAny_enterFrame (M:=model prog w) (A:=A) (E:=E) (Q:=λaf s=>Sem.wp (model prog w) Γ (.pure (.again (zI fd env)):Sem Fin) (λa af s'=>Q a s') (λe af s'=>E e s') p3 s) (X6 ho g) hd (by simp only[Sem.wp];exact h)) Γ p3 hΓ
def dQ(c:bf):Sem Fin:=match c with
 |.call f args=>match f with
  |.ref a=>.load a none λo=>match o.data with
   |.func fd=>match fd.scope.isGenerator with
    |false=>match fd.scope.isCoroutine with
     |false=>DP a fd args
     |true=>.unsupported ""
    |true=>.unsupported ""
   |_=>dn c
  |_=>dn c
 |_=>dn c
theorem X8{α:Type}{prog:f6}{w:ao}{A:aV}{a:Nat}{k:Obj→Sem α}{Q:α→aA→Prop}{E:aj→aA→Prop}{s:aA}{t:Sem α}(h:wpAny (model prog w) A (.load a none k) Q E s)
  (z:∀o,s.heap.get? a=some o→wpAny (model prog w) A (k o) Q E s→wpAny (model prog w) A t Q E s):wpAny (model prog w) A t Q E s:=by
 cases q:s.heap.get? a with
 |none=>
  intro Γ p hΓ;have h:=h Γ p hΓ;simp only[Sem.wp]at h;refine aS h λo ho af=>?_;rw[q]at ho;cases ho
 |some o=>
  refine z o q λΓ p hΓ=>?_;have h:=h Γ p hΓ;simp only[Sem.wp]at h;refine aS h λo' ho h=>?_;rw[q]at ho;cases ho;exact h
theorem Kl{α:Type}{prog:f6}{w:ao}{A:aV}{x:String}{Q:α→aA→Prop}{E:aj→aA→Prop}{s:aA}{t:Sem α}(h:wpAny (model prog w) A (.unsupported x:Sem α) Q E s):wpAny (model prog w) A t Q E s:=λΓ p hΓ=>by
 have h:=h Γ p hΓ;simp only[Sem.wp]at h
theorem zJ{prog:f6}{w:ao}{A:aV}{c:bf}{Q:Fin→aA→Prop}{E:aj→aA→Prop}{s:aA}(hd:A.depth<sG)(h:wpAny (model prog w) A (dQ c) Q E s):wpAny (model prog w) A (denote table c) Q E s:=by
 rw[Kc];delta dQ at h;split at h
 ·split at h
  ·rename_i args _ a
   refine X8 h λo ho h=>?_;split at h
   ·rename_i fd hfd
    split at h
    ·rename_i hg
     split at h
     ·rename_i hc
      rw[←Kc];show wpAny _ _ (callAny (.ref a) args) _ _ _;show wpAny _ _ (PySem.load a>>=_) _ _ _;refine av (wpAny_load ho ?_);simp only[hfd];exact X7 hd hg hc h
     ·exact Kl h
    ·exact Kl h
   ·exact h
  ·exact h
 ·exact h
noncomputable def half:Nat→Nat×Bool
 |0=>(0,false)
 |n+1=>match half n with
  |(h,true)=>(h+1,false)
  |(h,false)=>(h,true)
noncomputable def getM:bZ→Nat→Option Obj
 |.nil,_=>none
 |.node v l r,i=>match i with
  |0=>v
  |j+1=>match half j with
   |(h,false)=>getM l h
   |(h,true)=>getM r h
section
variable(V:VV)
noncomputable def zK:Cert→Option (Nat×Cert)
 |.ev es rest=>match es with
  |[]=>none
  |e::es=>some (e,match es with|[]=>rest|_::_=>.ev es rest)
 |.done ..=>none
 |.cut ..=>none
 |.ji ..=>none
 |.wide ..=>none
 |.eH ..=>none
 |.halt ..=>none
noncomputable def inc:Nat→List Nat→Bool
 |_,[]=>true
 |n,x::r=>match fD n x with
  |true=>inc (x+1) r
  |false=>false
noncomputable def Km(L:List Ent)(j:Nat)(m:Bool):Option (Bool×Nat×Obj):=(L[j]?).map λe=>(match m with|true=>e.m|false=>false,e.a,e.o)
noncomputable def Kn(L:List Ent)(j:Nat):Option (Nat×Bool):=(L[j]?).map λe=>(e.a,e.m)
noncomputable def lE(L:List Ent):List (Nat×Bool×Nat×Obj)→Prop→Prop
 |[],p=>p
 |x::r,p=>(Km L x.1 x.2.1=some x.2)∧lE L r p
noncomputable def oB:List (Nat×Bool×Nat×Obj)→Prop→Prop
 |[],p=>p
 |x::r,p=>(some x.2=some x.2)∧oB r p
noncomputable def rd(l:List (Nat×Nat×Obj)):List (Nat×Bool×Nat×Obj):=l.map λx=>(x.1,false,x.2)
noncomputable def tn(L:List Ent):List (Nat×Nat×Obj)→Prop→Prop
 |[],p=>p
 |x::r,p=>(Kn L x.1=some (x.2.1,true))∧tn L r p
noncomputable def zL:List (Nat×Nat×Obj)→Prop→Prop
 |[],p=>p
 |x::r,p=>(some (x.2.1,true)=some (x.2.1,true))∧zL r p
noncomputable def oG:List (Nat×Nat×Obj)→List Ent→List Ent
 |[],L=>L
 |x::r,L=>oG r (L.set x.1 ⟨x.2.1,true,x.2.2⟩)
noncomputable def dB(l:List (Bool×Nat×Obj)):List Ent:=l.map λx=>⟨x.2.1,x.1,x.2.2⟩
noncomputable abbrev Ty:=KK→aV→aV→Nat→Sem Fin→List Ent→Nat→Nat→Nat→Cert→Prop
noncomputable def kind:bf→Nat
 |.call f _=>match f with
  |.ref _=>0
  |.builtin _=>7
  |.type _=>8
  |_=>9
 |.builtin ..=>1
 |.forLoop ..=>2
 |.whileLoop ..=>3
 |.compStart ..=>4
 |.compLoop ..=>5
 |_=>6
def zM(c c₀:bf):Bool:=match c with
 |.builtin i _=>match c₀ with
  |.builtin j _=>sq (S.codeS i) (S.codeS j)
  |_=>false
 |_=>sq (kind c) (kind c₀)
def oH(A:aV)(lv:Nat)(c:bf)(k:Nat→aW→List Ent→Nat→Nat→Cert→Prop)(other:Prop)(L:List Ent)(tk n:Nat)(cert:Cert):Prop:=match cert with
 |.cut b c₀ pre X res upd new rest=>match zM c c₀ with
  |false=>other
  |true=>c=c₀∧fD lv b=true∧inc 0 (pre.map (·.1))=true∧lE L pre (∀(x:X) (sz' tk':Nat),tn L (upd x) (k n (res x) (oG (upd x) L++(new x).map λp=>⟨p.1,true,p.2⟩) sz' tk' (rest x sz' tk')))
 |.ji b c₀ pre X res upd new rest=>match zM c c₀ with
  |false=>other
  |true=>c=c₀∧fD lv b=true∧fD 1 tk=true∧inc 0 (pre.map (·.1))=true∧lE L pre (∀(x:X) (sz' tk':Nat),tn L (upd x) (k n (res x) (oG (upd x) L++(new x).map λp=>⟨p.1,true,p.2⟩) sz' (tk'+1) (rest x sz' tk')))
 |.wide b c₀ pre X res led rest=>match zM c c₀ with
  |false=>other
  |true=>c=c₀∧fD lv b=true∧inc 0 (pre.map (·.1))=true∧lE L pre (∀(x:X) (h:az) (sz' tk':Nat),k (led x).length (res x) (dB (led x)) sz' tk' (rest x h sz' tk'))
 |.eH f b c₀ pre X res led rest=>match zM c c₀ with
  |false=>other
  |true=>A.frames=f∧c=c₀∧fD lv b=true∧inc 0 (pre.map (·.1))=true∧lE L pre (∀(x:X) (h:az) (sz' tk':Nat),k (led x).length (res x) (dB (led x)) sz' tk' (rest x h sz' tk'))
 |.done ..=>other
 |.ev ..=>other
 |.halt ..=>other
noncomputable def zN(ih:Ty)(κ:KK)(r:aW)(L:List Ent)(sz tk:Nat)(B:Nat)(cert:Cert):Prop:=match κ with
 |.base=>match cert with
  |.done r₀ upd new=>r=r₀∧inc B (new.map (·.1))=true∧lE L (rd upd) (lE L (rd new) True)
  |.ev ..=>False
  |.cut ..=>False
  |.ji ..=>False
  |.wide ..=>False
  |.eH ..=>False
  |.halt ..=>False
 |.ret Ac A lv k κ=>ih κ Ac A lv (k r) L sz tk B cert
def zO(p:Nat→Obj→Cert→Prop)(a:Nat)(L:List Ent)(cert:Cert):Prop:=match zK cert with
 |some (e,cert')=>match e with
  |0=>match V.kt.get a with
   |some o=>p a o cert'
   |none=>False
  |1=>False
  |j+2=>match L[j]? with
   |some e=>a=e.a∧p a e.o cert'
   |none=>False
 |none=>False
def jj(ih:Ty):Ty:=λκ Ac A lv t L sz tk B cert=>match t with
 |.pure fin=>match fin with
  |.done f=>zN ih κ (.ok f) L sz tk B cert
  |.again c=>match qt c with
   |true=>oH Ac (Nat.pred lv) c (λB r L sz tk cert=>zN ih κ r L sz tk B cert)
    (match lD c with
     |false=>ih κ Ac (Ac.under c) lv (dQ c) L sz tk B cert
     |true=>False) L tk B cert
   |false=>False
 |.raise e=>zN ih κ (.error e) L sz tk B cert
 |.rule _ k=>ih κ Ac A lv (k ()) L sz tk B cert
 |.at _ k=>ih κ Ac A lv (k ()) L sz tk B cert
 |.point _ k=>ih κ Ac A lv (k ()) L sz tk B cert
 |.ask k=>ih κ Ac A lv (k ⟨V.prog,V.w.params⟩) L sz tk B cert
 |.load a _ k=>zO V (λaf o cert'=>ih κ Ac A lv (k o) L sz tk B cert') a L cert
 |.loadIfAlive a k=>zO V (λaf o cert'=>ih κ Ac A lv (k (some o)) L sz tk B cert') a L cert
 |.alloc o k=>match zK cert with
  |some (e,cert')=>match e with
   |0=>False
   |1=>match o.isFreed with
    |false=>ih κ Ac A lv (k sz) (L++[⟨sz,true,o⟩]) (sz+1) tk B cert'
    |true=>False
   |_+2=>False
  |none=>False
 |.update a _ f k=>match zK cert with
  |some (e,cert')=>match e with
   |0=>False
   |1=>False
   |j+2=>match L[j]? with
    |some e=>match e.m with
     |true=>match(f e.o).isFreed with
      |false=>a=e.a∧ih κ Ac A lv (k ()) (L.set j ⟨e.a,true,f e.o⟩) sz tk B cert'
      |true=>False
     |false=>False
    |none=>False
  |none=>False
 |.fresh k=>ih κ Ac A lv (k tk) L sz (tk+1) B cert
 |.handled own k=>match own with
  |false=>match fD lv 110 with
   |true=>ih κ Ac A lv (k none) L sz tk B cert
   |false=>False
  |true=>False
 |.call c hd _ _ k=>match hd with
  |none=>oH A lv c (λB r L sz tk cert=>ih κ Ac A lv (k r) L sz tk B cert)
   (match lD c with
    |false=>match fD lv 120 with
     |true=>ih (.ret Ac A lv k κ) A (A.under c) (lv+1) (dQ c) L sz tk B cert
     |false=>False
    |true=>False) L tk B cert
  |some e=>match e with
   |.ref _=>match fD lv 111 with
    |true=>oH (A.mark (some e)) 111 c (λB r L sz tk cert=>ih κ Ac A lv (k r) L sz tk B cert)
     (match lD c with
      |false=>ih (.ret Ac A lv k κ) (A.mark (some e)) ((A.mark (some e)).under c) 112 (dQ c) L sz tk B cert
      |true=>False) L tk B cert
    |false=>False
   |_=>False
 |_=>False
def Ko(ih:Ty):Ty:=λκ Ac A lv t L sz tk B cert=>match cert with
 |.halt m R=>match m with
  |0=>Res.mk κ Ac A lv t L sz tk=R
  |m+1=>jj V ih κ Ac A lv t L sz tk B (.halt m R)
 |.ev es r=>jj V ih κ Ac A lv t L sz tk B (.ev es r)
 |.done a b c=>jj V ih κ Ac A lv t L sz tk B (.done a b c)
 |.cut b c pre X res upd new rest=>jj V ih κ Ac A lv t L sz tk B (.cut b c pre X res upd new rest)
 |.ji b c pre X res upd new rest=>jj V ih κ Ac A lv t L sz tk B (.ji b c pre X res upd new rest)
 |.wide b c pre X res led rest=>jj V ih κ Ac A lv t L sz tk B (.wide b c pre X res led rest)
 |.eH f b c pre X res led rest=>jj V ih κ Ac A lv t L sz tk B (.eH f b c pre X res led rest)
def fR(n:Nat):Ty:=Nat.rec (λaf af af af af af af af af af=>False) (λaf ih=>Ko V ih) n
def ahI(n:Nat):KK→aV→aV→Nat→Sem Fin→List Ent→Nat→Nat→List Nat→Res:=Nat.rec (λκ Ac A lv t L sz tk af=>⟨κ,Ac,A,lv,t,L,sz,tk⟩) (λaf ih κ Ac A lv t L sz tk es=>match t with
 |.pure fin=>match fin with
  |.done f=>match κ with
   |.base=>⟨κ,Ac,A,lv,t,L,sz,tk⟩
   |.ret fh A' lv' k κ'=>ih κ' fh A' lv' (k (.ok f)) L sz tk es
  |.again c=>ih κ Ac (Ac.under c) lv (dQ c) L sz tk es
 |.raise e=>match κ with
  |.base=>⟨κ,Ac,A,lv,t,L,sz,tk⟩
  |.ret fh A' lv' k κ'=>ih κ' fh A' lv' (k (.error e)) L sz tk es
 |.rule _ k=>ih κ Ac A lv (k ()) L sz tk es
 |.at _ k=>ih κ Ac A lv (k ()) L sz tk es
 |.point _ k=>ih κ Ac A lv (k ()) L sz tk es
 |.ask k=>ih κ Ac A lv (k ⟨V.prog,V.w.params⟩) L sz tk es
 |.load a _ k=>match es with
  |[]=>⟨κ,Ac,A,lv,t,L,sz,tk⟩
  |e::es=>match e with
   |0=>match getM V.kt a with
    |some o=>ih κ Ac A lv (k o) L sz tk es
    |none=>⟨κ,Ac,A,lv,t,L,sz,tk⟩
   |1=>⟨κ,Ac,A,lv,t,L,sz,tk⟩
   |j+2=>match L[j]? with
    |some e=>ih κ Ac A lv (k e.o) L sz tk es
    |none=>⟨κ,Ac,A,lv,t,L,sz,tk⟩
 |.loadIfAlive a k=>match es with
  |[]=>⟨κ,Ac,A,lv,t,L,sz,tk⟩
  |e::es=>match e with
   |0=>match getM V.kt a with
    |some o=>ih κ Ac A lv (k (some o)) L sz tk es
    |none=>⟨κ,Ac,A,lv,t,L,sz,tk⟩
   |1=>⟨κ,Ac,A,lv,t,L,sz,tk⟩
   |j+2=>match L[j]? with
    |some e=>ih κ Ac A lv (k (some e.o)) L sz tk es
    |none=>⟨κ,Ac,A,lv,t,L,sz,tk⟩
 |.alloc o k=>ih κ Ac A lv (k sz) (L++[⟨sz,true,o⟩]) (sz+1) tk es.tail
 |.update _ _ f k=>match es with
  |[]=>⟨κ,Ac,A,lv,t,L,sz,tk⟩
  |e::es=>match e with
   |0=>⟨κ,Ac,A,lv,t,L,sz,tk⟩
   |1=>⟨κ,Ac,A,lv,t,L,sz,tk⟩
   |j+2=>match L[j]? with
    |some e=>ih κ Ac A lv (k ()) (L.set j ⟨e.a,true,f e.o⟩) sz tk es
    |none=>⟨κ,Ac,A,lv,t,L,sz,tk⟩
 |.fresh k=>ih κ Ac A lv (k tk) L sz (tk+1) es
 |.handled _ k=>ih κ Ac A lv (k none) L sz tk es
 |.call c hd _ _ k=>match hd with
  |none=>ih (.ret Ac A lv k κ) A (A.under c) (lv+1) (dQ c) L sz tk es
  |some e=>ih (.ret Ac A lv k κ) (A.mark (some e)) ((A.mark (some e)).under c) 112 (dQ c) L sz tk es
 |_=>⟨κ,Ac,A,lv,t,L,sz,tk⟩) n
noncomputable def tu:List Nat→List Nat→Nat→(List Nat→Nat→Prop)→Prop
 |[],LA,sz,k=>k LA sz
 |e::es,LA,sz,k=>match e with
  |0=>tu es LA sz k
  |1=>tu es (LA++[sz]) (sz+1) k
  |j+2=>match LA[j]? with
   |some a=>a=a∧tu es LA sz k
   |none=>True
def fS(cert:Cert):List Nat→Nat→Prop:=
 Cert.rec (motive:=λaf=>List Nat→Nat→Prop)
  (λr upd new af af=>r=r∧true=true∧oB (rd upd) (oB (rd new) True))
  (λes af ih LA sz=>tu es LA sz ih)
  (λaf c pre X af upd new af ih LA af=>c=c∧true=true∧true=true∧oB pre (∀(x:X) (sz' tk':Nat),zL (upd x) (ih x sz' tk' (LA++(new x).map (·.1)) sz')))
  (λaf c pre X af led af ih af af=>c=c∧true=true∧true=true∧oB pre (∀(x:X) (h:az) (sz' tk':Nat),ih x h sz' tk' ((led x).map (·.2.1)) sz'))
  (λaf c pre X af upd new af ih LA af=>c=c∧true=true∧true=true∧true=true∧oB pre (∀(x:X) (sz' tk':Nat),zL (upd x) (ih x sz' tk' (LA++(new x).map (·.1)) sz')))
  (λf af c pre X af led af ih af af=>f=f∧c=c∧true=true∧true=true∧oB pre (∀(x:X) (h:az) (sz' tk':Nat),ih x h sz' tk' ((led x).map (·.2.1)) sz'))
  (λaf R af af=>R=R) cert
end
theorem zP{k:List Nat→Nat→Prop}(hk:∀LA sz,k LA sz):∀(es:List Nat) (LA:List Nat) (sz:Nat),tu es LA sz k
 |[],LA,sz=>hk LA sz
 |e::es,LA,sz=>by
  unfold tu;split
  ·exact zP hk es LA sz
  ·exact zP hk es _ _
  ·split
   ·exact⟨rfl,zP hk es LA sz⟩
   ·trivial
theorem qj{p:Prop}(hp:p):∀l,oB l p
 |[]=>hp
 |_::r=>⟨rfl,qj hp r⟩
theorem DQ{p:Prop}(hp:p):∀l,zL l p
 |[]=>hp
 |_::r=>⟨rfl,DQ hp r⟩
theorem tB(cert:Cert):∀LA sz,fS cert LA sz:=by
 induction cert with
 |done r upd new=>exact λaf af=>⟨rfl,rfl,qj (qj trivial _) _⟩
 |ev es rest ih=>exact λLA sz=>zP ih es LA sz
 |cut b c pre X res upd new rest ih=>exact λLA sz=>⟨rfl,rfl,rfl,qj (λx sz' tk'=>DQ (ih x sz' tk' _ _) _) _⟩
 |ji b c pre X res upd new rest ih=>exact λLA sz=>⟨rfl,rfl,rfl,rfl,qj (λx sz' tk'=>DQ (ih x sz' tk' _ _) _) _⟩
 |eH f b c pre X res led rest ih=>exact λLA sz=>⟨rfl,rfl,rfl,rfl,qj (λx h sz' tk'=>ih x h sz' tk' _ _) _⟩
 |wide b c pre X res led rest ih=>exact λLA sz=>⟨rfl,rfl,rfl,qj (λx h sz' tk'=>ih x h sz' tk' _ _) _⟩
 |halt m R=>exact λaf af=>rfl
theorem oJ{L:List Ent}{p:Prop}:∀{l:List (Nat×Bool×Nat×Obj)},lE L l p→(∀x∈l,∃e,L[x.1]?=some e∧e.a=x.2.2.1∧e.o=x.2.2.2∧(x.2.1=true→e.m=true))∧p
 |[],h=>⟨λaf hx=>(nomatch hx),h⟩
 |x::r,h=>by
  obtain⟨h1,h2⟩:=h;obtain⟨i1,i2⟩:=oJ h2;refine⟨λy hy=>?_,i2⟩;rcases aM.mp hy with rfl|hy
  ·obtain⟨j,m,a,o⟩:=y;delta Km at h1;cases q:L[j]? with
   |none=>rw[q]at h1;cases h1
   |some e=>
    rw[q]at h1;simp only[vC,JT,Prod.mk.injEq]at h1;refine⟨e,rfl,h1.2.1,h1.2.2,λhm=>?_⟩;have hm:m=true:=hm;subst hm;exact h1.1
  ·exact i1 y hy
theorem DS:∀{l:List Nat} {n:Nat},inc n l=true→(∀x∈l,n≤x)∧l.Pairwise (·< ·)
 |[],_,_=>⟨λaf h=>(nomatch h),.nil⟩
 |x::r,n,h=>by
  unfold inc at h;split at h
  ·rename_i hn
   have hn:=iE hn;obtain⟨h1,h2⟩:=DS h;refine⟨λy hy=>?_,.cons (λy hy=>h1 y hy) h2⟩;refine lu hy ?_ λhy=>?_
   ·exact hn
   ·exact VU (h1 y hy) hn
  ·cases h
theorem Kp{L:List Ent}(nd:(L.map Ent.a).Nodup):∀{l:List (Nat×Nat)},(l.map (·.1)).Pairwise (·< ·)→(∀x∈l,∃e,L[x.1]?=some e∧e.a=x.2)→(l.map (·.2)).Nodup
 |[],_,_=>.nil
 |x::r,hp,hx=>by
  rw[bP]at hp⊢;obtain⟨h1,h2⟩:=yH.mp hp;refine bA.mpr ⟨λhm=>?_,Kp nd h2 λy hy=>hx y (.tail _ hy)⟩;refine aS (aN.mp hm) λy hy Yb=>?_;refine aS (hx x (.head _)) λe he vS=>?_;refine aS (hx y (.tail _ hy)) λe' he' DT=>?_;obtain⟨hj,oM⟩:=kD.mp he;obtain⟨hj',Yc⟩:=kD.mp he';rw[yE,vn]at nd;refine nd x.1 y.1 (by simpa using hj) (by simpa using hj') (h1 y.1 (c7 hy)) ?_
  simp only[List.getElem_map,oM,Yc,vS,DT,Yb]
theorem zQ{L:List Ent}{p:Prop}:∀{l:List (Nat×Nat×Obj)},tn L l p→(∀x∈l,∃e,L[x.1]?=some e∧e.a=x.2.1∧e.m=true)∧p
 |[],h=>⟨λaf hx=>(nomatch hx),h⟩
 |x::r,h=>by
  obtain⟨h1,h2⟩:=h;obtain⟨i1,i2⟩:=zQ h2;refine⟨λy hy=>?_,i2⟩;rcases aM.mp hy with rfl|hy
  ·delta Kn at h1;cases q:L[y.1]? with
   |none=>rw[q]at h1;cases h1
   |some e=>
    rw[q]at h1;simp only[vC,JT,Prod.mk.injEq]at h1;exact⟨e,rfl,h1.1,h1.2⟩
  ·exact i1 y hy
section
variable{V:VV}{B:BB}
theorem Rep.alloc{h:az}{L:List Ent}{sz:Nat}(D:Rep V B h L sz){o:Obj}(hf:o.isFreed=false):Rep V B (h.push o) (L++[⟨sz,true,o⟩]) (sz+1):=by
 have hsz:=D.size;refine⟨by rw[iH,hsz],λe he=>?_,?_,λe he hm=>?_,λa o' e=>gV _ (D.top a o' e),D.keeps.trans (Keeps.push _ _ _),λi a hi q=>?_⟩
 ·rcases mA he with he|he
  ·exact gV _ (D.ents e he)
  ·apply cV he;show(h.push o).get? sz=some o;rw[←hsz];exact jg _ hf
 ·rw[aL,cJ];refine⟨D.nd,by simp,λa ha b hb=>?_⟩
  apply cV hb;refine aS (aN.mp ha) λe he aG=>?_;subst aG;exact Wi (cK (D.ents e he)) hsz
 ·rcases mA he with he|he
  ·exact D.mt e he hm
  ·apply cV he;refine⟨.inr (by show _≤sz;exact Jh hsz D.keeps.1),?_⟩
   cases q:V.kt.get sz with
   |none=>rfl
   |some o'=>
    have:=cK (D.top sz o' q);omega
 ·rw[aL]at q;rcases mH i (L.map Ent.a).length with l|l
  ·rw[CN l]at q;exact D.fr i a hi q
  ·rw[CK l]at q;have:a∈[sz]:=eB q;apply cV this;have:=D.keeps.1;exact Jh hsz this
theorem Rep.set{h h':az}{L:List Ent}{sz j:Nat}{e:Ent}{o:Obj}(D:Rep V B h L sz)(he:L[j]?=some e)(hm:e.m=true)(h1:h'.objs.size=h.objs.size)(h2:h'.get? e.a=some o)(h3:∀b,b≠e.a→h'.get? b=h.get? b):
  Rep V B h' (L.set j ⟨e.a,true,o⟩) sz:=by
 obtain⟨hj,oM⟩:=kD.mp he;obtain⟨hU,hk⟩:=D.mt e (eB he) hm;have hmap:(L.set j ⟨e.a,true,o⟩).map Ent.a=L.map Ent.a:=by
  rw[Dc];show(L.map Ent.a).set j e.a=_;rw[←oM];rw[←(by simp:(L.map Ent.a)[j]'(by simpa using hj)=(L[j]).a)]
  exact JI _
 refine⟨by rw[h1,D.size],λx hx=>?_,by rw[hmap];exact D.nd,λx hx Yd=>?_,λa o' q=>?_,?_,λi a hi q=>D.fr i a hi (by rw[hmap]at q;exact q)⟩
 ·obtain⟨i,hi,rfl⟩:=List.mem_iff_getElem.mp hx;rw[List.length_set]at hi;rw[List.getElem_set];split
  ·exact h2
  ·rename_i hne
   have ha:(L[i]).a≠e.a:=by
    intro q;have nd:=D.nd;rw[yE,vn]at nd;rw[←oM]at q;rcases De hne with l|l
    ·exact nd j i (by simpa using hj) (by simpa using hi) l (by simpa using q.symm)
    ·exact nd i j (by simpa using hi) (by simpa using hj) l (by simpa using q)
   rw[h3 _ ha];exact D.ents _ (List.getElem_mem hi)
 ·rcases Jy hx with hx|rfl
  ·exact D.mt x hx Yd
  ·exact⟨hU,hk⟩
 ·have:a≠e.a:=λq'=>by rw[q',hk]at q;cases q
  rw[h3 a this];exact D.top a o' q
 ·refine⟨by rw[h1];exact D.keeps.1,λb o' hb q=>?_⟩
  have:b≠e.a:=by
   rintro rfl
   rcases hU with hU|hU
   ·exact hb hU
   ·exact E0 (cK q) hU
  rw[h3 b this];exact D.keeps.2 b o' hb q
theorem Ye{α:Type}{prog:f6}{w:ao}{A:aV}{E:aj→aA→Prop}{s:aA}{Q:α→aA→Prop}{a:Nat}{k:Option Obj→Sem α}{o:Obj}(ho:s.heap.get? a=some o)(h:wpAny (model prog w) A (k (some o)) Q E s):
  wpAny (model prog w) A (.loadIfAlive a k) Q E s:=λΓ p hΓ=>by
 show Sem.wp _ _ (k (s.heap.get? a)) _ _ _ _;rw[ho];exact h Γ p hΓ
theorem bK.room{lv:Nat}{A:aV}(h:bK lv A)(hl:lv≤121):A.depth<sG:=by
 show A.depth<1000;exact U0 hl h.depth
theorem DU{e:Ent}{i:Nat}:∀(l:List (Nat×Nat×Obj)) (M:List Ent),(oG l M)[i]?=some e→(∃x∈l,x.1=i∧e=⟨x.2.1,true,x.2.2⟩)∨((∀x∈l,x.1≠i)∧M[i]?=some e)
 |[],M,h=>.inr ⟨λaf hx=>(nomatch hx),h⟩
 |x::r,M,h=>by
  rcases DU r _ h with⟨y,hy,q⟩|⟨h1,h2⟩
  ·exact .inl ⟨y,.tail _ hy,q⟩
  ·by_cases hx:x.1=i
   ·refine .inl ⟨x,.head _,hx,?_⟩;rw[hx,List.getElem?_set_self']at h2;cases q:M[i]? with
    |none=>rw[q]at h2;cases h2
    |some _=>rw[q]at h2;exact(vE h2).symm
   ·rw[List.getElem?_set_ne hx]at h2;refine .inr ⟨λy hy=>?_,h2⟩;rcases aM.mp hy with rfl|hy
    ·exact hx
    ·exact h1 y hy
theorem Kr{L:List Ent}:∀(l:List (Nat×Nat×Obj)) (M:List Ent),M.map Ent.a=L.map Ent.a→(∀x∈l,∃e,L[x.1]?=some e∧e.a=x.2.1∧e.m=true)→(oG l M).map Ent.a=L.map Ent.a
 |[],_,hM,_=>hM
 |x::r,M,hM,hx=>by
  refine ie (hx x (.head _)) λe he vS hem=>?_;obtain⟨hj,oM⟩:=kD.mp he;refine Kr r _ ?_ λy hy=>hx y (.tail _ hy);rw[Dc,hM];show(L.map Ent.a).set x.1 x.2.1=_;rw[←vS,←oM];rw[←(by simp:(L.map Ent.a)[x.1]'(by simpa using hj)=(L[x.1]).a)]
  exact JI _
theorem Rep.turn{h h':az}{sz:Nat}{l:List (Nat×Nat×Obj)}{L:List Ent}{n:List (Nat×Obj)}(D:Rep V B h L sz)(hu:∀x∈l,∃e,L[x.1]?=some e∧e.a=x.2.1∧e.m=true)
  (hk:Keeps ((l.map (·.2)).map (·.1)) h h') (h1:eZ h' (l.map (·.2))) (h2:eZ h' n) (h3:∀p∈n,h.objs.size≤p.1) (h4:(n.map (·.1)).Nodup):
  Rep V B h' (oG l L++n.map λp=>⟨p.1,true,p.2⟩) h'.objs.size:=by
 have fresh:∀p∈n,V.kt.get p.1=none:=by
  intro p hp;cases q:V.kt.get p.1 with
  |none=>rfl
  |some o'=>
   have:=cK (D.top _ o' q);have:=h3 p hp;omega
 have turned:∀b,b∈(l.map (·.2)).map (·.1)→(b∈B.U∨B.h₀.objs.size≤b)∧V.kt.get b=none:=by
  intro b hb;refine aS (aN.mp hb) λq hq aG=>?_;subst aG;refine aS (aN.mp hq) λx hx aG=>?_;subst aG;refine ie (hu x hx) λe he vS hem=>?_;rw[←vS];exact D.mt e (eB he) hem
 have hmap:=Kr l L rfl hu;refine⟨rfl,λe he=>?_,?_,λe he hm=>?_,λa o' q=>?_,?_,λi a hi q=>?_⟩
 ·rcases mA he with he|he
  ·obtain⟨i,hi⟩:=CQ.mp he;rcases DU l L hi with⟨x,hx,_,rfl⟩|⟨q1,q2⟩
   ·exact(λx hx=>h1 x.2 (c7 hx):∀x∈l,h'.get? x.2.1=some x.2.2) x hx
   ·refine hk.2 _ _ (λht=>?_) (D.ents e (eB q2));refine aS (aN.mp ht) λp hp hpa=>?_;refine aS (aN.mp hp) λx hx aG=>?_;subst aG;refine ie (hu x hx) λe' he' DT af=>?_;obtain⟨hj,oM⟩:=kD.mp he';obtain⟨hj2,Yg⟩:=kD.mp q2;have nd:=D.nd;rw[yE,vn]at nd;have ee:(L[x.1]).a=(L[i]).a:=by rw[oM,Yg,DT,hpa]
    rcases De (q1 x hx)with l|l
    ·exact nd x.1 i (by simpa using hj) (by simpa using hj2) l (by simpa using ee)
    ·exact nd i x.1 (by simpa using hj2) (by simpa using hj) l (by simpa using ee.symm)
  ·refine aS (aN.mp he) λp hp aG=>?_;subst aG;exact h2 p hp
 ·rw[aL,hmap,cJ];rw[(by simp:(n.map λp=>(⟨p.1,true,p.2⟩:Ent)).map Ent.a=n.map (·.1))]
  refine⟨D.nd,h4,λa ha b hb=>?_⟩;refine aS (aN.mp ha) λe he aG=>?_;subst aG;refine aS (aN.mp hb) λp hp aG=>?_;subst aG;have:=cK (D.ents e he);exact Wm ‹_› (h3 p hp)
 ·rcases mA he with he|he
  ·obtain⟨i,hi⟩:=CQ.mp he;rcases DU l L hi with⟨x,hx,_,rfl⟩|⟨q1,q2⟩
   ·exact turned _ (c7 (c7 hx))
   ·exact D.mt e (eB q2) hm
  ·refine aS (aN.mp he) λp hp aG=>?_;subst aG;exact⟨.inr (by have:=D.keeps.1;show _≤p.1;exact E5 ‹_› (h3 p hp)),fresh p hp⟩
 ·refine hk.2 a o' (λht=>?_) (D.top a o' q);rw[(turned a ht).2]at q;cases q
 ·refine⟨bh D.keeps.1 hk.1,λb o' hb q=>hk.2 b o' (λht=>?_) (D.keeps.2 b o' hb q)⟩;rcases(turned b ht).1 with t|t
  ·exact hb t
  ·exact E0 (cK q) t
 ·rw[aL,hmap,(by simp:(n.map λp=>(⟨p.1,true,p.2⟩:Ent)).map Ent.a=n.map (·.1))]at q
  rcases mH i (L.map Ent.a).length with l|l
  ·rw[CN l]at q;exact D.fr i a hi q
  ·rw[CK l]at q;refine aS (aN.mp (eB q)) λp hp aG=>?_;subst aG;have:=h3 p hp;exact E5 D.keeps.1 ‹_›
variable(V) in
noncomputable def Sound(ih:Ty):Prop:=∀κ Ac A lv t L sz tk (B:BB) cert h,ih κ Ac A lv t L sz tk B.n₀ cert→Good V cert B→Rep V B h L sz→Inv Ac A lv→mX κ→Means V κ Ac A t ⟨h,V.gens,V.d,tk,V.os⟩
theorem Yh{l:List (Nat×Nat×Obj)}{x}(hx:x∈l):(x.1,false,x.2)∈rd l:=c7 (f:=λx:Nat×Nat×Obj=>(x.1,false,x.2)) hx
theorem DV{h:az}{L:List Ent}{sz:Nat}(D:Rep V B h L sz){l:List (Nat×Bool×Nat×Obj)}(c:∀x∈l,∃e,L[x.1]?=some e∧e.a=x.2.2.1∧e.o=x.2.2.2∧(x.2.1=true→e.m=true)):eZ h ((l.map (·.2)).map (·.2)):=by
 intro p hp;refine aS (aN.mp hp) λz hz aG=>?_;subst aG;refine aS (aN.mp hz) λy hy aG=>?_;subst aG;refine ly (c y hy) λe he h1 h2 af=>?_;rw[←h1,←h2];exact D.ents e (eB he)
theorem Ks{h:az}{L:List Ent}{sz n:Nat}(D:Rep V B h L sz){l:List (Nat×Bool×Nat×Obj)}(hi:inc n (l.map (·.1))=true)(c:∀x∈l,∃e,L[x.1]?=some e∧e.a=x.2.2.1∧e.o=x.2.2.2∧(x.2.1=true→e.m=true)):((l.map (·.2)).map (·.2.1)).Nodup:=by
 have z:=Kp D.nd (l:=l.map λp=>(p.1,p.2.2.1)) (by rw[bQ];exact(DS hi).2) λx hx=>by
  refine aS (aN.mp hx) λp gv aG=>?_;subst aG;refine ie (c p gv) λe he h1 af=>?_;exact⟨e,he,h1⟩
 rw[bQ]at z⊢;exact z
theorem vU{h:az}{L:List Ent}{sz:Nat}(D:Rep V B h L sz){l:List (Nat×Bool×Nat×Obj)}(hi:inc 0 (l.map (·.1))=true)(c:∀x∈l,∃e,L[x.1]?=some e∧e.a=x.2.2.1∧e.o=x.2.2.2∧(x.2.1=true→e.m=true)):Lies V.kt h (l.map (·.2)):=by
 refine⟨DV D c,Ks D hi c,λp hp hm=>?_,D.top⟩;refine aS (aN.mp hp) λy hy aG=>?_;subst aG;refine ly (c y hy) λe he h1 af h3=>?_;rw[←h1];exact(D.mt e (eB he) (h3 hm)).2
theorem DW{V:VV}{B:BB}{cert cert':Cert}{e:Nat}(q:zK cert=some (e,cert'))(g:Good V cert B):Good V cert' B:=by
 cases cert with
 |ev es rest=>
  cases es with
  |nil=>cases q
  |cons x es=>
   cases es with
   |nil=>
    cases q
    exact g
   |cons y es=>
    cases q
    exact g
 |done=>cases q
 |cut=>cases q
 |ji=>cases q
 |wide=>cases q
 |eH=>cases q
 |halt=>cases q
theorem DX{ih:Ty}(IH:Sound V ih){κ:KK}{r:aW}{L:List Ent}{sz tk:Nat}{cert:Cert}{h:az}(H:zN ih κ r L sz tk B.n₀ cert)(G:Good V cert B)(D:Rep V B h L sz)(K:mX κ):Ends V κ r ⟨h,V.gens,V.d,tk,V.os⟩:=by
 cases κ with
 |base=>
  cases cert with
  |done r₀ upd new=>
   obtain⟨rfl,hi,H⟩:=H;obtain⟨c1,H⟩:=oJ H;obtain⟨c2,af⟩:=oJ H;have e1:((rd upd).map (·.2)).map (·.2)=upd.map (·.2):=by delta rd;rw[bQ,bQ];rfl
   have e2:((rd new).map (·.2)).map (·.2)=new.map (·.2):=by delta rd;rw[bQ,bQ];rfl
   have e3:(rd new).map (·.1)=new.map (·.1):=by delta rd;rw[bQ];rfl
   have e4:((rd new).map (·.2)).map (·.2.1)=new.map (·.2.1):=by delta rd;rw[bQ,bQ];rfl
   refine G h tk D.keeps D.top (e1▸DV D c1) (e2▸DV D c2) (λp hp=>?_) (e4▸Ks D (by rw[e3];exact hi) c2)
   refine ie (c2 _ (Yh hp)) λe he h1 af=>?_;refine D.fr p.1 p.2.1 ((DS hi).1 _ (c7 hp)) ?_;rw[dK,he,←h1];rfl
  |ev=>cases H
  |cut=>cases H
  |ji=>cases H
  |wide=>cases H
  |eH=>cases H
  |halt=>cases H
 |ret Ac A lv k κ=>exact IH _ _ _ _ _ _ _ _ _ _ h H G D K.1 K.2
theorem Ku{p:Nat→Obj→Cert→Prop}{a:Nat}{L:List Ent}{sz:Nat}{cert:Cert}{h:az}(D:Rep V B h L sz)(G:Good V cert B)(H:zO V p a L cert):∃o cert',h.get? a=some o∧Good V cert' B∧p a o cert':=by
 delta zO at H;split at H
 ·rename_i e cert' q
  have G':=DW q G;split at H
  ·split at H
   ·rename_i o q
    exact⟨o,_,D.top _ _ q,G',H⟩
   ·cases H
  ·cases H
  ·split at H
   ·rename_i e q
    obtain⟨rfl,H⟩:=H;exact⟨_,_,D.ents e (eB q),G',H⟩
   ·cases H
 ·cases H
theorem Yi(l:List (Bool×Nat×Obj)):(dB l).map Ent.a=l.map (·.2.1):=by simp[dB]
theorem Lies.rep{h:az}{l:List (Bool×Nat×Obj)}(S:Lies V.kt h l):Rep V ⟨h,l.length,muts l⟩ h (dB l) h.objs.size:=by
 refine⟨rfl,λe he=>?_,by rw[Yi];exact S.nd,λe he hm=>?_,S.top,Keeps.refl _ _,λi a hi q=>?_⟩
 ·refine aS (aN.mp he) λx hx aG=>?_;subst aG;exact S.has x.2 (c7 hx)
 ·refine aS (aN.mp he) λx hx aG=>?_;subst aG;exact⟨.inl (X3 hm _ hx),S.off x hx hm⟩
 ·have h:=(kD.mp q).1;simp[dB]at h;exact Xi h hi
theorem DY{lv:Nat}{c:bf}{k:Nat→aW→List Ent→Nat→Nat→Cert→Prop}{other:Prop}{L:List Ent}{cert:Cert}{sz tk:Nat}{h:az}{A:aV}{R:aW→aA→Prop}(H:oH A lv c k other L tk B.n₀ cert)(G:Good V cert B)(D:Rep V B h L sz)(hA:bK lv A)
  (hk:∀(B:BB) r L sz tk cert h,k B.n₀ r L sz tk cert→Good V cert B→Rep V B h L sz→R r ⟨h,V.gens,V.d,tk,V.os⟩) (ho:other→gU (model V.prog V.w) A c R ⟨h,V.gens,V.d,tk,V.os⟩):gU (model V.prog V.w) A c R ⟨h,V.gens,V.d,tk,V.os⟩:=by
 cases cert with
 |done=>exact ho H
 |ev es rest=>exact ho H
 |halt m R=>exact ho H
 |cut b c₀ pre X res upd new rest=>
  (delta oH at H;dsimp only at H)
  split at H
  ·exact ho H
  obtain⟨spec,G⟩:=G;obtain⟨rfl,hb,hi,H⟩:=H;obtain⟨hp,H⟩:=oJ H;have l:=vU D hi hp;refine spec A _ _ (hA.le (iE hb)) D.top l.has l.nd l.off λx h' t' k1 k2 k3 k4 k5=>?_;obtain⟨hu,H⟩:=zQ (H x h'.objs.size t');exact hk _ _ _ _ _ _ _ H (G _ _ _) (D.turn hu k1 k2 k3 k4 k5)
 |ji b c₀ pre X res upd new rest=>
  (delta oH at H;dsimp only at H)
  split at H
  ·exact ho H
  obtain⟨spec,G⟩:=G;obtain⟨rfl,hb,ht,hi,H⟩:=H;obtain⟨hp,H⟩:=oJ H;have l:=vU D hi hp;refine spec A _ _ (hA.le (iE hb)) (iE ht) D.top l.has l.nd l.off λx h' t' k1 k2 k3 k4 k5=>?_;obtain⟨hu,H⟩:=zQ (H x h'.objs.size t');exact hk _ _ _ _ _ _ _ H (G _ _ _) (D.turn hu k1 k2 k3 k4 k5)
 |wide b c₀ pre X res led rest=>
  (delta oH at H;dsimp only at H)
  split at H
  ·exact ho H
  obtain⟨Pre,Post,spec,hpre,qm,G⟩:=G;obtain⟨rfl,hb,hi,H⟩:=H;obtain⟨hp,H⟩:=oJ H;have ah:jh V.kt _ pre h:=⟨D.keeps,vU D hi hp,λp hpp hn=>by
   obtain⟨e,he,h1,af⟩:=hp p hpp;refine D.fr p.1 p.2.2.1 hn ?_;rw[dK,he,←h1];rfl⟩
  exact spec A _ _ (hA.le (iE hb)) D.top (hpre h ah) λx h' t' k2 k3=>
   hk ⟨h',(led x).length,muts (led x)⟩ _ _ _ _ _ _ (H x h' h'.objs.size t') (G x h h' h'.objs.size t' ah k2 k3) (Lies.rep (qm x h h' ah k2 k3))
 |eH f b c₀ pre X res led rest=>
  (delta oH at H;dsimp only at H)
  split at H
  ·exact ho H
  obtain⟨Pre,Post,spec,hpre,qm,G⟩:=G;obtain⟨hf,rfl,hb,hi,H⟩:=H;obtain⟨hp,H⟩:=oJ H;have ah:jh V.kt _ pre h:=⟨D.keeps,vU D hi hp,λp hpp hn=>by
   obtain⟨e,he,h1,af⟩:=hp p hpp;refine D.fr p.1 p.2.2.1 hn ?_;rw[dK,he,←h1];rfl⟩
  exact spec A _ _ (hA.le (iE hb)) hf D.top (hpre h ah) λx h' t' k2 k3=>
   hk ⟨h',(led x).length,muts (led x)⟩ _ _ _ _ _ _ (H x h' h'.objs.size t') (G x h h' h'.objs.size t' ah k2 k3) (Lies.rep (qm x h h' ah k2 k3))
theorem step_sound{ih:Ty}(IH:Sound V ih):Sound V (jj V ih):=by
 intro κ Ac A lv t L sz tk B cert h H G D I K;cases t with
 |pure fin=>
  cases fin with
  |done f=>exact X.x_pure (DX IH H G D K)
  |again c=>
   (delta jj at H;dsimp only at H)
   split at H
   ·rename_i hq
    refine X.x_pure ⟨by rw[XY];exact hq,DY H G D I.2.2.2 (λB r L sz tk cert h H G D=>DX IH H G D K) λH=>?_⟩
    split at H
    ·rename_i hc
     have I':=I.2.1 c (by rw[zF];exact hc)
     exact X.x_code (zJ (I'.room I.2.2.1) (IH _ _ _ _ _ _ _ _ _ _ h H G D ⟨I',I.2⟩ K))
    ·cases H
   ·cases H
 |raise e=>exact X.x_raise (DX IH H G D K)
 |rule tag k=>exact X.x_rule (IH _ _ _ _ _ _ _ _ _ _ h H G D I K)
 |«at» q k=>exact X.x_at (IH _ _ _ _ _ _ _ _ _ _ h H G D I K)
 |point l k=>exact X.x_point (IH _ _ _ _ _ _ _ _ _ _ h H G D I K)
 |ask k=>exact X.x_ask (IH _ _ _ _ _ _ _ _ _ _ h H G D I K)
 |load a q k=>
  refine yD (Ku (p:=λaf o cert'=>ih κ Ac A lv (k o) L sz tk B.n₀ cert') D G H) λo cert' ho G H=>?_;exact X.x_load ho (IH _ _ _ _ _ _ _ _ _ _ h H G D I K)
 |loadIfAlive a k=>
  refine yD (Ku (p:=λaf o cert'=>ih κ Ac A lv (k (some o)) L sz tk B.n₀ cert') D G H) λo cert' ho G H=>?_;exact Ye ho (IH _ _ _ _ _ _ _ _ _ _ h H G D I K)
 |alloc o k=>
  (delta jj at H;dsimp only at H)
  split at H
  ·rename_i e₀ cert' q₀
   split at H
   ·cases H
   ·split at H
    ·rename_i hf
     refine av (m:=alloc o) (f:=k) (wpAny_alloc ?_);show wpAny _ _ (k h.objs.size) _ _ _;rw[D.size];exact(IH _ _ _ _ _ _ _ _ _ _ _ H (DW q₀ G) (D.alloc hf) I K)
    ·cases H
   ·cases H
  ·cases H
 |update a q f k=>
  (delta jj at H;dsimp only at H)
  split at H
  ·rename_i e₀ cert' q₀
   split at H
   ·cases H
   ·cases H
   ·split at H
    ·rename_i e he
     split at H
     ·rename_i hm
      split at H
      ·rename_i hf
       obtain⟨rfl,H⟩:=H;have ho:=D.ents e (eB he);have hs:Heap.SameBut e.a h (h.update e.a f):=Heap.SameBut.update ..;exact av (m:=updatePart e.a q f) (f:=k) (wpAny_updatePart ho (IH _ _ _ _ _ _ _ _ _ _ _ H (DW q₀ G) (D.set (o:=f e.o) he hm hs.1 (iW _ ho hf) hs.2) I K))
      ·cases H
     ·cases H
    ·cases H
  ·cases H
 |fresh k=>exact X.x_fresh (IH _ _ _ _ _ _ _ _ _ _ h H G D I K)
 |handled own k=>
  cases own with
  |true=>cases H
  |false=>
   (delta jj at H;dsimp only at H)
   split at H
   ·rename_i hl
    refine X.x_handled ?_;rw[I.1.hd (iE hl)];exact IH _ _ _ _ _ _ _ _ _ _ h H G D I K
   ·cases H
 |call c hd g l k=>
  cases hd with
  |some e=>
   (delta jj at H;dsimp only at H)
   split at H
   ·rename_i a
    split at H
    ·rename_i hl
     have dc:=I.1.mark (iE hl) (some (.ref a));refine X.x_call ?_ (by intro q;cases q)
     refine DY H G D dc (λB r L sz tk cert h H G D=>IH _ _ _ _ _ _ _ _ _ _ h H G D I K) λH=>?_;split at H
     ·rename_i hc
      have hc':c.isCaller=false:=by rw[zF];exact hc
      have I':=dc.under hc';exact X.x_code (zJ (I'.room (by decide)) (IH _ _ _ _ _ _ _ _ _ _ h H G D ⟨I',λc' h'=>dc.under h',by decide,dc⟩ ⟨I,K⟩))
     ·cases H
    ·cases H
   ·cases H
  |none=>
   refine X.x_call ?_ (by intro q;cases q)
   rw[mark_none];(delta jj at H;dsimp only at H)
   refine DY H G D I.1 (λB r L sz tk cert h H G D=>IH _ _ _ _ _ _ _ _ _ _ h H G D I K) λH=>?_;split at H
   ·rename_i hc
    split at H
    ·rename_i hl
     have hc':c.isCaller=false:=by rw[zF];exact hc
     have hl':lv+1≤121:=ig (iE hl);have I':=I.1.under hc';exact X.x_code (zJ (I'.room hl') (IH _ _ _ _ _ _ _ _ _ _ h H G D ⟨I',λc' h'=>I.1.under h',hl',I.1⟩ ⟨I,K⟩))
    ·cases H
   ·cases H
 |unsupported=>cases H
 |finish=>cases H
 |register=>cases H
 |choose=>cases H
 |os=>cases H
 |newGen=>cases H
 |genState=>cases H
 |resume=>cases H
 |yield=>cases H
 |stack=>cases H
 |fork=>cases H
 |thread=>cases H
 |await=>cases H
theorem Yj{ih:Ty}(IH:Sound V ih):Sound V (Ko V ih):=by
 intro κ Ac A lv t L sz tk B cert h H G D I K;cases cert with
 |halt m R=>
  cases m with
  |zero=>
   obtain rfl:Res.mk κ Ac A lv t L sz tk=R:=H;exact G h D I K
  |succ m=>exact step_sound IH _ _ _ _ _ _ _ _ B (.halt m R) h H G D I K
 |ev=>exact step_sound IH _ _ _ _ _ _ _ _ B _ h H G D I K
 |done=>exact step_sound IH _ _ _ _ _ _ _ _ B _ h H G D I K
 |cut=>exact step_sound IH _ _ _ _ _ _ _ _ B _ h H G D I K
 |ji=>exact step_sound IH _ _ _ _ _ _ _ _ B _ h H G D I K
 |wide=>exact step_sound IH _ _ _ _ _ _ _ _ B _ h H G D I K
 |eH=>exact step_sound IH _ _ _ _ _ _ _ _ B _ h H G D I K
theorem sim_sound(V:VV):∀n,Sound V (fR V n)
 |0=>λaf af af af af af af af af af af H af af af af=>by cases H
 |n+1=>Yj (sim_sound V n)
end
theorem zR{V:VV}{h:az}{b:Nat}{A:aV}{c:bf}{l:List (Bool×Nat×Obj)}{tk:Nat}(cert:Cert)(G:Good V cert ⟨h,l.length,muts l⟩)(S:Lies V.kt h l)(hA:bK b A)(hb:fD b 120=true)(hc:lD c=false)
  (e:fR V 1000000000 .base A (A.under c) (b+1) (dQ c) (dB l) h.objs.size tk l.length cert=fS cert (l.map (·.2.1)) h.objs.size):
  gU (model V.prog V.w) A c V.R₀ ⟨h,V.gens,V.d,tk,V.os⟩:=by
 have hc':∀c:bf,c.isCaller=false→bK (b+1) (A.under c):=λc h=>hA.under h;have hb':b+1≤121:=ig (iE hb);have I':=hc' c (by rw[zF];exact hc)
 exact X.x_code (zJ (I'.room hb') (sim_sound V 1000000000 .base _ _ _ _ _ _ _ ⟨h,l.length,muts l⟩ _ _ (e.mpr (tB cert _ _)) G S.rep ⟨I',hc',hb',hA⟩ trivial))
theorem Kv{V:VV}{h:az}{b:Nat}{A:aV}{t:Sem f7}{Q:f7→aA→Prop}{E:aj→aA→Prop}{l:List (Bool×Nat×Obj)}{tk:Nat}(cert:Cert)(G:Good V cert ⟨h,l.length,muts l⟩)(S:Lies V.kt h l)(hA:bK b A)(hQ:∀f s,V.R₀ (.ok f) s→Q f s)(hE:∀e s,V.R₀ (.error e) s→E e s)
  (e:fR V 1000000000 .base A A (b+1) (t.bind λf=>.pure (.done f)) (dB l) h.objs.size tk l.length cert=fS cert (l.map (·.2.1)) h.objs.size) (hb:fD b 120=true):
  wpAny (model V.prog V.w) A t Q E ⟨h,V.gens,V.d,tk,V.os⟩:=by
 have z':wpAny (model V.prog V.w) A t (λf s=>V.R₀ (.ok f) s) (λe s=>V.R₀ (.error e) s) ⟨h,V.gens,V.d,tk,V.os⟩:=λΓ p hΓ=>by
  have b:Sem.wp (model V.prog V.w) Γ (t>>=λf=>(.pure (.done f):Sem Fin)) _ _ _ _:=((sim_sound V 1000000000 .base _ _ _ _ _ _ _ ⟨h,l.length,muts l⟩ _ _ (e.mpr (tB cert _ _)) G S.rep ⟨hA.le (jU b),λc h=>hA.under h,ig (iE hb),hA⟩ trivial) Γ p hΓ);rw[Sem.wp_bind']at b;exact b
 exact jY z' hQ hE
noncomputable section
noncomputable def st(i:Nat):bR:=DH.main.body.getD i (.Pass default)
noncomputable def eN:Expr:=.Name ⟨#[]⟩ default
noncomputable def sU:bR→Arguments×Scope×Expr×Expr×List bR×List bR×List ExceptHandler×Pos
 |.ClassDef _ _ _ b ..=>(default,default,eN,eN,b,[],[],default)
 |.FunctionDef _ a b _ _ _ s ..=>(a,s,eN,eN,b,[],[],default)
 |.For t i b o _=>(default,default,t,i,b,o,[],default)
 |.While t b o _=>(default,default,t,eN,b,o,[],default)
 |.If t b o p=>(default,default,t,eN,b,o,[],p)
 |.Assign _ e ..=>(default,default,eN,e,[],[],[],default)
 |.Return e p=>(default,default,eN,e.getD eN,[],[],[],p)
 |.Try b h ..=>(default,default,eN,eN,b,[],h,default)
 |_=>(default,default,eN,eN,[],[],[],default)
noncomputable def eU:Expr→List Expr×Expr×Arguments×Scope×List Comprehension×List Keyword
 |.Tuple l _ _=>(l,eN,default,default,[],[])
 |.Call _ l k _=>(l,eN,default,default,[],k)
 |.BoolOp _ l _=>(l,eN,default,default,[],[])
 |.Compare e _ l _=>(l,e,default,default,[],[])
 |.Lambda a e s _=>([],e,a,s,[],[])
 |.ListComp e g s _=>([],e,default,s,g,[])
 |.DictComp _ e g s _=>([],e,default,s,g,[])
 |_=>([],eN,default,default,[],[])
noncomputable def fArgs(s:bR):=(sU s).1
noncomputable def fScope(s:bR):=(sU s).2.1
noncomputable def dg(s:bR):=(sU s).2.2.1
noncomputable def rhs(s:bR):=(sU s).2.2.2.1
noncomputable def fBody(s:bR):=(sU s).2.2.2.2.1
noncomputable def DZ(s:bR):=(sU s).2.2.2.2.2.1
noncomputable def qn(s:bR):=(sU s).2.2.2.2.2.2.1
noncomputable def zT(s:bR):=(sU s).2.2.2.2.2.2.2
noncomputable def sub(j:Nat)(s:bR):=(fBody s).getD j (.Pass default)
noncomputable def D6(e:Expr):=(eU e).1
noncomputable def eE(e:Expr):=(eU e).2.1
noncomputable def Kw(e:Expr):=(eU e).2.2.1
noncomputable def oO(e:Expr):=(eU e).2.2.2.1
noncomputable def vV(e:Expr):=(eU e).2.2.2.2.1.getD 0 default
noncomputable def Yk(e:Expr):=(eU e).2.2.2.2.2
noncomputable def iu(i:Nat)(e:Expr):=(D6 e).getD i eN
noncomputable def sL(l:List Nat):Str:=⟨⟨l⟩⟩
noncomputable def dE(P:cF)(s:Str)(n:Nat)(v:aj):bx:=.mk (PyData.keyHash P s) (.str s n) v
noncomputable def vi(n:Nat):aj:=.int (.ofNat n) 0
noncomputable def oT(t:String)(d:Data):Obj:=.mk (.type t) none d ⟨[]⟩
noncomputable def kN(o:Obj)(a b:bZ):bZ:=.node (some o) a b
noncomputable def vW(f n:Nat):List Nat:=Nat.rec (motive:=λaf=>Nat→List Nat) (λaf=>[]) (λaf ih n=>match sq n 0 with
 |true=>[]
 |false=>(n%128)::ih (n/128)) f n
theorem Yl(f:Nat):∀n,S.low (vW f n)=true:=by
 induction f with
 |zero=>exact λaf=>rfl
 |succ f ih=>
  intro n;show S.low (match sq n 0 with
   |true=>[]
   |false=>(n%128)::vW f (n/128))=true
  cases sq n 0 with
  |true=>rfl
  |false=>exact yV.mpr ⟨Nat.ble_eq.mpr (Nat.le_of_lt_succ (Nat.mod_lt _ (by decide))),ih _⟩
noncomputable def sN(n:Nat):Str:=⟨⟨vW 1000000 n⟩⟩
noncomputable def lS(n:Nat):String:=S.litE ((vW 1000000 n).map UInt8.ofNat) (vW 1000000 n) (Yl _ n) rfl
def dR(P:cF)(f:String→aj):Nat→List Nat→List bx
 |_,[]=>[]
 |i,k::l=>dE P (sN k) i (f (lS k))::dR P f (i+1) l
noncomputable def Z0:String:=PySem.W.SZ.s2766695959194262286x5
noncomputable def Z1:String:=PySem.W.SZ.s5856160107412720595x4
noncomputable def Z2:String:=PySem.W.SZ.s7174869446012820540x8
noncomputable def Z3:String:=PySem.W.SZ.s14018661285674007319x4
noncomputable def Z4:String:=PySem.W.SZ.s2742458400755230247x6
noncomputable def Z5:String:=PySem.W.SZ.s17162191345867700912x4
noncomputable def Z6:String:=PySem.W.SZ.s6070975301684473832x10
noncomputable def Z7:String:=PySem.W.SZ.s10852414792293593619x7
noncomputable def Z8:String:=PySem.W.SZ.s6658869562736209489x6
noncomputable def Z9:String:=PySem.W.SZ.s5699418376593618685x17
noncomputable def D7:String:=PySem.W.SZ.s6779124196712981104x10
noncomputable def D8:String:=PySem.W.SZ.s2924395122027826103x14
noncomputable def D9:String:=PySem.W.SZ.s14755015743595814543x17
noncomputable def Ym:String:=PySem.W.SZ.s4278001404047624695x13
noncomputable def Yn:String:=PySem.W.SZ.s5946037652744460706x9
noncomputable def Ky:String:=PySem.W.SZ.s12171344214640291687x10
noncomputable def Kz:String:=PySem.W.SZ.s11443829558043349243x14
noncomputable def KG:String:=PySem.W.SZ.s10220274742760427390x26
noncomputable def Q0:Str:=sN 0xbf7f2edc3bafdf
noncomputable def Q1:Str:=sN 0xe7bb4f4d9a7ae2
noncomputable def Q2:Str:=sN 0x17efe3df92fdf
noncomputable def Q3:Str:=sN 0x17efe5cf875e3c3c2fdf
noncomputable def Q4:Str:=sN 0x2fdfe597261dfb2fdf
noncomputable def Q5:Str:=sN 0xbf7f1e5e1cefdf
noncomputable def Yo:Str:=sN 0x197669e1b77e3
noncomputable def KH:Str:=sN 0x74d19f4f2f3c37e3
noncomputable def KI:Str:=sN 0xbf7f769c3b6fdf
noncomputable def Ea:Str:=sN 0xcbcb9df
noncomputable def iX:Str:=sN 0x79e0bba75c6bf6e9c3b31af
noncomputable def qo:Str:=sN 0x6cd987bdf
noncomputable def qp:Str:=sN 0x19765fdbbf966bfd33df
noncomputable def qu:Str:=sN 0x1973dfdbbf966bfd365f
noncomputable def qv:Str:=sN 0x3ce5d77f7f4bfc36e3
noncomputable def qw:Str:=sN 0x61e987265e9bfaf1
noncomputable def vX:Str:=sN 0x6fcdba4e5c9be75f
noncomputable def vY:Str:=sN 0x396fe5ca2e5d98fcc3
noncomputable def vZ:Str:=sN 0x72cbd396fa7b30e3d39f7ecdfc37d4
noncomputable def qx:Str:=sN 0x39f4f197a5fef8765f
noncomputable def qy:Str:=sN 0x39eecfa79dfef8765f
noncomputable def qz:Str:=sN 0x74dd979dfef8765f
noncomputable def qA:Str:=sN 0x1cf26eebbf95fef8765f
noncomputable def qB:Str:=sN 0xe7979f3c3b31dfef8765f
noncomputable def qC:Str:=sN 0x1df0ec
noncomputable def KJ:Str:=sN 0x7d97675c9bf6bc
noncomputable def qD:Str:=sN 0x2fdfcbb3ae4dfb6fdf
noncomputable def v9:Str:=sN 0x17efefdd97769d9d39f2d39afdf
noncomputable def wc:Str:=sN 0x5fbfcf2f4eb8b4f2e9d30dfc7a7a61e9cefdf
noncomputable def Eb:Str:=sN 0xbf7fa63d392fdf
noncomputable def we:Str:=sN 0x17efe6cbcb5e1cbdefdf
noncomputable def KL:Str:=sN 0x1cb2f4e5bf86d93bb4f4d9a7ac2
noncomputable def f9:Str:=sN 0xcdb32f3
noncomputable def KN:Str:=sN 0x72cba3a6f
noncomputable def KO:Str:=sN 0x74d9d79e5e57f86f
noncomputable def mY:Str:=sN 0x70db8fced
noncomputable def gW:Str:=sN 0xcb937ee
noncomputable def wg:Str:=sN 0x73e5bf9f3cb8f2e4cbcb86e
noncomputable def wh:Str:=sN 0x39f2dfcf9e5c78faf3
noncomputable def mZ:Str:=sN 0xbf7fa69dda6fdf
noncomputable def Ec:Str:=sN 0x2fdfe9a7769bf7d76fcdba4e5c9be75f
noncomputable def KP:Str:=sN 0x5fbfcfa6fd9cefdf
noncomputable def KQ:Str:=sN 0x68e187967
noncomputable def wj:Str:=sN 0xe7cb7f3e7971e5c997970
noncomputable def Ed:Str:=sN 0x2fdfe9a7769bf7d772cbd396fa7b30e3d39f7ecdfc37d4
noncomputable def Ef:Str:=sN 0x3a6cebcf2f2
noncomputable def zU:Str:=sN 0x6fcdbb4e5c9bf75fe9973df
noncomputable def Eg:Str:=sN 0x1bf36ed39726fdd7fa65cf7d772cbd396fa7b30e3d39f7ecdfc37d4
noncomputable def zV:Str:=sN 0xdf9b769cb937ee
noncomputable def Eh:Str:=sN 0xc997970
noncomputable def KR:Str:=sN 0x6fcdbb4dfc997970
noncomputable def zW:Str:=sN 0x193261
noncomputable def Ei:Str:=sN 0x64c985772cbd396fa7b30e3d39f7ecdfc37d4
noncomputable def zX:Str:=sN 0x197961e197970
noncomputable def Ej:Str:=sN 0x65e587865e5c1772cbd396fa7b30e3d39f7ecdfc37d4
noncomputable def tC:Str:=sN 0x1a596e
noncomputable def zY:Str:=sN 0x79c9872f2bfd32e7
noncomputable def Ek:Str:=sN 0x1e7261cbcaff4cb9d772cbd396fa7b30e3d39f7ecdfc37d4
noncomputable def zZ:Str:=sN 0x65eda7a63c37f9e9
noncomputable def El:Str:=sN 0x197b69e98f0dfe7a5772cbd396fa7b30e3d39f7ecdfc37d4
noncomputable def z4:Str:=sN 0xbf7f66fdf8afdf
noncomputable def Em:Str:=sN 0x2fdfd9bf7e2bf7d772cbd396fa7b30e3d39f7ecdfc37d4
noncomputable def KS:Str:=sN 0x73cb937ee
noncomputable def KU:Str:=sN 0xe987a73
noncomputable def KV:Str:=sN 0x72dfcf9e5c78faf3
noncomputable def KW:Str:=sN 0x37e6dda6ff2dfcf9e5c78faf3
noncomputable def z5:Str:=sN 0xcbbb7e4
noncomputable def En:Str:=sN 0x32eedf91772cbd396fa7b30e3d39f7ecdfc37d4
noncomputable def z6:Str:=sN 0x197663f38efe4dda735f
noncomputable def Eo:Str:=sN 0x65d98fce3bf93769cd7d772cbd396fa7b30e3d39f7ecdfc37d4
noncomputable def z8:Str:=sN 0xe597272df7f1e9e987a73
noncomputable def Ep:Str:=sN 0x3965c9cb7dfc7a7a61e9cd772cbd396fa7b30e3d39f7ecdfc37d4
noncomputable def KY:Str:=sN 0x3265d1cf4eed39b75f
noncomputable def La:Str:=sN 0x37e6dda5965c9bf75f
noncomputable def Lb:Str:=sN 0x1d3aefc9979f3c3c375f
noncomputable def Lc:Str:=sN 0xe79726fdd7fce4c39795f
noncomputable def wk:Str:=sN 0x73e9e32f4
noncomputable def Ld:Str:=sN 0x73dd9f4f3
noncomputable def iI:Str:=sN 0x3965c5b7aee
noncomputable def m5:Str:=sN 0x65c787670
noncomputable def tD:Str:=sN 0x3965e9cb7f3
noncomputable def Er:Str:=sN 0xdda7873
noncomputable def Es:Str:=sN 0x39e4ddd77f2
noncomputable def z9:Str:=sN 0x79c9872f2
noncomputable def Aa:Str:=sN 0x74e7cb4e6
noncomputable def Et:Str:=sN 0xc9b37f4
noncomputable def Ab:Str:=sN 0x1cf2f3e787663
noncomputable def oE:=oT Z0 (.seq ⟨[]⟩ 0)
noncomputable def oF:Obj:=.mk .none none (.fields ⟨[]⟩) ⟨[]⟩
noncomputable def sS:Nat→List Str→List aj
 |_,[]=>[]
 |n,s::l=>.str s n::sS (n+1) l
noncomputable def oS(n:Nat)(l:List Str):=oT Z0 (.seq ⟨sS n l⟩ 0)
noncomputable def oC(a b:Str)(s:bR):Obj:=.mk .none none (.func (.mk a b (fArgs s) (.stmts (fBody s)) (fScope s) 0 [] .none .none .none .none none .none .none 0)) ⟨[]⟩
noncomputable def oL(a b:Str)(s:bR)(d t:aj)(r:Nat):=oT Z2 (.func (.mk a b (fArgs s) (.stmts (fBody s)) (fScope s) 3 [] d .none .none t none (.ref r) .none 0))
noncomputable def oK(a b:Str)(n i k r:Nat)(x y:aj)(q m:Nat):=oT Z1 (.fields ⟨[.str a n,.str b (n+1),.str iX (n+2),vi i,vi k,vi 0,vi 0,vi 3,.ref r,.bool true,vi 276,.ref (r+1),.none,x,y,.ref q,vi m,vi i,.str iX (m+1)]⟩)
noncomputable def Yp(P:cF):=oT Z3 (.dict ⟨[dE P Q0 1 (.str Q1 160),dE P Q2 2 (.builtin "builtins.__doc__:str#opaque"),dE P Q3 3 (.builtin "builtins.__package__:str#opaque"),dE P Q4 4 (.builtin "builtins.__loader__:shared#opaque"),dE P Q5 5 (.builtin SZ.s11665532747177232413x24)]++dR P .builtin 6 [0x17eff3e787663bf93669eb8afdf,0x2fdfe9cb7f0dba6fdf,0x1cf161,0x1b3661,0x1e7761,0x69d38f9e1,0x1bb4e2,0x3a6ed3bf86bc397962,0xcbb3161d9b30e3,0x1cb463,0x197669e1b77e3,0x1cba74c3b32e4,0x1cb4e4,0x326fdbdb4e4,0xd987b65,0xc797c65,0x3a61dbcb7e6,0x1cba74c3d32e7,0x1cf661c5bf667,0x1cba74c3cf0e8,0xd1cf0e8,0x1e32e8,0x3269,0x74ebc3769,0x32e3dd87a73dda79e9,0x39f3c3b31e2ebcf9e9,0xe597a69,0x72cbd34e1,0x1bb2ec,0x39ecc38f7ec,0x1e30ed,0x1bb4ed,0xe9e32ee,0x74f197761,0x1d31ef,0x19396f,0x1df7f0,0x74dda7970,0xe5c32f2,0x64ddd77f2,0x1cba74c3d32f3,0x3265e9cb7f3,0x1b7af3,0xe7cb0f6]++[dE P (sN 0xcbbb7ce) 50 .none,dE P (sN 0xe7a79f0d3b3645) 51 .ellipsis,dE P (sN 0x3265e9bb2edcbb386d93d37ce) 52 .notImplemented,dE P (sN 0x65e7b30c6) 53 (.bool false),dE P (sN 0xcbd7954) 54 (.bool true)]++dR P .type 55 [0xd9bf7e2,0x3be5d3dbcf2dfb72ed,0x79c3cb961cbd3ce2,0x73cbd3ce2,0x1937e8e9976f3e787663,0x1e32ece1b77e3,0xe98f4e4,0x65e987965dbd7765,0x3965e9b34e6,0x74c3bf666,0x74cbcf765f5bf966,0xf3d3965e1bf970,0x1d3769,0xe9cf4ec,0x1c30ed,0x3a63cbab16f,0x65cfbb0f2,0xc9979f2cbdb2f2,0x1d32f3,0x65c7a7673,0xc9bf474cbb71e9e987a73,0x1cba73,0x72cbc3af3,0x65d9c3af4,0xcbc3cf4,0x1c34fa]++[dE P (sN 0x5fbf9fae2cb92fdf) 81 (.bool true)]++dR P .type 82 [0x6edfa7a70cb8fc45cbcf0c2,0x3875dfca3eedfa7a70cb8fc45cbcf0c2,0x6edfa7a70cb8fc45,0x74d3e22f2dfd30f2cbbb2c7,0x74e1d7972cbd3749c9cb0efc5e72cb,0x3a69f1176e5e9cfcd3,0x1cb7f2e5171e9e9976e8e9a7941,0x396fe5ca2eedfa7a72cbcf9c1,0x396fe5ca2e5e9d7169e5d3a41,0x1cb7f2e517965cd9bac2,0xe5bf9728b1a7c5,0x1cb7f2e517a72dfc36c9,0x1cb7f2e517875d7bf7cc,0x1cb7f2e517cf2dfb72cd,0x72dfcb945cbb70ce,0x1cb7f2e5169cf,0x396fe5ca2e5c7bb2f2cb9b2d2,0xe5bf9728b976e9e9bbad2,0x376fd3d30f2cbd24e3dde79c1e1bfa53,0x6edfa7a61e597a49e1bfa53,0x1cb7f2e517c61e9bbcd3,0x1cb7f2e5176e5e9cfcd3,0x72dfcb945cbc3cd4,0x396fe5ca2e5ebb30d6,0x19f769ddcb0d7,0x396fe5ca2f4dda77d0cfbb4f4c3bf646,0x72dfcb945efbf666e597b4f,0x72dfcb945ddbf4f3d3db4c4dfcb2da,0xcfbb4eee586bf3cbd3cc2,0x33eed3bb961afbb7e9e9871e5e5c32c4,0x19f769ddcb0d7cfbb4e4df8f745,0x67dda7772c35f2f2ebd3ac6,0x67dda7772c35fa72dfc36c9,0x67dda7772c35f76fd3d30e3cbcb865899f769c9bb2d0,0x19f769ddcb0d7cb8f975dfcf2d2,0x33eed3bb961af976e9e9bbad2,0x67dda7772c35fc61e9bbcd3,0x33eed3bb961af9726fc7a7755,0x19f769ddcb0d7e5979d5,0x1cb7f2e5167c9cfbb4ebc7bf642,0x72dfcb945e7cf2e3dfca864d9a7443,0x1cb7f2e51776fd3d31e5ddbb7c3,0x1cb7f2e5179f4e7a7c45cbb34c6,0x72dfcb945c9bbaef8dd37cecbb34c6,0xe5bf9728b932f4e1d7972cbd3749,0x72dfcb945f3cb7f4c79796989079c9,0x396fe5ca2f9e5bfa63cbcb4c483d37ce,0x1cb7f2e51776fd3cf9e9dbcb2d0,0x396fe5ca2f0ebaf7ef99cf9e5c7bf950,0xe5bf9728bd3aefcbb74d4,0xe5bf9728bbb7e9e987a6ecb93749,0x72dfcb945e9d786e9397a65d9c36efc7ba4df,0x396fe5ca2f8cb93749,0xe5bf9728be72cb,0x1cb7f2e51726eebbe374df3b2eceb937cd,0x1cb7f2e517265e9bb2edcbb386d93d37ce,0x1cb7f2e51776fd3d30fad3b30eed31b76fd1d3cd0,0x396fe5ca2eedfa79f2eb8f2d2,0x72dfcb945d9871ef9993775df8b755,0xe5bf9728b9726fc7a7755,0x1cb7f2e5172f0d343765d7bf942,0x396fe5ca2e4cbd396fc50776fd3d31e5ddbb7c3,0x396fe5ca2e4cbcfae6cb4b76fd3d31e5ddbb7c3,0xe5bf9728bd32f3cb4b76fd3d31e5ddbb7c3,0xe5bf9728b8b0d4,0x396fe5ca2e5c9bf1e5899726fc7a7755,0x396fe5ca2e5c9bf1ee8b9726fc7a7755,0x72dfcb945cbd30ece7bb0f2a99726fc7a7755,0x3875dfca3eedfa7a70cb8fc45]++[dE P (sN 0xe5bf9728bd3765dbbb7f2d3db745) 151 (.type Z7),dE P (sN 0x1cb7f2e5167c9) 152 (.type Z7)]++dR P .builtin 153 [0xdd9786f]++[dE P (sN 0xe9a7af1) 154 (.builtin SZ.s14400166428656793546x20),dE P (sN 0xe9a7c65) 155 (.builtin SZ.s5857708277339239366x20),dE P KH 156 (.builtin "builtins.copyright#opaque"),dE P (sN 0x1cfa69c997963) 157 (.builtin "builtins.credits#opaque"),dE P (sN 0x1979eecb8f4ec) 158 (.builtin "builtins.license#opaque"),dE P (sN 0xe1b32e8) 159 (.builtin SZ.s7804999707787243718x20)]⟩ 159)
noncomputable def Yq(P:cF):=oT Z3 (.dict ⟨[dE P Q1 162 (.ref 4),dE P KI 163 (.ref 5),dE P Ea 244 (.ref 12)]⟩ 3)
noncomputable def Yr(P:cF):Obj:=.mk .none none (.dict ⟨[dE P (sN 0x32f2e77d764cb930efd8bba72dfc36e9) 183 (.bool true),dE P (sN 0x1cb2f4e5bf86d93bb4f4d9a7ac25d8b4ece9cb7f0dba6feecbeb7f2cd7d773e787663) 185 (.ref 14),dE P (sN 0x3a72dfc36e95d932e8c7d30f7) 206 (.ref 18),dE P (sN 0x31e5e14f2eceb937cd5d8b4ece9cb7f0dba6feecbeb7f2cd7d773e787663) 216 (.ref 22),dE P (sN 0xd18f7f0cab7265d7bf7e25dcf2eceb937ed5dcfcf3) 245 (vi 3),dE P (sN 0x32f2e77d764d38762de597a61d8bba72dfc36e9) 270 (.bool true),dE P (sN 0x1e7961e58b4ec5d932e8c7d30f7) 272 (.ref 27),(dE P (sN 0x1cfa63cbab16f5be7961e58b4ec5d932e8c7d30f7) 0 (.str (sN 0xc) 0)),(dE P (sN 0x65e5cefaee1972e45be7961e58b4ec5d932e8c7d30f7) 273 (.str (sL [4,0,0,11,4,0,0,11,4,0,0,3,4,0,0,11,8,4,100,105,99,116,2]) 0))]⟩ 9) ⟨[]⟩
noncomputable def t0:aj:=.str (sN 0x31617dc3460c35e9bfdf0ec) 569
noncomputable def Ys(P:cF):=oT Z3 (.dict ⟨[dE P Q0 165 t0,dE P Q2 166 .none,dE P Q3 167 .none,dE P Q4 168 (.builtin SZ.s7097527257260152453x26),dE P Q5 169 .none,dE P (sN 0x17eff3ddbf4f4c3d37eedd86fdf) 170 (.ref 6),dE P (sN 0xbf7f9eed3d3669eb8afdf) 171 (.ref 4),dE P (sN 0xbf7f2ecd39afdf) 173 (.str iX 172),dE P (sN 0x2fdfc997463c38efdf) 174 .none,dE P Ea 275 (.ref 12),dE P qo 288 (.ref 38),dE P qp 299 (.ref 45),dE P qu 308 (.ref 52),dE P qv 317 (.ref 59),dE P (sN 0x18dfcbcafeed3dfa5f) 335 (.ref 64),dE P (sN 0x195fcbcafeed3dfa5f) 377 (.ref 69),(dE P (sN 0x8d32943) 379 (.str (sN 0x50d) 378)),dE P qw 386 (.ref 76),(dE P (sN 0x54ab3efc5893e75f) 391 (.int (-1) 390)),(dE P (sN 0x22ce9f12fc5893e75f) 394 (.int (-2) 393)),dE P vX 431 (.ref 95),dE P vY 449 (.ref 110),dE P vZ 568 (.ref 192),dE P qx 580 (.ref 203),dE P qy 586 (.ref 208),dE P qz 595 (.ref 215),dE P qA 607 (.ref 222),dE P qB 617 (.ref 229),dE P qC 623 (.ref 234)]⟩ 29)
noncomputable def Yt:Obj:=.mk (.type Z8) (some 0) .plain ⟨[]⟩
noncomputable def Yu:Obj:=.mk (.type Z8) (some 3) .plain ⟨[]⟩
noncomputable def Yv:=oT Z3 (.dict ⟨[]⟩ 0)
noncomputable def Yw:=oT Z1 (.fields ⟨[.str KJ 176,.str KJ 177,.str iX 178,vi 1,vi 0,vi 0,vi 0,vi 0,.ref 7,.bool false,vi 175,.ref 8,.none,.none,.none,.none,vi 179,vi 1,.str iX 180]⟩)
noncomputable def t1:aj:=.str KI 164
noncomputable def Yx:Obj:=.mk (.type SZ.s658472552662922059x5) none .plain ⟨[(some (.ref 9)),(some (.ref 3)),(some (.ref 3)),none,(some t1),none,(some (.ref 0))]⟩
noncomputable def Yy(P:cF):=oT Z3 (.dict ⟨[dE P Q0 247 (.str Ea 246),dE P Q2 248 .none,(dE P Q3 250 (.str (sL []) 249)),dE P Q4 251 (.builtin "off-the-table:_sre.__loader__:shared#opaque"),dE P Q5 252 (.builtin "off-the-table:_sre.__spec__:shared#opaque"),dE P Yo 253 (.builtin SZ.s492968859115322481x12),dE P (sN 0xcbd30ece1b72f4) 254 (.builtin "off-the-table:_sre.template:shared#opaque"),dE P (sN 0x197d69e79726fc7d32e7) 255 (.builtin "off-the-table:_sre.getcodesize:shared#opaque"),dE P (sN 0x64cbcf0e3e7a6fe9d38f9e1) 256 (.builtin "off-the-table:_sre.ascii_iscased:shared#opaque"),dE P (sN 0x1932f3c38f9e9bf9726fc7a7775) 257 (.builtin "off-the-table:_sre.unicode_iscased:shared#opaque"),dE P (sN 0x72cbdf7ecdfd2fe9d38f9e1) 258 (.builtin "off-the-table:_sre.ascii_tolower:shared#opaque"),dE P (sN 0x1cb2f7dfb37f4bf9726fc7a7775) 259 (.builtin "off-the-table:_sre.unicode_tolower:shared#opaque"),dE P (sN 0x43931e0cd) 261 (.int 20230612 260),dE P (sN 0x8b6a4d38b127c3) 263 (.int 4 262),dE P (sN 0x548316845a5620cd) 265 (.int 4294967295 264),dE P (sN 0x53a1567d28f620cd) 267 (.int 1073741823 266),(dE P KH 269 (.str (sN 0x208505073c586620e997963cb4d079c48193060c96b772e58a0538d420e9a33e9e5e786f868192e64b99208b4a9a0) 268))]⟩ 17)
noncomputable def Yz:Obj:=.mk (.type Z8) (some 11) .plain ⟨[]⟩
noncomputable def YB(P:cF):=oT Z3 (.dict ⟨[(dE P qD 189 (.str (sN 0x62d3b3a72dfc36e9bfbb2fadfcb35f) 186)),dE P v9 190 (.int 971 187),dE P Q2 191 (.builtin "_frozen_importlib.BuiltinImporter.__doc__:str#opaque"),(dE P (sN 0x13a4c7934a7df) 192 (.str (sN 0xdda56f4d9a7ae2) 188)),dE P (sN 0x63cbc39dfc9bb4e6) 193 (.builtin "_frozen_importlib.BuiltinImporter.find_spec#opaque"),dE P (sN 0x65d9d726fdb7f2f4c397963) 194 (.builtin "_frozen_importlib.BuiltinImporter.create_module#opaque"),dE P (sN 0x197675c9bf6dfc797c65) 195 (.builtin "_frozen_importlib.BuiltinImporter.exec_module#opaque"),dE P (sN 0xcb937e3bfd32e7) 196 (.builtin "_frozen_importlib.BuiltinImporter.get_code#opaque"),dE P (sN 0x32e3e5d77f3bfd32e7) 197 (.builtin "_frozen_importlib.BuiltinImporter.get_source#opaque"),dE P (sN 0x32e7c3af1e1e17f9e9) 198 (.builtin "_frozen_importlib.BuiltinImporter.is_package#opaque"),dE P (sN 0x197675c9bf6dfc9877ec) 199 (.builtin "_frozen_importlib.BuiltinImporter.load_module#opaque"),dE P wc 200 (.ref 15),dE P Eb 202 (.ref 16),dE P we 204 (.ref 17)]⟩ 14)
noncomputable def YC:=oT Z5 (.cls (.mk KL [.type Z4] [.ref 14,.type Z4] 13 KL true [] [] false none false))
noncomputable def YD:=oS 285 [(sN 0x6b)]
noncomputable def YF:=oC qo qo (st 1)
noncomputable def YG:=oK qo qo 282 2 1 32 (.ref 34) (.ref 35) 36 286
noncomputable def YH:=oL qo qo (st 1) .none t1 37
noncomputable def YJ:=oS 294 [f9,KN,KO]
noncomputable def YK:=oC qp qp (st 3)
noncomputable def YL:=oK qp qp 291 6 2 39 (.ref 41) (.ref 42) 43 297
noncomputable def t2:aj:=.str (sN 0xe7b37efe98f775ccb99b167e7863) 289
noncomputable def YM:=oL qp qp (st 3) .none t2 44
noncomputable def YN:=oS 303 [f9,KN,KO]
noncomputable def YQ:=oC qu qu (st 4)
noncomputable def YR:=oK qu qu 300 11 2 46 (.ref 48) (.ref 49) 50 306
noncomputable def YS:=oL qu qu (st 4) .none t2 51
noncomputable def YT:=oS 312 [mY,(sN 0x4b)]
noncomputable def YV:=oS 314 [mY]
noncomputable def YW:=oC qv qv (st 5)
noncomputable def tE:=oK qv qv 309 16 1 53 (.ref 55) (.ref 56) 57 315
noncomputable def YX:=oL qv qv (st 5) .none t2 58
noncomputable def YY:=oT Z0 (.seq ⟨[vi 14,vi 4,vi 0,vi 1,vi 1,vi 6,vi 1,vi 16,vi 46,vi 1]⟩ 0)
noncomputable def YZ:=oT Ky (.fields ⟨[(.str (sN 0xbae5e53b5fa8) 321),.int 40 334,vi 0,.none,.none,.ref 63,vi 0]⟩)
noncomputable def Y0:=oT Z0 (.seq ⟨[vi 14,vi 9,vi 4,vi 1,vi 2,vi 16,vi 10,vi 16,vi 13,vi 0,vi 7,vi 7,vi 16,vi 13,vi 16,vi 10,vi 15,vi 18,vi 5,vi 16,vi 10,vi 15,vi 13,vi 11,vi 16,vi 13,vi 5,vi 5,vi 0,vi 16,vi 10,vi 1,vi 15,vi 2,vi 0,vi 1]⟩ 0)
noncomputable def Y3:=oT Ky (.fields ⟨[(.str (sN 0x52a775c42fd472b9f375cf9bae72b8e9fa8) 337),.int 32 376,vi 0,.none,.none,.ref 68,vi 0]⟩)
noncomputable def Y4:=oS 383 [(sN 0xc3d30e4)]
noncomputable def Y5:=oC qw qw (st 10)
noncomputable def Y6:=oK qw qw 380 45 1 70 (.ref 72) (.ref 73) 74 384
noncomputable def Y7:=oT Z2 (.func (.mk qw qw (fArgs (st 10)) (.stmts (fBody (st 10))) (fScope (st 10)) 3 [] .none .none .none (.str (sN 0x3169d9c3a6de6b99b167e7863) 318) none (.ref 75) .none 0))
noncomputable def Y8:=oS 407 [gW,wg,wh]
noncomputable def Y9:=oS 414 [f9,gW]
noncomputable def Za:=oC mZ Ec (sub 1 (st 14))
noncomputable def Zb:=oK mZ Ec 411 53 2 85 (.ref 87) (.ref 88) 89 416
noncomputable def t3:aj:=.str (sN 0x18b4ecd1c30f2ceb99b167e7863) 387
noncomputable def Zc:=oL mZ Ec (sub 1 (st 14)) .none t3 90
noncomputable def Zd:=oS 419 [gW,wg,wh]
noncomputable def Ze(P:cF):=oT Z3 (.dict ⟨[dE P qD 402 t3,dE P v9 406 (.int 50 405),dE P KP 410 (.ref 84),dE P mZ 418 (.ref 91),dE P wc 422 (.ref 92),dE P gW 424 (.ref 96),dE P wg 426 (.ref 97),dE P wh 428 (.ref 98),dE P Q2 429 .none]⟩ 5)
noncomputable def Zf:Obj:=.mk (.type Z5) none (.cls (.mk vX [.type Z4] [.ref 95,.type Z4] 94 vX false [gW,wg,wh] [] false none false)) ⟨[none,none,(some (.str vX 395)),(some (.str vX 403)),(some (.builtin Kz)),(some (.bool false))]⟩
noncomputable def Zg:=oT Z9 (.fields ⟨[.str gW 423,.ref 95,.builtin D7,.builtin D8,vi 2]⟩)
noncomputable def Zh:=oT Z9 (.fields ⟨[.str wg 425,.ref 95,.builtin D7,.builtin D8,vi 1]⟩)
noncomputable def Zi:=oT Z9 (.fields ⟨[.str wh 427,.ref 95,.builtin D7,.builtin D8,vi 0]⟩)
noncomputable def Zj:=oT Z0 (.seq ⟨[.type Z6]⟩ 0)
noncomputable def Zk(P:cF):=oT Z3 (.dict ⟨[dE P qD 439 t3,dE P v9 443 (.int 57 442),dE P wc 444 (.ref 108),dE P we 446 (.ref 111),dE P Q2 447 .none]⟩ 3)
noncomputable def Zm:Obj:=.mk (.type Z5) none (.cls (.mk vY [.type Z6] [.ref 110,.type Z6,.type Yn,.type Ym,.type Z4] 109 vY true [] [] false none false)) ⟨[(some (.ref 101)),none,(some (.str vY 432)),(some (.str vY 440)),(some (.builtin SZ.s4209523147560561109x18)),(some (.bool true))]⟩
noncomputable def Zn:=oT D9 (.fields ⟨[.str we 445,.ref 110,.builtin KG,.none]⟩)
noncomputable def Zo:=oT Z0 (.seq ⟨[.none]⟩ 0)
noncomputable def Zq:=oS 465 [f9,KQ,gW,wj]
noncomputable def Zr:=oC mZ Ed (sub 0 (st 16))
noncomputable def Zt:=oK mZ Ed 462 61 2 122 (.ref 124) (.ref 125) 126 469
noncomputable def Zu:=oL mZ Ed (sub 0 (st 16)) (.ref 121) t3 127
noncomputable def Zv:=oS 475 [f9,gW,Ef]
noncomputable def Zw:=oC zU Eg (sub 1 (st 16))
noncomputable def Zx:=oK zU Eg 472 70 2 129 (.ref 131) (.ref 132) 133 478
noncomputable def Zy:=oL zU Eg (sub 1 (st 16)) .none t3 134
noncomputable def Zz:=oS 484 [f9,gW,wj,zV,Eh,KR]
noncomputable def ZA:=oC zW Ei (sub 2 (st 16))
noncomputable def ZC:=oT Z1 (.fields ⟨[.str zW 481,.str Ei 482,.str iX 483,vi 75,vi 2,vi 0,vi 0,vi 7,.ref 136,.bool true,vi 276,.ref 137,.none,.ref 138,.ref 139,.ref 140,vi 490,vi 75,.str iX 491]⟩)
noncomputable def ZD:=oL zW Ei (sub 2 (st 16)) .none t3 141
noncomputable def ZE:=oC zX Ej (sub 3 (st 16))
noncomputable def ZF:=oK zX Ej 493 84 1 143 .none .none 145 496
noncomputable def ZG:=oL zX Ej (sub 3 (st 16)) .none t3 146
noncomputable def ZH:=oS 502 [f9,Ef,tC,gW]
noncomputable def ZI:=oC zY Ek (sub 4 (st 16))
noncomputable def ZJ:=oK zY Ek 499 92 1 148 (.ref 150) (.ref 151) 152 506
noncomputable def ZK:=oL zY Ek (sub 4 (st 16)) .none t3 153
noncomputable def ZL:=oS 512 [f9]
noncomputable def ZM:=oC zZ El (sub 5 (st 16))
noncomputable def ZN:=oK zZ El 509 103 1 155 (.ref 157) (.ref 158) 159 513
noncomputable def ZO:=oL zZ El (sub 5 (st 16)) .none t3 160
noncomputable def ZP:=oS 519 [f9]
noncomputable def ZQ:=oC z4 Em (sub 6 (st 16))
noncomputable def ZR:=oK z4 Em 516 108 1 162 (.ref 164) (.ref 165) 166 520
noncomputable def ZS:=oL z4 Em (sub 6 (st 16)) .none t3 167
noncomputable def ZT:=oS 526 [f9,KS,tC,gW,zV,KU,KV,KW]
noncomputable def ZU:=oC z5 En (sub 7 (st 16))
noncomputable def ZV:=oT Z1 (.fields ⟨[.str z5 523,.str En 524,.str iX 525,vi 111,vi 1,vi 0,vi 0,vi 7,.ref 169,.bool true,vi 276,.ref 170,.none,.ref 171,.ref 172,.ref 173,vi 534,vi 111,.str iX 535]⟩)
noncomputable def ZW:=oL z5 En (sub 7 (st 16)) .none t3 174
noncomputable def ZX:=oS 540 [f9,tC,(sN 0x6bc787a73),(sN 0x1af1e1e9cfa69),(sN 0xdd972f3),(sN 0x1a75e3c3d39b2cb937ee),gW]
noncomputable def ZY:=oC z6 Eo (sub 8 (st 16))
noncomputable def ZZ:=oK z6 Eo 537 134 1 176 (.ref 178) (.ref 179) 180 547
noncomputable def aac:=oL z6 Eo (sub 8 (st 16)) .none t3 181
noncomputable def aad:=oS 553 [f9]
noncomputable def aae:=oC z8 Ep (sub 9 (st 16))
noncomputable def aaf:=oK z8 Ep 550 163 1 183 (.ref 185) (.ref 186) 187 554
noncomputable def aag:=oL z8 Ep (sub 9 (st 16)) .none t3 188
noncomputable def aah:=oS 557 [KY,La,Lb,Lc]
noncomputable def aai(P:cF):=oT Z3 (.dict ⟨[dE P qD 457 t3,dE P v9 461 (.int 59 460),dE P mZ 471 (.ref 128),dE P zU 480 (.ref 135),dE P zW 492 (.ref 142),dE P zX 498 (.ref 147),dE P zY 508 (.ref 154),dE P zZ 515 (.ref 161),dE P z4 522 (.ref 168),dE P z5 536 (.ref 175),dE P z6 549 (.ref 182),dE P z8 556 (.ref 189),dE P wc 561 (.ref 190),dE P Eb 563 (.ref 193),dE P we 565 (.ref 194),dE P Q2 566 .none]⟩ 4)
noncomputable def aaj:Obj:=.mk (.type Z5) none (.cls (.mk vZ [.type Z4] [.ref 192,.type Z4] 191 vZ true [] [] false none false)) ⟨[none,none,(some (.str vZ 450)),(some (.str vZ 458)),(some (.builtin Kz)),(some (.bool true))]⟩
noncomputable def aak:=oT D9 (.fields ⟨[.str Eb 562,.ref 192,.builtin SZ.s6511155373996960695x17,.builtin SZ.s12411053484034534018x21]⟩)
noncomputable def aal:=oT D9 (.fields ⟨[.str we 564,.ref 192,.builtin KG,.none]⟩)
noncomputable def aam:=oS 574 [(sN 0x1cf965c5b7aee),wk,Ld,iI]
noncomputable def aan:=oC qx qx (st 18)
noncomputable def aao:=oK qx qx 571 166 1 197 (.ref 199) (.ref 200) 201 578
noncomputable def aap:=oL qx qx (st 18) .none t0 202
noncomputable def aaq:=oC qy qy (st 19)
noncomputable def aar:=oK qy qy 581 172 1 204 .none .none 206 584
noncomputable def aas:=oL qy qy (st 19) .none t0 207
noncomputable def aat:=oS 590 [Ld,(sN 0xe9bb2f3),m5]
noncomputable def aau:=oC qz qz (st 20)
noncomputable def aav:=oK qz qz 587 174 1 209 (.ref 211) (.ref 212) 213 593
noncomputable def aaw:=oL qz qz (st 20) .none t0 214
noncomputable def aax:=oS 599 [tD,Er,Es,z9,Aa,m5]
noncomputable def aay:=oC qA qA (st 21)
noncomputable def aaz:=oK qA qA 596 184 2 216 (.ref 218) (.ref 219) 220 605
noncomputable def aaA:=oL qA qA (st 21) .none t0 221
noncomputable def aaB:=oS 611 [Et,Ab,m5]
noncomputable def aaC:=oS 614 [Et]
noncomputable def aaD:=oC qB qB (st 22)
noncomputable def tF:=oK qB qB 608 197 1 223 (.ref 225) (.ref 226) 227 615
noncomputable def aaE:=oL qB qB (st 22) .none t0 228
noncomputable def aaF:=oC qC qC (st 23)
noncomputable def tG:=oK qC qC 618 205 1 230 .none .none 232 621
noncomputable def aaG:=oL qC qC (st 23) .none t0 233
noncomputable def nl:bZ:=.nil
noncomputable def kL(o:Obj):=X.KT.node (some o) nl nl
noncomputable def kO(a b:bZ):=X.KT.node none a b
noncomputable def kt(P:cF):bZ:=kN (Yp P) (kN (Yq P) (kN (Ys P) (kN oE (kN oE (kO (kN YY (kL Zt) (kL (aai P))) (kN Zf (kL ZM) (kL oE))) (kO (kO (kL oE) (kL aar)) (kN Zn (kL ZW) nl))) (kO (kN oE (kO (kL Zy) (kL aam)) (kO (kL ZR) nl)) (kN YT (kN Y9 (kL oE) (kL aaw)) (kO (kL oE) nl)))) (kN (Yy P) (kO (kN oE (kO (kL Zv) nl) (kO nl (kL aaD))) (kN YR (kO (kL ZG) (kL aat)) (kO (kL oE) nl))) (kO (kN YK (kN Y6 (kL oE) (kL aap)) (kO (kL ZT) nl)) (kN YX (kN Zc (kL oE) (kL oE)) (kO (kL aae) nl))))) (kN Yu (kN Yw (kO (kO (kO (kL oE) (kL aak)) (kN Zh (kL ZO) (kL aaB))) (kN oE (kO (kL ZE) (kL oE)) nl)) (kO (kN YJ (kN oE nl (kL aan)) (kO (kL oE) (kL tG))) (kN YW (kN Za (kL ZJ) nl) (kN Zo (kL aad) nl)))) (kN (YB P) (kO (kN YG (kN Y3 (kL Zw) (kL oE)) (kN Zj (kL oE) (kL aaE))) (kN oE (kN oE nl (kL aau)) (kO (kL ZZ) nl))) (kO (kN YM (kO (kL ZC) nl) (kN (Zk P) (kL ZU) nl)) (kO (kO (kL ZL) (kL aaz)) (kN oE (kL aag) nl)))))) (kN (Yr P) (kN Yt (kO (kO (kN oE (kN YZ (kL Zu) (kL aaj)) (kN Zg (kL ZN) nl)) (kN YN (kO nl (kL aas)) (kO (kL oE) nl))) (kO (kO (kN Y4 (kL oE) (kL oE)) (kO (kL ZS) (kL aaF))) (kN YV (kN oE (kL ZI) (kL oE)) nl))) (kN Yz (kO (kN YF (kN Y0 (kL oE) nl) (kO (kL ZP) (kL tF))) (kN YS (kN Y8 (kL oE) (kL oE)) (kO (kL ZY) nl))) (kO (kN YL (kN Y7 (kL ZA) (kL oE)) (kN oE (kL oE) nl)) (kO (kN Zd nl (kL aay)) (kN Zq (kL aaf) nl))))) (kN Yv (kN Yx (kO (kN YD (kO nl (kL aal)) (kN Zi (kL oE) (kL aaC))) (kN YQ (kO (kL ZF) nl) (kO (kL ZX) nl))) (kO (kN oE (kN Y5 (kL Zz) (kL aao)) (kO nl (kL aaG))) (kN tE (kN Zb (kL ZK) (kL aax)) (kN oE (kL oE) nl)))) (kN YC (kO (kN YH (kN oE (kL Zx) nl) (kO (kL ZQ) (kL oE))) (kO (kO (kL ZH) (kL aav)) (kO (kL aac) nl))) (kO (kN oE (kO (kL ZD) (kL aaq)) (kN Zm (kL ZV) nl)) (kO (kN (Ze P) (kL oE) (kL aaA)) (kN Zr (kL aah) nl))))))
end
def Eu(p:cF)(b c:Bool):cF:={p with followText:=λr=>@ite _ (r="special-get-raises") (S.strDecS _ _) b (@ite _ (r="comprehension-iter-twice") (S.strDecS _ _) c (p.followText r))}
def ak(w:ao)(b c:Bool):ao:=⟨w.draws,Eu w.params b c⟩
theorem aaH(w:ao):ak w (w.params.followText "special-get-raises") (w.params.followText "comprehension-iter-twice")=w:=by
 obtain⟨draws,params⟩:=w;have h:(λr=>@ite _ (r="special-get-raises") (S.strDecS _ _) (params.followText "special-get-raises") (@ite _ (r="comprehension-iter-twice") (S.strDecS _ _) (params.followText "comprehension-iter-twice") (params.followText r)))=params.followText:=by
  funext r
  split
  ·rename_i e
   rw[e]
  ·split
   ·rename_i e
    rw[e]
   ·rfl
 show(⟨draws,Eu params _ _⟩:ao)=_;unfold Eu;rw[h]
noncomputable abbrev pw:f6:=DH
def bD(w:ao)(s:aA)(R:aW→aA→Prop):VV:=⟨pw,w,kt w.params,s.gens,s.drawn,s.os,R⟩
noncomputable abbrev jk(s:aA)(l:List (Bool×Nat×Obj)):BB:=⟨s.heap,l.length,muts l⟩
noncomputable abbrev Spec(w:ao)(b:Nat)(c:bf)(pre:List (Bool×Nat×Obj))(X:Type)(res:X→aW)(upd:X→List (Nat×Obj))(new:X→List (Nat×Obj)):Prop:=
 s9 pw w (kt w.params) b c pre X res upd new
noncomputable abbrev Wide(w:ao)(b:Nat)(c:bf)(Pre:az→Prop)(X:Type)(res:X→aW)(Post:X→az→az→Prop):Prop:=
 DK pw w (kt w.params) b c Pre X res Post
noncomputable abbrev cT(w:ao)(f:Option (List Env))(b:Nat)(c:bf)(Pre:az→Prop)(X:Type)(res:X→aW)(Post:X→az→az→Prop):Prop:=
 DL pw w (kt w.params) f b c Pre X res Post
noncomputable abbrev Fin'(s:aA)(X:Type)(res:X→aW)(upd:X→List (Nat×Obj))(new:X→List (Nat×Obj))(R:aW→aA→Prop):Prop:=
 ∀x h' t',Keeps ((upd x).map (·.1)) s.heap h'→eZ h' (upd x)→eZ h' (new x)→(∀p∈new x,s.heap.objs.size≤p.1)→((new x).map (·.1)).Nodup→R (res x) ⟨h',s.gens,s.drawn,t',s.os⟩
theorem cX{w:ao}{b:Nat}{c:bf}{pre:List (Bool×Nat×Obj)}{X:Type}{res:X→aW}{upd new:X→List (Nat×Obj)}(hb:fD b 120=true)(hc:lD c=false)
  (run:∀(A:aV) (s:aA) (R:aW→aA→Prop),Fin' s X res upd new R→∃cert:Cert,Good (bD w s R) cert (jk s pre)∧fR (bD w s R) 1000000000 .base A (A.under c) (b+1) (dQ c) (dB pre) s.heap.objs.size s.toks pre.length cert=fS cert (pre.map (·.2.1)) s.heap.objs.size):Spec w b c pre X res upd new:=by
 intro A s R hA hT hP hN hK hR;refine aS (run A s R hR) λcert g e=>?_;exact zR (V:=bD w s R) (l:=pre) cert g ⟨hP,hN,hK,hT⟩ hA hb hc e
noncomputable abbrev aaI(w:ao)(b:Nat)(c:bf)(pre:List (Bool×Nat×Obj))(X:Type)(res:X→aW)(upd:X→List (Nat×Obj))(new:X→List (Nat×Obj)):Prop:=
 DM pw w (kt w.params) b c pre X res upd new
noncomputable def aq(es:List Nat)(r:Cert):Cert:=match es with
 |[]=>r
 |_::_=>.ev es r
theorem au{V:VV}{B:BB}{es:List Nat}{rest:Cert}(g:Good V rest B):Good V (aq es rest) B:=by
 cases es with
 |nil=>exact g
 |cons=>exact g
theorem ay{V:VV}{B:BB}{b:Nat}{c:bf}{pre:List (Nat×Bool×Nat×Obj)}{X:Type}{res:X→aW}{upd:X→List (Nat×Nat×Obj)}{new:X→List (Nat×Obj)}{rest:X→Nat→Nat→Cert}
  (spec:s9 V.prog V.w V.kt b c (pre.map (·.2)) X res (λx=>(upd x).map (·.2)) new) (g:∀x sz tk,Good V (rest x sz tk) B):Good V (.cut b c pre X res upd new rest) B:=⟨spec,g⟩
theorem Le{V:VV}{B:BB}{b:Nat}{c:bf}{pre:List (Nat×Bool×Nat×Obj)}{X:Type}{res:X→aW}{upd:X→List (Nat×Nat×Obj)}{new:X→List (Nat×Obj)}{rest:X→Nat→Nat→Cert}
  (spec:DM V.prog V.w V.kt b c (pre.map (·.2)) X res (λx=>(upd x).map (·.2)) new) (g:∀x sz tk,Good V (rest x sz tk) B):Good V (.ji b c pre X res upd new rest) B:=⟨spec,g⟩
theorem cC{V:VV}{B:BB}{b:Nat}{c:bf}{pre:List (Nat×Bool×Nat×Obj)}{X:Type}{res:X→aW}{led:X→List (Bool×Nat×Obj)}{rest:X→az→Nat→Nat→Cert}{Pre:az→Prop}{Post:X→az→az→Prop}
  (spec:DK V.prog V.w V.kt b c Pre X res Post) (hpre:∀h,jh V.kt B pre h→Pre h) (qm:∀x h h',jh V.kt B pre h→aR V.kt h'→Post x h h'→Lies V.kt h' (led x))
  (g:∀x h h' sz tk,jh V.kt B pre h→aR V.kt h'→Post x h h'→Good V (rest x h' sz tk) ⟨h',(led x).length,muts (led x)⟩):Good V (.wide b c pre X res led rest) B:=⟨Pre,Post,spec,hpre,qm,g⟩
theorem jl{V:VV}{B:BB}{f:Option (List Env)}{b:Nat}{c:bf}{pre:List (Nat×Bool×Nat×Obj)}{X:Type}{res:X→aW}{led:X→List (Bool×Nat×Obj)}{rest:X→az→Nat→Nat→Cert}{Pre:az→Prop}{Post:X→az→az→Prop}
  (spec:DL V.prog V.w V.kt f b c Pre X res Post) (hpre:∀h,jh V.kt B pre h→Pre h) (qm:∀x h h',jh V.kt B pre h→aR V.kt h'→Post x h h'→Lies V.kt h' (led x))
  (g:∀x h h' sz tk,jh V.kt B pre h→aR V.kt h'→Post x h h'→Good V (rest x h' sz tk) ⟨h',(led x).length,muts (led x)⟩):Good V (.eH f b c pre X res led rest) B:=⟨Pre,Post,spec,hpre,qm,g⟩
theorem bu{V:VV}{B:BB}{r:aW}{upd new:List (Nat×Nat×Obj)}(g:∀hp t,Keeps B.U B.h₀ hp→aR V.kt hp→eZ hp (upd.map (·.2))→eZ hp (new.map (·.2))→(∀p∈new,B.h₀.objs.size≤p.2.1)→(new.map (·.2.1)).Nodup→V.R₀ r ⟨hp,V.gens,V.d,t,V.os⟩):Good V (.done r upd new) B:=g
noncomputable def dec(n:Nat):List Nat:=Nat.rec (motive:=λaf=>Nat→List Nat) (λaf=>[]) (λaf ih n=>match sq n 0 with
 |true=>[]
 |false=>(n%64-1)::ih (n/64)) 1000000 n
theorem cE{w:ao}{s:aA}{B:BB}{R:aW→aA→Prop}{X:Type}{res:X→aW}{upd new:X→List (Nat×Obj)}(hR:Fin' s X res upd new R)(x:X){ui ni:List (Nat×Nat×Obj)}
  (hu:ui.map (·.2)=upd x) (hn:ni.map (·.2)=new x) (hh:B.h₀=s.heap) (hU:B.U=(upd x).map (·.1)):Good (bD w s R) (.done (res x) ui ni) B:=
 bu λhp t k1 af k2 k3 k4 k5=>hR x hp t (hU▸hh▸k1) (hu▸k2) (hn▸k3)
  (λp hp=>by
   rw[←hn]at hp;refine aS (aN.mp hp) λq hq aG=>?_;subst aG;exact hh▸k4 q hq)
  (by
   rw[←hn,bQ];exact k5)
section
universe u
variable{α:Type u}{β σ:Type}{w0 w:ao}{fb fc:Bool}
def lB(w0:ao)(c:Bool)(F:ao→α):α×α:=(F (ak w0 true c),F (ak w0 false c))
def rB(w0:ao)(c:Bool)(F:ao→α):α×α:=(F (ak w0 true c),F (ak w0 false c))
theorem cO(hw:ak w0 fb fc=w){F G:ao→α}(h:lB w0 fc F=rB w0 fc G):F w=G w:=by
 subst hw;cases fb
 ·exact congrArg (·.2) h
 ·exact congrArg (·.1) h
def lV(w0:ao)(c:Bool)(F:ao→σ→α)(v:σ):α×α:=(F (ak w0 true c) v,F (ak w0 false c) v)
def rV(w0:ao)(c:Bool)(F:ao→σ→α)(v:σ):α×α:=(F (ak w0 true c) v,F (ak w0 false c) v)
theorem Ew(hw:ak w0 fb fc=w){c v:σ}(hv:c=v){F G:ao→σ→α}(h:lV w0 fc F c=rV w0 fc G c):F w v=G w v:=by
 subst hw hv;cases fb
 ·exact congrArg (·.2) h
 ·exact congrArg (·.1) h
def lO(w0:ao)(c:Bool)(F:ao→Option β→α):(α×(β→α))×α×(β→α):=((F (ak w0 true c) none,λx=>F (ak w0 true c) (some x)),F (ak w0 false c) none,λx=>F (ak w0 false c) (some x))
def rO(w0:ao)(c:Bool)(F:ao→Option β→α):(α×(β→α))×α×(β→α):=((F (ak w0 true c) none,λx=>F (ak w0 true c) (some x)),F (ak w0 false c) none,λx=>F (ak w0 false c) (some x))
theorem jC(hw:ak w0 fb fc=w)(fr:Option β){F G:ao→Option β→α}(h:lO w0 fc F=rO w0 fc G):F w fr=G w fr:=by
 subst hw;cases fb<;>cases fr
 ·exact congrArg (·.2.1) h
 ·exact congrFun (congrArg (·.2.2) h) _
 ·exact congrArg (·.1.1) h
 ·exact congrFun (congrArg (·.1.2) h) _
theorem tH(hw:ak w0 fb fc=w){c v:σ}(hv:c=v)(fr:Option β){F G:ao→σ→Option β→α}(h:lO w0 fc (λw=>F w c)=rO w0 fc (λw=>G w c)):F w v fr=G w v fr:=by
 subst hv;exact jC hw fr h
def lC(w0:ao)(F:ao→Bool→α):(α×α)×α×α:=(lB w0 true (F · true),lB w0 false (F · false))
def rC(w0:ao)(F:ao→Bool→α):(α×α)×α×α:=(rB w0 true (F · true),rB w0 false (F · false))
theorem tK(hw:ak w0 fb fc=w){F G:ao→Bool→α}(h:lC w0 F=rC w0 G):F w fc=G w fc:=by
 cases fc
 ·exact cO hw (F:=(F · false)) (G:=(G · false)) (congrArg (·.2) h)
 ·exact cO hw (F:=(F · true)) (G:=(G · true)) (congrArg (·.1) h)
noncomputable def lF(F:Bool→α):α×α:=(F true,F false)
noncomputable def rF(F:Bool→α):α×α:=(F true,F false)
theorem ck{F G:Bool→α}(h:lF F=rF G):F fb=G fb:=by
 cases fb
 ·exact congrArg (·.2) h
 ·exact congrArg (·.1) h
noncomputable def lP(F:Bool→Option β→α):(α×(β→α))×α×(β→α):=((F true none,λx=>F true (some x)),F false none,λx=>F false (some x))
noncomputable def rP(F:Bool→Option β→α):(α×(β→α))×α×(β→α):=((F true none,λx=>F true (some x)),F false none,λx=>F false (some x))
theorem iw(fr:Option β){F G:Bool→Option β→α}(h:lP F=rP G):F fb fr=G fb fr:=by
 cases fb<;>cases fr
 ·exact congrArg (·.2.1) h
 ·exact congrFun (congrArg (·.2.2) h) _
 ·exact congrArg (·.1.1) h
 ·exact congrFun (congrArg (·.1.2) h) _
noncomputable def lQ(F:Option β→α):α×(β→α):=(F none,λx=>F (some x))
noncomputable def rQ(F:Option β→α):α×(β→α):=(F none,λx=>F (some x))
theorem aaJ(fr:Option β){F G:Option β→α}(h:lQ F=rQ G):F fr=G fr:=by
 cases fr
 ·exact congrArg (·.1) h
 ·exact congrFun (congrArg (·.2) h) _
end
noncomputable def ks(s:Str)(t:Nat):aj:=.str s t
abbrev rh:Int→Int:=ZFast.zw12210062019545310541
def de(w:ao)(s:Str)(t:Nat)(v:aj):bx:=⟨rh (w.params.strHash s.cps),.str s t,v⟩
noncomputable def wm:Obj:={cls:=.type "dict",data:=.dict #[]}
noncomputable def ai(xs:List aj)(ep:Nat):Obj:=⟨.type "list",none,.seq ⟨xs⟩ ep,#[]⟩
noncomputable def aK(xs:List aj):Obj:=⟨.type "tuple",none,.seq ⟨xs⟩ 0,#[]⟩
noncomputable def cu(es:List bx)(ep:Nat):Obj:=⟨.type "dict",none,.dict ⟨es⟩ ep,#[]⟩
noncomputable def eK(d:Nat)(v:aj)(n:Int)(tk:Nat)(sl:Nat):Obj:=⟨.ref 95,some d,.plain,#[some v,some (.int n tk),some (.ref sl)]⟩
noncomputable def bY(d:Nat):Obj:=⟨.ref 192,some d,.plain,#[]⟩
def Ex(w:ao)(t1 t2 t3 t4:Nat)(D:Nat)(ready:aj)(np nf:Int)(u3 u4:Nat):Obj:=
 cu [de w La t1 (.ref D),de w Lc t2 ready,de w Lb t3 (.int np u3),de w KY t4 (.int nf u4)] 4
noncomputable def fj(x:Int×Nat×Nat):bx:=⟨hashInt x.1,.int x.1 x.2.1,.ref x.2.2⟩
noncomputable def bU(l:List (Int×Nat×Nat))(ep:Nat):Obj:=cu (l.map fj) ep
theorem Lf(l:List (Int×Nat×Nat)):IntKeys ⟨l.map fj⟩:=λe he=>by
 refine aS (aN.mp (by simpa using he:e∈l.map fj)) λx af aG=>?_;subst aG
 exact⟨_,_,rfl,rfl⟩
theorem Lg(l:List (Int×Nat×Nat))(n:Int):findBy ow ⟨l.map fj⟩ n=(l.find? (λx=>x.1==n)).map λx=>.ref x.2.2:=by
 delta findBy;rw[←Dn];show Option.map _ (List.find? _ (l.map fj))=_;induction l with
 |nil=>rfl
 |cons x r ih=>
  rw[bP,yN,yN];show Option.map _ (match x.1==n with|true=>_|false=>_)=_
  cases x.1==n with
  |true=>rfl
  |false=>exact ih
theorem Ey{h:az}{D:Nat}{l:List (Int×Nat×Nat)}{ep:Nat}(hD:h.get? D=some (bU l ep)):h.IntMap D λk=>findBy ow ⟨l.map fj⟩ k:=
 ⟨_,_,_,hD,rfl,rfl,Lf l,λaf=>rfl⟩
theorem cL{h:az}{a:Nat}{o:Obj}{m:Bool}{r:List (Bool×Nat×Obj)}(H:eZ h (((m,a,o)::r).map (·.2))):h.get? a=some o:=H (a,o) (.head _)
noncomputable abbrev Ez:String:=PySem.W.SZ.s13624992175810213990x8
noncomputable abbrev Lh:String:=PySem.W.SZ.s5658353481640781935x16
noncomputable abbrev Li:String:=PySem.W.SZ.s11797481509799174649x16
noncomputable abbrev Lj:String:=PySem.W.SZ.s2931692696383300276x11
theorem fG{s:aA}{X:Type}{res:X→aW}{R:aW→aA→Prop}(hR:Fin' s X res (λaf=>[]) (λaf=>[]) R)(x:X)(t:Nat):R (res x) ⟨s.heap,s.gens,s.drawn,t,s.os⟩:=
 hR x s.heap t (Keeps.refl _ _) (λaf h=>nomatch h) (λaf h=>nomatch h) (λaf h=>nomatch h) .nil
theorem m6{s:aA}{X:Type}{res:X→aW}{R:aW→aA→Prop}{a:Nat}{o o':Obj}{f:Obj→Obj}(hR:Fin' s X res (λaf=>[(a,o')]) (λaf=>[]) R)(x:X)(t:Nat)(ho:s.heap.get? a=some o)(hf:f o=o')(hl:o'.isFreed=false):R (res x) ⟨s.heap.update a f,s.gens,s.drawn,t,s.os⟩:=by
 refine hR x _ t (Keeps.upd _ (.head _)) (λp hp=>?_) (λaf h=>nomatch h) (λaf h=>nomatch h) .nil;apply cV hp;subst hf;exact iW f ho hl
theorem EA(w:ao)(D:Nat)(l:List (Int×Nat×Nat))(ep:Nat)(n:Int)(t:Nat):Spec w 119 (.builtin Ez ⟨[.ref D,.int n t],[]⟩) [(false,D,bU l ep)] Unit
  (λaf=>.ok (.ret (((l.find? (λx=>x.1==n)).map λx=>bg x.2.2).getD .none))) (λaf=>[]) (λaf=>[]):=by
 intro A s R hA hT hP _ _ hR;rw[show Ez="dict.get" from PySem.W.SZ.e13624992175810213990x8.symm];refine cN F.entry_dict_get ?_;show wpAny _ _ (dictGet D (.int n t)>>=_) _ _ s;refine av (wpAny_dictGet_int (Ey (cL hP)) ?_);have fin:=fG hR () (s.toks+1);rw[Lg];cases q:l.find? (λx=>x.1==n)with
 |none=>
  rw[q]at fin;show wpAny _ _ (Builtin.Dict.missed D (.int n t)>>=_) _ _ _;exact av (wpAny_missed_int (aJ fin))
 |some x=>
  rw[q]at fin;exact aJ fin
theorem wo(w:ao)(D:Nat)(l:List (Int×Nat×Nat))(ep:Nat)(n:Int)(t:Nat)(x:Int×Nat×Nat)(hx:l.find? (λx=>x.1==n)=some x):Spec w 119 (.builtin Lh ⟨[.ref D,.int n t],[]⟩) [(false,D,bU l ep)] Unit
  (λaf=>.ok (.ret (.ref x.2.2))) (λaf=>[]) (λaf=>[]):=by
 intro A s R hA hT hP _ _ hR;rw[show Lh="dict.__getitem__" from PySem.W.SZ.e5658353481640781935x16.symm];refine cN F.entry_dict_getitem ?_;show wpAny _ _ (dictGet D (.int n t)>>=_) _ _ s;refine av (wpAny_dictGet_int (Ey (cL hP)) ?_);rw[Lg,hx];exact aJ (fG hR () (s.toks+1))
theorem aaK(l:List (Int×Nat×Nat))(n:Int)(h:l.find? (λx=>x.1==n)=none):(⟨l.map fj⟩:Array bx).findIdx? (λe=>ow n e.key)=none:=by
 rw[Array.findIdx?_eq_none_iff];intro e he;refine aS (aN.mp (by simpa using he:e∈l.map fj)) λx hx aG=>?_;subst aG
 show(x.1==n)=false;simpa using(yI.mp h x hx)
theorem aaL(w:ao)(D:Nat)(l:List (Int×Nat×Nat))(ep:Nat)(n:Int)(t i:Nat)(hn:l.find? (λx=>x.1==n)=none)(hl:l.length≤1000):Spec w 119 (.builtin Li ⟨[.ref D,.int n t,.ref i],[]⟩) [(true,D,bU l ep)] Unit
  (λaf=>.ok (.ret .none)) (λaf=>[(D,bU (l++[(n,t,i)]) (ep+1))]) (λaf=>[]):=by
 intro A s R hA hT hP _ _ hR;have hd:=cL hP;rw[show Li="dict.__setitem__" from PySem.W.SZ.e11797481509799174649x16.symm];refine cN F.entry_dict_setitem ?_;show wpAny _ _ (Builtin.Dict.notOrdered "__setitem__" ⟨[.ref D,.int n t,.ref i],[]⟩>>=_) _ _ s;refine av (wpAny_notOrdered_dict ((Ey hd).typeIs) ?_);show wpAny _ _ (dictSet D (.int n t) (.ref i)>>=_) _ _ s;refine av ?_;delta dictSet;refine jX (av (wpAny_pyHash_int ?_));delta dictSetHashed;refine jX (av (wpAny_dictFind_int (s:={s with toks:=s.toks+1}) hd rfl (Lf l) ?_))
 rw[aaK l n hn];refine av (lA (wpAny_updateDictKeys (hz:=by rw[fQ];exact pS (by simpa using hl)) (s:={s with toks:=s.toks+1}) hd rfl ?_))
 refine aJ (m6 hR () (s.toks+1) hd ?_ rfl);show Obj.mapDictKeys _ (cu (l.map fj) ep)=cu ((l++[(n,t,i)]).map fj) (ep+1);delta cu Obj.mapDictKeys;simp[fj]
theorem iJ(w:ao)(a:Nat)(xs:List aj)(ep:Nat)(v:aj)(hl:xs.length≤1000):Spec w 119 (.builtin Lj ⟨[.ref a,v],[]⟩) [(true,a,ai xs ep)] Unit
  (λaf=>.ok (.ret .none)) (λaf=>[(a,ai (xs++[v]) (ep+1))]) (λaf=>[]):=by
 intro A s R hA hT hP _ _ hR;have hd:=cL hP;rw[show Lj="list.append" from PySem.W.SZ.e2931692696383300276x11.symm];refine cN F.entry_list_append ?_;show wpAny _ _ (J3 (.ref a) _>>=_) _ _ s;refine av (sW hd rfl ?_ (hsz2:=by rw[Dp,fQ];exact RX (by simpa using hl)))
 refine aJ (m6 hR () _ hd ?_ rfl);show cz _ (ai xs ep)=ai (xs++[v]) (ep+1);delta ai cz;simp
noncomputable def aC(T:String)(src:aj)(i:Nat):Obj:=⟨.type T,none,.fields #[src,.int i 0],#[]⟩
noncomputable def gf(t:Nat):Obj:=⟨.type "StopIteration",none,.fields #[.ref t,.none,.none,.none,.bool false,.none],#[]⟩
theorem wu{s:aA}{X:Type}{res:X→aW}{R:aW→aA→Prop}{a:Nat}{o o' o1 o2:Obj}{f:Obj→Obj}(x:X)(hR:Fin' s X res (λaf=>[(a,o')]) (λaf=>[(s.heap.objs.size,o1),(s.heap.objs.size+1,o2)]) R)(t:Nat)(ho:s.heap.get? a=some o)(hf:f o=o')(hl:o'.isFreed=false)(h1:o1.isFreed=false)(h2:o2.isFreed=false):
  R (res x) ⟨((s.heap.update a f).push o1).push o2,s.gens,s.drawn,t,s.os⟩:=by
 have hu:(s.heap.update a f).get? a=some o':=by
  subst hf;exact iW f ho hl
 have hz:(s.heap.update a f).objs.size=s.heap.objs.size:=jA ..;refine hR x _ t (((Keeps.upd _ (.head _)).trans (Keeps.push _ _ _)).trans (Keeps.push _ _ _)) (λp hp=>?_) (λp hp=>?_) (λp hp=>?_) ?_
 ·apply cV hp;exact gV _ (gV _ hu)
 ·rcases aM.mp hp with rfl|hp
  ·have:=jg (s.heap.update a f) h1;rw[hz]at this;exact gV _ this
  ·apply cV hp;have:=jg ((s.heap.update a f).push o1) h2;rw[(by rw[iH,hz]:((s.heap.update a f).push o1).objs.size=s.heap.objs.size+1)]at this
   exact this
 ·rcases aM.mp hp with rfl|hp
  ·exact bk _
  ·apply cV hp;exact jU _
 ·simp
theorem EB(w:ao)(it src i:Nat)(vs:List aj)(x:aj)(hx:vs[i]?=some x):
  Spec w 119 (.builtin "tuple_iterator.__next__" ⟨[.ref it],[]⟩) [(false,src,aK vs),(true,it,aC "tuple_iterator" (.ref src) i)] Unit
  (λaf=>.ok (.ret x)) (λaf=>[(it,aC "tuple_iterator" (.ref src) (i+1))]) (λaf=>[]):=by
 intro A s R hA hT hP _ _ hR;have ho:s.heap.get? it=some (aC "tuple_iterator" (.ref src) i):=hP (it,_) (.tail _ (.head _));refine cN entry_tupleiter_next ?_;show wpAny _ _ (field (.ref it) 0>>=_) _ _ s;refine av (gM ho rfl (x:=.ref src) rfl ?_);show wpAny _ _ (if(bg src==dz)=true then _ else _) _ _ s
 refine c9 (decide_eq_false (show ¬((bg src==dz)=true)from mJ)) ?_;show wpAny _ _ (field (.ref it) 1>>=_) _ _ s;refine av (gM ho rfl (x:=.int i 0) rfl ?_);show wpAny _ _ (qe (.ref src)>>=_) _ _ s;refine av (oi (hP (src,_) (.head _)) rfl ?_);simp only[(by simpa using hx:(⟨vs⟩:Array aj)[(i:Int).toNat]?=some x)]
 exact av (kG ho rfl (bk _) (aJ (m6 hR () _ ho rfl rfl)))
theorem EC(w:ao)(it src i:Nat)(vs:List aj)(hx:vs[i]?=none):
  Spec w 110 (.builtin "tuple_iterator.__next__" ⟨[.ref it],[]⟩) [(false,src,aK vs),(true,it,aC "tuple_iterator" (.ref src) i)] Nat
  (λx=>.error (.ref (x+1))) (λaf=>[(it,aC "tuple_iterator" .none i)]) (λx=>[(x,aK []),(x+1,gf x)]):=by
 intro A s R hA hT hP _ _ hR;have ho:s.heap.get? it=some (aC "tuple_iterator" (.ref src) i):=hP (it,_) (.tail _ (.head _));refine cN entry_tupleiter_next ?_;show wpAny _ _ (field (.ref it) 0>>=_) _ _ s;refine av (gM ho rfl (x:=.ref src) rfl ?_);show wpAny _ _ (if(bg src==dz)=true then _ else _) _ _ s
 refine c9 (decide_eq_false (show ¬((bg src==dz)=true)from mJ)) ?_;show wpAny _ _ (field (.ref it) 1>>=_) _ _ s;refine av (gM ho rfl (x:=.int i 0) rfl ?_);show wpAny _ _ (qe (.ref src)>>=_) _ _ s;refine av (oi (hP (src,_) (.head _)) rfl ?_);simp only[(by simpa using hx:(⟨vs⟩:Array aj)[(i:Int).toNat]?=none)]
 refine av (lA (av (kG ho rfl (jT _) ?_)));show wpAny _ _ (j3 (.type "StopIteration") []>>=_) _ _ _;refine av ?_;simp only[j3,newTuple];refine av (gu ?_ (by size_fits))
 refine av (m:=jW _ _) (kH (a:=dz) (by first|rfl|((delta jW;dsimp only);rfl)) ?_)
 refine gu ?_ (by size_fits)
 (delta sR;dsimp only)
 refine av (sH ?_);rw[show(A.under _).handled=none from hA.hd (bk _)];refine av (aJ (sJ ?_));have hz:(s.heap.update it (eG (·.setIfInBounds 0 .none))).objs.size=s.heap.objs.size:=jA ..;show R (.error (.ref ((s.heap.update it (eG (·.setIfInBounds 0 .none))).push _).objs.size)) _;rw[(λo=>by rw[iH,hz]:∀o,((s.heap.update it (eG (·.setIfInBounds 0 .none))).push o).objs.size=s.heap.objs.size+1)]
 rw[hz];exact(wu (o1:=aK []) (o2:=gf s.heap.objs.size) (f:=eG (·.setIfInBounds 0 .none)) s.heap.objs.size (λx h' t' k1 k2 k3 k4 k5=>hR s.heap.objs.size h' t' k1 k2 k3 k4 k5) s.toks ho rfl rfl rfl rfl)
theorem lG(w:ao)(it src i:Nat)(vs:List aj)(ep:Nat)(x:aj)(hx:vs[i]?=some x):
  Spec w 119 (.builtin "list_iterator.__next__" ⟨[.ref it],[]⟩) [(false,src,ai vs ep),(true,it,aC "list_iterator" (.ref src) i)] Unit
  (λaf=>.ok (.ret x)) (λaf=>[(it,aC "list_iterator" (.ref src) (i+1))]) (λaf=>[]):=by
 intro A s R hA hT hP _ _ hR;have ho:s.heap.get? it=some (aC "list_iterator" (.ref src) i):=hP (it,_) (.tail _ (.head _));refine cN entry_listiter_next ?_;show wpAny _ _ (field (.ref it) 0>>=_) _ _ s;refine av (gM ho rfl (x:=.ref src) rfl ?_);show wpAny _ _ (if(bg src==dz)=true then _ else _) _ _ s
 refine c9 (decide_eq_false (show ¬((bg src==dz)=true)from mJ)) ?_;show wpAny _ _ (field (.ref it) 1>>=_) _ _ s;refine av (gM ho rfl (x:=.int i 0) rfl ?_);show wpAny _ _ (qe (.ref src)>>=_) _ _ s;refine av (oi (hP (src,_) (.head _)) rfl ?_);simp only[(by simpa using hx:(⟨vs⟩:Array aj)[(i:Int).toNat]?=some x)]
 exact av (kG ho rfl (bk _) (aJ (m6 hR () _ ho rfl rfl)))
theorem oQ(w:ao)(it src i:Nat)(vs:List aj)(ep:Nat)(hx:vs[i]?=none):
  Spec w 110 (.builtin "list_iterator.__next__" ⟨[.ref it],[]⟩) [(false,src,ai vs ep),(true,it,aC "list_iterator" (.ref src) i)] Nat
  (λx=>.error (.ref (x+1))) (λaf=>[(it,aC "list_iterator" .none i)]) (λx=>[(x,aK []),(x+1,gf x)]):=by
 intro A s R hA hT hP _ _ hR;have ho:s.heap.get? it=some (aC "list_iterator" (.ref src) i):=hP (it,_) (.tail _ (.head _));refine cN entry_listiter_next ?_;show wpAny _ _ (field (.ref it) 0>>=_) _ _ s;refine av (gM ho rfl (x:=.ref src) rfl ?_);show wpAny _ _ (if(bg src==dz)=true then _ else _) _ _ s
 refine c9 (decide_eq_false (show ¬((bg src==dz)=true)from mJ)) ?_;show wpAny _ _ (field (.ref it) 1>>=_) _ _ s;refine av (gM ho rfl (x:=.int i 0) rfl ?_);show wpAny _ _ (qe (.ref src)>>=_) _ _ s;refine av (oi (hP (src,_) (.head _)) rfl ?_);simp only[(by simpa using hx:(⟨vs⟩:Array aj)[(i:Int).toNat]?=none)]
 refine av (lA (av (kG ho rfl (jT _) ?_)));show wpAny _ _ (j3 (.type "StopIteration") []>>=_) _ _ _;refine av ?_;simp only[j3,newTuple];refine av (gu ?_ (by size_fits))
 refine av (m:=jW _ _) (kH (a:=dz) (by first|rfl|((delta jW;dsimp only);rfl)) ?_)
 refine gu ?_ (by size_fits)
 (delta sR;dsimp only)
 refine av (sH ?_);rw[show(A.under _).handled=none from hA.hd (bk _)];refine av (aJ (sJ ?_));have hz:(s.heap.update it (eG (·.setIfInBounds 0 .none))).objs.size=s.heap.objs.size:=jA ..;show R (.error (.ref ((s.heap.update it (eG (·.setIfInBounds 0 .none))).push _).objs.size)) _;rw[(λo=>by rw[iH,hz]:∀o,((s.heap.update it (eG (·.setIfInBounds 0 .none))).push o).objs.size=s.heap.objs.size+1)]
 rw[hz];exact(wu (o1:=aK []) (o2:=gf s.heap.objs.size) (f:=eG (·.setIfInBounds 0 .none)) s.heap.objs.size (λx h' t' k1 k2 k3 k4 k5=>hR s.heap.objs.size h' t' k1 k2 k3 k4 k5) s.toks ho rfl rfl rfl rfl)
theorem wz(w:ao)(a b:Int)(t u:Nat)(r:Bool)(h:(a==b)=r):Spec w 119 (.builtin "int.__eq__" ⟨[.int a t,.int b u],[]⟩) [] Unit (λaf=>.ok (.ret (.bool r))) (λaf=>[]) (λaf=>[]):=by
 intro A s R hA hT hP _ _ hR;refine cN F.entry_int_eq ?_;show wpAny _ _ (ret (.bool (a==b))) _ _ s;rw[h];exact aJ (fG hR () s.toks)
theorem ED(w:ao)(a b:Int)(t u:Nat)(r:Bool)(h:decide (a<b)=r):Spec w 119 (.builtin "int.__lt__" ⟨[.int a t,.int b u],[]⟩) [] Unit (λaf=>.ok (.ret (.bool r))) (λaf=>[]) (λaf=>[]):=by
 intro A s R hA hT hP _ _ hR;refine cN F.entry_int_lt ?_;show wpAny _ _ (ret (.bool (decide (a<b)))) _ _ s;rw[h];exact aJ (fG hR () s.toks)
theorem aaM(w:ao)(n:Int)(t:Nat):Spec w 110 (.call (.ref 95) ⟨[.int n t],[]⟩) [] (Nat×Nat) (λx=>.ok (.ret (.ref (x.1+1)))) (λaf=>[])
  (λx=>[(x.1,wm),(x.1+1,eK x.1 (.int n t) 0 (x.2+3) (x.1+3)),(x.1+3,ai [] 0)]):=by
 refine cX rfl rfl λA s R hR=>?_;refine⟨aq (dec 1522424954037407243900369443674164852897184953551802395157779774132409797741726674166781836513665341520361888955500876436076125557607941445414124667427864040128921871455875450488801404199565105502860474253514549734842415626588225) (.done _ [] [(0,s.heap.objs.size,wm),(1,s.heap.objs.size+1,eK s.heap.objs.size (.int n t) 0 (s.toks+3) (s.heap.objs.size+3)),(3,s.heap.objs.size+3,ai [] 0)]),au (cE hR (s.heap.objs.size,s.toks) rfl rfl rfl rfl),?_⟩;kernel_rfl!
theorem aaN(w:ao)(S d D t1 t2 t3 t4:Nat)(ready:aj)(np nf:Int)(u3 u4:Nat)(l:List (Int×Nat×Nat))(ep:Nat)(n:Int)(t:Nat)(x:Int×Nat×Nat)(hx:l.find? (λx=>x.1==n)=some x):
  Spec w 108 (.call (.ref 135) ⟨[.ref S,.int n t],[]⟩) [(false,S,bY d),(false,d,Ex w t1 t2 t3 t4 D ready np nf u3 u4),(false,D,bU l ep)] Unit (λaf=>.ok (.ret (.ref x.2.2))) (λaf=>[]) (λaf=>[]):=by
 refine cX rfl rfl λA s R hR=>?_;have sp:=EA w D l ep n t;rw[hx]at sp;refine⟨aq (dec 465396021447135191890420331188528458846160035905) (.cut 119 _ [(2,false,D,bU l ep)] Unit _ (λaf=>[]) (λaf=>[]) λaf af af=>aq (dec 24966) (.done _ [] [])),au (ay sp λaf af af=>au (cE hR () rfl rfl rfl rfl)),?_⟩;kernel_rfl!
theorem aaO(w:ao)(S d D t1 t2 t3 t4:Nat)(ready:aj)(np nf:Int)(u3 u4:Nat)(l:List (Int×Nat×Nat))(ep:Nat)(n:Int)(t:Nat)(hx:l.find? (λx=>x.1==n)=none)(hl:l.length≤1000):
  Spec w 108 (.call (.ref 135) ⟨[.ref S,.int n t],[]⟩) [(false,S,bY d),(false,d,Ex w t1 t2 t3 t4 D ready np nf u3 u4),(true,D,bU l ep)] (Nat×Nat) (λx=>.ok (.ret (.ref (x.1+1)))) (λx=>[(D,bU (l++[(n,t,x.1+1)]) (ep+1))])
   (λx=>[(x.1,wm),(x.1+1,eK x.1 (.int n t) 0 (x.2+3) (x.1+3)),(x.1+3,ai [] 0)]):=by
 refine cX rfl rfl λA s R hR=>?_;have sp:=EA w D l ep n t;rw[hx]at sp;refine⟨aq (dec 465396021447135191890420331188528458846160035905) (.cut 119 _ [(2,false,D,bU l ep)] Unit _ (λaf=>[]) (λaf=>[]) λaf af af=>aq (dec 1092096390) (.cut 110 _ [] (Nat×Nat) _ (λaf=>[]) _ λx af af=>aq (dec 402429059188813183047702941894) (.cut 119 _ [(2,true,D,bU l ep)] Unit _ (λaf=>[(2,D,bU (l++[(n,t,x.1+1)]) (ep+1))]) (λaf=>[]) λaf af af=>aq (dec 24966)
  (.done _ [(2,D,bU (l++[(n,t,x.1+1)]) (ep+1))] [(4,x.1,wm),(5,x.1+1,eK x.1 (.int n t) 0 (x.2+3) (x.1+3)),(6,x.1+3,ai [] 0)])))),
  au (ay sp λaf af af=>au (ay (aaM w n t) λx af af=>au (ay (aaL w D l ep n t (x.1+1) hx hl) λaf af af=>au (cE hR x rfl rfl rfl rfl)))),?_⟩
 kernel_rfl!
noncomputable abbrev Led:=List (Bool×Nat×Obj)
noncomputable def adr(l:Led):List Nat:=l.map (·.2.1)
theorem Keeps.ext{h h':az}{U:List Nat}(k:Keeps [] h h'):Keeps U h h':=k.mono λaf x=>nomatch x
theorem Lies.turn{kt:bZ}{h h':az}{l l':Led}{U:List Nat}(H:Lies kt h l)(T:aR kt h')(K:Keeps U h h')(hl:l'.map (λp=>(p.1,p.2.1))=l.map (λp=>(p.1,p.2.1)))
  (hp:∀p∈l',h'.get? p.2.1=some p.2.2∨(p∈l∧p.2.1∉U)):Lies kt h' l':=by
 have e1:l'.map (·.2.1)=l.map (·.2.1):=by
  have:=congrArg (List.map (·.2)) hl;rw[bQ,bQ]at this;exact this
 refine⟨λq hq=>?_,by rw[e1];exact H.nd,λp gv hm=>?_,T⟩
 ·refine aS (aN.mp hq) λp gv aG=>?_;subst aG;rcases hp p gv with e|⟨e,n⟩
  ·exact e
  ·exact K.2 _ _ n (H.has p.2 (c7 e))
 ·refine aS (aN.mp (hl▸c7 (f:=λp:Bool×Nat×Obj=>(p.1,p.2.1)) gv)) λq hq e=>?_;have e2:q.2.1=p.2.1:=congrArg (λx:Bool×Nat=>x.2) e;rw[←e2];exact H.off q hq ((congrArg (λx:Bool×Nat=>x.1) e).trans hm)
theorem Lies.keep{kt:bZ}{h h':az}{l:Led}{U:List Nat}(H:Lies kt h l)(T:aR kt h')(K:Keeps U h h')(hU:∀p∈l,p.2.1∉U):Lies kt h' l:=
 H.turn T K rfl λp hp=>.inr ⟨hp,hU p hp⟩
theorem Lies.ext{kt:bZ}{h h':az}{l:Led}(H:Lies kt h l)(T:aR kt h')(K:Keeps [] h h'):Lies kt h' l:=H.keep T K λaf af h=>nomatch h
theorem Lies.get{kt:bZ}{h:az}{l:Led}(H:Lies kt h l){p:Bool×Nat×Obj}(hp:p∈l):h.get? p.2.1=some p.2.2:=H.has p.2 (c7 hp)
theorem Lies.lt{kt:bZ}{h:az}{l:Led}(H:Lies kt h l){a:Nat}(ha:a∈adr l):a<h.objs.size:=by
 refine aS (aN.mp ha) λp hp aG=>?_;subst aG;exact cK (H.get hp)
theorem Lies.fresh{kt:bZ}{h h':az}{n:Led}(T:aR kt h)(T':aR kt h')(hn:eZ h' (n.map (·.2)))(hf:∀p∈n,h.objs.size≤p.2.1)(hd:(adr n).Nodup):Lies kt h' n:=
 ⟨hn,hd,λp hp af=>by
  cases q:kt.get p.2.1 with
  |none=>rfl
  |some o=>
   have:=cK (T _ o q);have:=hf p hp;omega,T'⟩
theorem Lies.part{kt:bZ}{h:az}{l l':Led}(H:Lies kt h l)(hs:∀p∈l',p∈l∨(p.1=false∧∃m,(m,p.2)∈l))(hd:(adr l').Sublist (adr l)):Lies kt h l':=by
 refine⟨λq hq=>?_,H.nd.sublist hd,λp hp hm=>?_,H.top⟩
 ·refine aS (aN.mp hq) λp hp aG=>?_;subst aG;rcases hs p hp with e|⟨_,m,e⟩
  ·exact H.get e
  ·exact H.get (p:=(m,p.2)) e
 ·rcases hs p hp with e|⟨e,_⟩
  ·exact H.off p e hm
  ·rw[e]at hm;cases hm
theorem Lies.left{kt:bZ}{h:az}{l l':Led}(H:Lies kt h (l++l')):Lies kt h l:=
 H.part (λp hp=>.inl (inl hp)) (by unfold adr;rw[aL];exact JC ..)
theorem Lies.right{kt:bZ}{h:az}{l l':Led}(H:Lies kt h (l++l')):Lies kt h l':=
 H.part (λp hp=>.inl (inr hp)) (by unfold adr;rw[aL];exact pU ..)
theorem Lies.apart{kt:bZ}{h:az}{l l':Led}(H:Lies kt h (l++l')){a:Nat}(ha:a∈adr l)(hb:a∈adr l'):False:=by
 have:=H.nd;rw[aL,cJ]at this;exact this.2.2 a ha a hb rfl
theorem Lies.join{kt:bZ}{h:az}{l l':Led}(H:Lies kt h l)(H':Lies kt h l')(hd:∀a∈adr l,a∉adr l'):Lies kt h (l++l'):=by
 refine⟨λq hq=>?_,?_,λp hp hm=>?_,H.top⟩
 ·rw[aL]at hq;rcases mA hq with hq|hq
  ·exact H.has q hq
  ·exact H'.has q hq
 ·rw[aL,cJ];exact⟨H.nd,H'.nd,λa ha b hb e=>hd a ha (e▸hb)⟩
 ·rcases mA hp with hp|hp
  ·exact H.off p hp hm
  ·exact H'.off p hp hm
theorem Lies.swap{kt:bZ}{h h':az}{A B:Led}{m:Bool}{a:Nat}{o o':Obj}{U:List Nat}(H:Lies kt h (A++(m,a,o)::B))(T:aR kt h')(K:Keeps U h h')(e:h'.get? a=some o')
  (hU:∀b∈U,b=a∨b∉adr (A++(m,a,o)::B)):Lies kt h' (A++(m,a,o')::B):=by
 refine H.turn T K (by simp) λp hp=>?_
 have nd:=H.nd;rw[aL,bP,cJ,bA]at nd;refine Js nd λaf n1 af n2=>?_;have out:p∈A++(m,a,o)::B→p.2.1≠a→p∈A++(m,a,o)::B∧p.2.1∉U:=λhp ne=>⟨hp,λq=>by
  rcases hU _ q with q|q
  ·exact ne q
  ·exact q (mD hp)⟩
 rcases mA hp with hp|hp
 ·exact .inr (out (inl hp) λq=>n2 _ (mD hp) a (.head _) q)
 ·rcases aM.mp hp with rfl|hp
  ·exact .inl e
  ·exact .inr (out (inr (.tail _ hp)) λq=>n1 (by
    have:=mD hp;rwa [q]at this))
theorem d7{w:ao}{b:Nat}{c:bf}{Pre:az→Prop}{X:Type}{res:X→aW}{Post:X→az→az→Prop}(hb:fD b 120=true)(hc:lD c=false)
  (run:∀(A:aV) (s:aA) (R:aW→aA→Prop),aR (kt w.params) s.heap→Pre s.heap→(∀x h' t',aR (kt w.params) h'→Post x s.heap h'→R (res x) ⟨h',s.gens,s.drawn,t',s.os⟩)→
   ∃(l:Led) (_:Lies (kt w.params) s.heap l) (cert:Cert),Good (bD w s R) cert (jk s l)∧fR (bD w s R) 1000000000 .base A (A.under c) (b+1) (dQ c) (dB l) s.heap.objs.size s.toks l.length cert=fS cert (l.map (·.2.1)) s.heap.objs.size):Wide w b c Pre X res Post:=by
 intro A s R hA hT hP hR;obtain⟨l,hl,cert,g,e⟩:=run A s R hT hP hR;exact zR (V:=bD w s R) (l:=l) cert g hl hA hb hc e
theorem j5{w:ao}{f:Option (List Env)}{b:Nat}{c:bf}{Pre:az→Prop}{X:Type}{res:X→aW}{Post:X→az→az→Prop}(hb:fD b 120=true)(hc:lD c=false)
  (run:∀(A:aV) (s:aA) (R:aW→aA→Prop),A.frames=f→aR (kt w.params) s.heap→Pre s.heap→(∀x h' t',aR (kt w.params) h'→Post x s.heap h'→R (res x) ⟨h',s.gens,s.drawn,t',s.os⟩)→
   ∃(l:Led) (_:Lies (kt w.params) s.heap l) (cert:Cert),Good (bD w s R) cert (jk s l)∧fR (bD w s R) 1000000000 .base A (A.under c) (b+1) (dQ c) (dB l) s.heap.objs.size s.toks l.length cert=fS cert (l.map (·.2.1)) s.heap.objs.size):cT w f b c Pre X res Post:=by
 intro A s R hA hF hT hP hR;obtain⟨l,hl,cert,g,e⟩:=run A s R hF hT hP hR;exact zR (V:=bD w s R) (l:=l) cert g hl hA hb hc e
structure Node where
 n:Int
 t:Nat
 I:Nat
 dI:Nat
 nt:Nat
 q:Int
 qt:Nat
 SL:Nat
 vs:List (Int×Nat)
 ep:Nat
noncomputable def Node.key(x:Node):Int×Nat×Nat:=(x.n,x.t,x.I)
noncomputable def iv(v:Int×Nat):aj:=.int v.1 v.2
noncomputable def Node.io(x:Node):Obj:=eK x.dI (.int x.n x.nt) x.q x.qt x.SL
noncomputable def Node.lo(x:Node):Obj:=ai (x.vs.map iv) x.ep
noncomputable def gw(x:Node):Led:=[(true,x.I,x.io),(true,x.SL,x.lo)]
structure SS where
 S:Nat
 d:Nat
 D:Nat
 t1:Nat
 t2:Nat
 t3:Nat
 t4:Nat
structure SV where
 ready:aj
 np:Int
 nf:Int
 u3:Nat
 u4:Nat
 ep:Nat
 l:List Node
def bH(w:ao)(z:SS)(v:SV):Obj:=Ex w z.t1 z.t2 z.t3 z.t4 z.D v.ready v.np v.nf v.u3 v.u4
def iy(w:ao)(z:SS)(v:SV):Led:=[(true,z.S,bY z.d),(true,z.d,bH w z v),(true,z.D,bU (v.l.map Node.key) v.ep)]
def aO(w:ao)(z:SS)(v:SV):Led:=iy w z v++v.l.flatMap gw
theorem aR.keep{kt:bZ}{h h':az}{U:List Nat}(T:aR kt h)(K:Keeps U h h')(hU:∀a∈U,kt.get a=none):aR kt h':=λa o e=>by
 refine K.2 a o (λm=>?_) (T a o e);rw[hU a m]at e;cases e
theorem find_key{l:List Node}{p:Int}{y:Int×Nat×Nat}(h:(l.map Node.key).find? (λx=>x.1==p)=some y):∃x∈l,x.n=p∧x.key=y:=by
 have h1:=List.find?_some h;refine aS (aN.mp (Jz h)) λx hx aG=>?_;subst aG;exact⟨x,hx,eq_of_beq h1,rfl⟩
theorem find_none{l:List Node}{p:Int}(h:(l.map Node.key).find? (λx=>x.1==p)=none):∀x∈l,x.n≠p:=λx hx e=>by
 have:=yI.mp h x.key (c7 hx);simp[Node.key,e]at this
structure kI(v:SV)(p:Int)(h:az)(v':SV)(x:Node):Prop where
 mem:x∈v'.l
 is:x.n=p
 how:(v'=v)∨((∀y∈v.l,y.n≠p)∧v'={v with l:=v.l++[x],ep:=v.ep+1}∧x.q=0∧x.vs=[]∧h.objs.size≤x.I∧h.objs.size≤x.SL)
theorem Lk(w:ao)(z:SS)(v:SV)(p:Int)(pt:Nat)(hl:v.l.length≤1000):
  Wide w 108 (.call (.ref 135) ⟨[.ref z.S,.int p pt],[]⟩) (λh=>Lies (kt w.params) h (aO w z v)) (SV×Node) (λx=>.ok (.ret (.ref x.2.I)))
   (λx h h'=>Lies (kt w.params) h' (aO w z x.1)∧Keeps [z.D] h h'∧kI v p h x.1 x.2):=by
 intro A s R hA hT hP hR;cases q:(v.l.map Node.key).find? (λx=>x.1==p)with
 |some y=>
  refine ie (find_key q) λx hx hn aG=>?_;subst aG;have L3:Lies (kt w.params) s.heap [(false,z.S,bY z.d),(false,z.d,bH w z v),(false,z.D,bU (v.l.map Node.key) v.ep)]:=hP.left.part (λp hp=>.inr (by
   apply cB hp
   ·exact⟨rfl,true,by exact aY⟩
   ·exact⟨rfl,true,by exact in1⟩
   ·exact⟨rfl,true,by exact bT⟩)) (by simp[adr,iy])
  exact aaN w z.S z.d z.D z.t1 z.t2 z.t3 z.t4 v.ready v.np v.nf v.u3 v.u4 _ v.ep p pt x.key q A s R hA hT L3.has L3.nd L3.off λaf h' t' k1 af af af af=>
   have k1:Keeps [] s.heap h':=k1;have T':=hT.keep k1 λaf h=>nomatch h;hR (v,x) h' t' T' ⟨hP.ext T' k1,k1.ext,hx,hn,.inl rfl⟩
 |none=>
  have L3:Lies (kt w.params) s.heap [(false,z.S,bY z.d),(false,z.d,bH w z v),(true,z.D,bU (v.l.map Node.key) v.ep)]:=hP.left.part (λp hp=>by
   apply cB hp
   ·exact .inr ⟨rfl,true,by exact aY⟩
   ·exact .inr ⟨rfl,true,by exact in1⟩
   ·exact .inl bT) (by simp[adr,iy])
  refine aaO w z.S z.d z.D z.t1 z.t2 z.t3 z.t4 v.ready v.np v.nf v.u3 v.u4 _ v.ep p pt q (by simpa using hl) A s R hA hT L3.has L3.nd L3.off λx h' t' k1 k2 k3 k4 k5=>?_
  have k1:Keeps [z.D] s.heap h':=k1;have T':=hT.keep k1 (λa ha=>by apply cV ha;exact(hP.off (true,z.D,bU (v.l.map Node.key) v.ep) (inl bT) rfl))
  let y:Node:=⟨p,pt,x.1+1,x.1,pt,0,x.2+3,x.1+3,[],0⟩
  have f0:s.heap.objs.size≤x.1:=k4 (x.1,wm) aY;refine hR ({v with l:=v.l++[y],ep:=v.ep+1},y) h' t' T' ⟨?_,k1,by simp,rfl,.inr ⟨find_none q,rfl,rfl,rfl,sd f0,JP f0⟩⟩
  have e1:Lies (kt w.params) h' (iy w z {v with l:=v.l++[y],ep:=v.ep+1}++v.l.flatMap gw):=by
   have z0:Lies (kt w.params) s.heap ([(true,z.S,bY z.d),(true,z.d,bH w z v)]++(true,z.D,bU (v.l.map Node.key) v.ep)::v.l.flatMap gw):=hP;have z1:=z0.swap T' k1 (k2 (z.D,bU (v.l.map Node.key++[(p,pt,x.1+1)]) (v.ep+1)) (.head _)) (λb hb=>.inl (by simpa using hb))
   rw[(by simp[Node.key,y]:v.l.map Node.key++[(p,pt,x.1+1)]=(v.l++[y]).map Node.key)]at z1
   exact z1
  have e2:Lies (kt w.params) h' (gw y):=by
   refine Lies.fresh hT T' (λq hq=>?_) (λq hq=>?_) (by simp[adr,gw,y])
   ·apply bJ hq
    ·exact k3 (x.1+1,eK x.1 (.int p pt) 0 (x.2+3) (x.1+3)) in1
    ·exact k3 (x.1+3,ai [] 0) bT
   ·apply bJ hq
    ·exact sd f0
    ·exact JP f0
  have e3:=e1.join e2 (λa ha hb=>by
   have h1:a∈adr (aO w z v):=by
    dsimp only[adr,aO,iy,aL,bP,iS]at ha⊢;exact ha
   have:=hP.lt h1;have hb:=b3 hb;rcases hb with rfl|rfl
   ·show False;exact Tw this f0
   ·exact IJ this f0)
  have e4:aO w z {v with l:=v.l++[y],ep:=v.ep+1}=(iy w z {v with l:=v.l++[y],ep:=v.ep+1}++v.l.flatMap gw)++gw y:=by
   simp[aO]
  rw[e4];exact e3
noncomputable abbrev G:=List (Int×Int×List Int)
noncomputable def SV.g(v:SV):G:=v.l.map λx=>(x.n,x.q,x.vs.map (·.1))
noncomputable def lH(g:G)(p:Int):G:=match g.any (λe=>e.1==p)with
 |true=>g
 |false=>g++[(p,0,[])]
noncomputable def fm(p:Int)(f:Int×List Int→Int×List Int)(g:G):G:=g.map λe=>match e.1==p with
 |true=>(e.1,f e.2)
 |false=>e
noncomputable def wA(n:Int)(e:Int×List Int):Int×List Int:=(e.1,e.2++[n])
noncomputable def names(v:SV):List Int:=v.l.map Node.n
theorem wB{l1 l2:List Node}{x y:Node}{f:Int×List Int→Int×List Int}{v:SV}(nd:(names v).Nodup)(hv:v.l=l1++x::l2)(hn:y.n=x.n)(hy:(y.q,y.vs.map (·.1))=f (x.q,x.vs.map (·.1))):
  ({v with l:=l1++y::l2}:SV).g=fm x.n f v.g:=by
 delta names at nd;rw[hv,aL,bP,cJ,bA]at nd;refine Js nd λaf n1 af n2=>?_;delta SV.g fm;rw[hv];simp only[aL,bP,bQ];congr 1
 ·refine yG λa ha=>?_;simp only[Function.comp_def,(beq_false_of_ne λe=>n2 a.n (c7 ha) x.n (.head _) e)]
 ·congr 1
  ·simp only[(beq_self_eq_true _:(x.n==x.n)=true),hn,←hy]
  ·refine yG λa ha=>?_;simp only[Function.comp_def,(beq_false_of_ne λe=>n1 (e▸c7 ha):(a.n==x.n)=false)]
theorem Ln{v:SV}{p:Int}:v.g.any (λe=>e.1==p)=true↔∃x∈v.l,x.n=p:=by
 delta SV.g;simp[List.any_map]
theorem kI.g{v v':SV}{p:Int}{h:az}{x:Node}(t:kI v p h v' x):v'.g=lH v.g p:=by
 delta lH;rcases t.how with e|⟨e1,e2,e3,e4,_⟩
 ·rw[(Ln.mpr ⟨x,e▸t.mem,t.is⟩),e]
 ·have:v.g.any (λe=>e.1==p)=false:=by
   cases q:v.g.any (λe=>e.1==p)with
   |false=>rfl
   |true=>
    refine aS (Ln.mp q) λy hy hn=>?_;exact absurd hn (e1 y hy)
  rw[this,e2];simp[SV.g,e3,e4,t.is]
theorem kI.nd{v v':SV}{p:Int}{h:az}{x:Node}(t:kI v p h v' x)(nd:(names v).Nodup):(names v').Nodup:=by
 rcases t.how with e|⟨e1,e2,_⟩
 ·rw[e];exact nd
 ·rw[e2];unfold names at*;rw[aL,cJ];refine⟨nd,by simp,λa ha b hb=>?_⟩
  refine aS (aN.mp ha) λy hy aG=>?_;subst aG;apply cV hb;rw[t.is];exact e1 y hy
noncomputable def aE(z:SS)(v:SV):List Nat:=z.S::z.d::z.D::v.l.flatMap λx=>[x.I,x.SL]
theorem cP(w:ao)(z:SS)(v:SV):adr (aO w z v)=aE z v:=by
 delta adr aO iy aE;rw[aL,C2];rfl
theorem kI.fresh{v v':SV}{p:Int}{h:az}{x:Node}(t:kI v p h v' x)(z:SS):∀a∈aE z v',a∈aE z v∨h.objs.size≤a:=by
 rcases t.how with e|⟨e1,e2,_,_,e5,e6⟩
 ·rw[e];exact λa ha=>.inl ha
 ·rw[e2];intro a ha;unfold aE at*;rw[iQ]at ha;simp only[aM,n8,pW,List.flatMap_nil,bO,or_false]at ha⊢;refine dw ha (λha=>?_) λha=>dw ha (λha=>?_) λha=>dw ha (λha=>?_) λha=>dw ha (λha=>?_) λha=>dw ha (λha=>?_) λha=>?_
  ·exact .inl (.inl ha)
  ·exact .inl (.inr (.inl ha))
  ·exact .inl (.inr (.inr (.inl ha)))
  ·exact .inl (.inr (.inr (.inr ha)))
  ·exact .inr (ha▸e5)
  ·exact .inr (ha▸e6)
theorem aaP{w:ao}{z:SS}{v:SV}{l1 l2:List Node}{x:Node}{h h':az}{U:List Nat}{vs:List (Int×Nat)}{ep:Nat}(H:Lies (kt w.params) h (aO w z v))(hv:v.l=l1++x::l2)(T:aR (kt w.params) h')(K:Keeps U h h')(e:h'.get? x.SL=some (ai (vs.map iv) ep))
  (hU:∀b∈U,b=x.SL∨b∉aE z v):Lies (kt w.params) h' (aO w z {v with l:=l1++{x with vs:=vs,ep:=ep}::l2}):=by
 have e0:aO w z v=(iy w z v++l1.flatMap gw++[(true,x.I,x.io)])++(true,x.SL,x.lo)::l2.flatMap gw:=by
  delta aO;rw[hv,iQ,pW];simp[gw]
 have hU':∀b∈U,b=x.SL∨b∉adr (aO w z v):=λb hb=>cP w z v▸hU b hb;rw[e0]at H hU';have:=H.swap T K e hU';have e1:aO w z {v with l:=l1++{x with vs:=vs,ep:=ep}::l2}=(iy w z v++l1.flatMap gw++[(true,x.I,x.io)])++(true,x.SL,ai (vs.map iv) ep)::l2.flatMap gw:=by
  delta aO;rw[iQ,pW];have:iy w z {v with l:=l1++{x with vs:=vs,ep:=ep}::l2}=iy w z v:=by
   delta iy bH;rw[hv];simp[Node.key]
  rw[this];simp[gw,Node.io,Node.lo]
 rw[e1];exact this
theorem Ad{w:ao}{z:SS}{v:SV}{l1 l2:List Node}{x:Node}{h h':az}{U:List Nat}{q:Int}{qt:Nat}(H:Lies (kt w.params) h (aO w z v))(hv:v.l=l1++x::l2)(T:aR (kt w.params) h')(K:Keeps U h h')(e:h'.get? x.I=some (eK x.dI (.int x.n x.nt) q qt x.SL))
  (hU:∀b∈U,b=x.I∨b∉aE z v):Lies (kt w.params) h' (aO w z {v with l:=l1++{x with q:=q,qt:=qt}::l2}):=by
 have e0:aO w z v=(iy w z v++l1.flatMap gw)++(true,x.I,x.io)::((true,x.SL,x.lo)::l2.flatMap gw):=by
  delta aO;rw[hv,iQ,pW];rfl
 have hU':∀b∈U,b=x.I∨b∉adr (aO w z v):=λb hb=>cP w z v▸hU b hb;rw[e0]at H hU';have:=H.swap T K e hU';have e1:aO w z {v with l:=l1++{x with q:=q,qt:=qt}::l2}=(iy w z v++l1.flatMap gw)++(true,x.I,eK x.dI (.int x.n x.nt) q qt x.SL)::((true,x.SL,x.lo)::l2.flatMap gw):=by
  delta aO;rw[iQ,pW];have:iy w z {v with l:=l1++{x with q:=q,qt:=qt}::l2}=iy w z v:=by
   delta iy bH;rw[hv];simp[Node.key]
  rw[this];rfl
 rw[e1];exact this
theorem oR{z:SS}{v:SV}{l1 l2:List Node}{x y:Node}(hv:v.l=l1++x::l2)(hI:y.I=x.I)(hS:y.SL=x.SL):aE z {v with l:=l1++y::l2}=aE z v:=by
 delta aE;rw[hv];simp[iQ,hI,hS]
theorem wC{v:SV}{l1 l2:List Node}{x y:Node}(hv:v.l=l1++x::l2)(hn:y.n=x.n):names {v with l:=l1++y::l2}=names v:=by
 delta names;rw[hv];simp[hn]
noncomputable def Small(v:SV)(m:Nat):Prop:=v.l.length+m≤1000∧∀x∈v.l,x.vs.length+m≤1000
theorem kI.small{v v':SV}{p:Int}{h:az}{x:Node}{m:Nat}(t:kI v p h v' x)(s:Small v (m+1)):v'.l.length+m≤1000∧∀x∈v'.l,x.vs.length+(m+1)≤1000:=by
 rcases t.how with e|⟨e1,e2,e3,e4,_⟩
 ·rw[e];exact⟨by exact yo s.1,s.2⟩
 ·rw[e2];refine⟨by simp;exact B8 s.1,λy hy=>?_⟩
  rcases mA hy with hy|hy
  ·exact s.2 y hy
  ·apply cV hy;rw[e4];simp;exact Tg s.1
theorem Lp{v:SV}{l1 l2:List Node}{x y:Node}{m:Nat}(h1:v.l.length+m≤1000)(h2:∀x∈v.l,x.vs.length+(m+1)≤1000)(hv:v.l=l1++x::l2)(hy:y.vs.length≤x.vs.length+1):Small {v with l:=l1++y::l2} m:=by
 refine⟨by rw[hv]at h1;simpa using h1,λa ha=>?_⟩
 rw[hv]at h2;rcases mA ha with ha|ha
 ·exact yo (h2 a (inl ha))
 ·rcases aM.mp ha with rfl|ha
  ·exact VD (h2 x (inr (.head _))) hy
  ·exact yo (h2 a (inr (.tail _ ha)))
def EE:bR:=sub 2 (st 16)
noncomputable def iK(es:List bx):Obj:=⟨.type "frame",none,.dict ⟨es⟩ es.length,#[]⟩
def envOf(s:bR)(qual:Str)(fa ca loc:Nat):Env:=⟨fScope s,loc,3,[],qual,some fa,.ref ca,some loc,0⟩
noncomputable def aaQ:Str:=⟨⟨[84,111,112,111,108,111,103,105,99,97,108,83,111,114,116,101,114,46,97,100,100,46,60,108,111,99,97,108,115,62,46]⟩⟩
def aaR(it loc:Nat):bf:=.forLoop (dg (sub 3 EE)) (.ref it) (fBody (sub 3 EE)) [] (envOf EE aaQ 142 141 loc)
def Ae(w:ao)(z:SS)(n:Int)(t tup k1 k2 k3 k4:Nat)(y:aj)(more:List bx):Obj:=
 iK ([de w f9 k1 (.ref z.S),de w gW k2 (.int n t),de w wj k3 (.ref tup),de w zV k4 y]++more)
def Af(w:ao):Option (Nat×aj×Nat×aj)→List bx
 |none=>[]
 |some (a,x,b,y)=>[de w Eh a x,de w KR b y]
theorem Keeps.trans'{U U':List Nat}{h h' h'':az}(x:Keeps U h h')(y:Keeps U' h' h'')(s:∀a∈U',a∈U∨h.objs.size≤a):Keeps U h h'':=
 ⟨bh x.1 y.1,λb o hb e=>y.2 b o (λm=>by
  rcases s b m with q|q
  ·exact hb q
  ·exact E0 (cK e) q) (x.2 b o hb e)⟩
theorem Keeps.oU{U U':List Nat}{h h':az}(y:Keeps U' h h')(s:∀a∈U',a∈U∨h.objs.size≤a):Keeps U h h':=(Keeps.refl U h).trans' y s
theorem tL{v:SV}{x:Node}(hx:x∈v.l):∃l1 l2,v.l=l1++x::l2:=List.append_of_mem hx
theorem gC{z:SS}{v:SV}{x:Node}(hx:x∈v.l):x.I∈aE z v∧x.SL∈aE z v:=by
 delta aE;simp only[aM,eF];exact⟨.inr (.inr (.inr ⟨x,hx,by exact .inl rfl⟩)),.inr (.inr (.inr ⟨x,hx,by exact .inr (.inl rfl)⟩))⟩
theorem Lq{w:ao}{z:SS}{v:SV}{x:Node}{h:az}(H:Lies (kt w.params) h (aO w z v))(hx:x∈v.l)(b1 b2:Bool):
  Lies (kt w.params) h [(false,z.S,bY z.d),(false,z.d,bH w z v),(b1,x.I,x.io),(b2,x.SL,x.lo)]:=by
 refine rS (tL hx) λl1 l2 e=>?_;refine H.part (λp hp=>?_) ?_
 ·have mI:(true,x.I,x.io)∈aO w z v:=by
   delta aO;exact inr (eF.mpr ⟨x,hx,by exact aY⟩)
  have mS:(true,x.SL,x.lo)∈aO w z v:=by
   delta aO;exact inr (eF.mpr ⟨x,hx,by exact in1⟩)
  apply fX hp
  ·exact .inr ⟨rfl,true,by exact inl aY⟩
  ·exact .inr ⟨rfl,true,by exact inl in1⟩
  ·cases b1
   ·exact .inr ⟨rfl,true,mI⟩
   ·exact .inl mI
  ·cases b2
   ·exact .inr ⟨rfl,true,mS⟩
   ·exact .inl mS
 ·rw[cP];delta aE;rw[e,iQ,pW];show[z.S,z.d,x.I,x.SL].Sublist _;refine .cons_cons _ (.cons_cons _ (.cons _ ?_));exact(JC [x.I,x.SL] _).trans (pU _ _)
theorem m7{w:ao}{z:SS}{v:SV}{h:az}(H:Lies (kt w.params) h (aO w z v)):
  Lies (kt w.params) h [(false,z.S,bY z.d),(false,z.d,bH w z v)]:=by
 refine H.part (λp hp=>?_) ?_
 ·apply bJ hp
  ·exact .inr ⟨rfl,true,by exact inl aY⟩
  ·exact .inr ⟨rfl,true,by exact inl in1⟩
 ·rw[cP];exact .cons_cons _ (.cons_cons _ (.cons _ (eX _)))
theorem bL{z:SS}{v:SV}:z.S∈aE z v∧z.d∈aE z v∧z.D∈aE z v:=by exact⟨aY,in1,bT⟩
theorem Lies.eL{w:ao}{z:SS}{v:SV}{h:az}{l:Led}(H:Lies (kt w.params) h (aO w z v++l)){a:Nat}(ha:a∈adr l):a∉aE z v:=λm=>
 H.apart (cP w z v▸m) ha
theorem kI.same{v v':SV}{p:Int}{h:az}{x:Node}(t:kI v p h v' x):v'.ready=v.ready∧v'.np=v.np∧v'.nf=v.nf:=by
 rcases t.how with e|⟨_,e,_⟩<;>rw[e]<;>exact⟨rfl,rfl,rfl⟩
noncomputable def oV(n:Int)(g:G)(r:List (Int×Nat)):G:=r.foldl (λg p=>fm p.1 (wA n) (lH g p.1)) g
structure Left(z:SS)(v v':SV)(h:az):Prop where
 ready:v'.ready=v.ready
 np:v'.np=v.np
 nf:v'.nf=v.nf
 nd:(names v').Nodup
 fresh:∀a∈aE z v',a∈aE z v∨h.objs.size≤a
theorem Lies.Ag{w:ao}{z:SS}{v v':SV}{h h':az}{l own:Led}{a:List Nat}(H':Lies (kt w.params) h' l)(O:Lies (kt w.params) h' own)(hl:∀b∈adr l,b∈aE z v')(hf:∀a∈aE z v',a∈aE z v∨h.objs.size≤a)
  (ho:adr own=a) (hn:∀b∈a,b∉aE z v) (hlt:∀b∈a,b<h.objs.size):Lies (kt w.params) h' (l++own):=
 H'.join O λb hb hc=>by
  rw[ho]at hc;rcases hf b (hl b hb)with q|q
  ·exact hn b hc q
  ·exact E0 (hlt b hc) q
open Classical in
def dh(v:SV)(x y:Node):SV:=if h:x∈v.l then{v with l:=(tL h).choose++y::(tL h).choose_spec.choose}else v
theorem j6{v:SV}{x:Node}(hx:x∈v.l)(y:Node):∃l1 l2,v.l=l1++x::l2∧dh v x y={v with l:=l1++y::l2}:=
 ⟨_,_,(tL hx).choose_spec.choose_spec,by delta dh;rw[dif_pos hx]⟩
noncomputable def pushed(x:Node)(n:Int)(t:Nat):Node:={x with vs:=x.vs++[(n,t)],ep:=x.ep+1}
noncomputable def dD(x:Node)(k:Int)(tok:Nat):Node:={x with q:=x.q+k,qt:=tok}
noncomputable def gD(k:Int)(e:Int×List Int):Int×List Int:=(e.1+k,e.2)
noncomputable def wD(n:Int)(ps:List (Int×Nat))(g:G):G:=oV n (fm n (gD ps.length) (lH g n)) ps
def Ah(w:ao)(z:SS)(n:Int)(t tup k:Nat):Obj:=
 iK [de w f9 k (.ref z.S),de w gW (k+1) (.int n t),de w wj (k+2) (.ref tup)]
def qE(w:ao)(z:SS)(n:Int)(t tup it loc k1 k2 k3 k4:Nat)(y:aj)(vs:List (Int×Nat))(i:Nat)(ex:List bx):Led:=
 [(false,tup,aK (vs.map iv)),(true,loc,Ae w z n t tup k1 k2 k3 k4 y ex),(true,it,aC "tuple_iterator" (.ref tup) i)]
noncomputable def tM(fr:Option (Nat×aj×Nat×aj))(k:Nat):Nat:=match fr with
 |none=>k
 |some f=>f.1
noncomputable def tN(fr:Option (Nat×aj×Nat×aj))(k:Nat):Nat:=match fr with
 |none=>k
 |some f=>f.2.2.1
def Ai(w:ao)(fr:Option (Nat×aj×Nat×aj))(k:Nat)(x:aj):List bx:=match fr with
 |none=>[de w Eh k x]
 |some f=>Af w (some (f.1,x,f.2.2.1,f.2.2.2))
theorem aaS(w:ao)(z:SS)(n:Int)(t tup it loc k1 k2 k3 k4:Nat)(y:aj)(vs:List (Int×Nat)):∀(r:List (Int×Nat)) (i:Nat) (v:SV) (fr:Option (Nat×aj×Nat×aj)),vs.drop i=r→Small v r.length→(names v).Nodup→
  Wide w 100 (aaR it loc) (λh=>Lies (kt w.params) h (aO w z v++qE w z n t tup it loc k1 k2 k3 k4 y vs i (Af w fr))) SV (λaf=>.ok .next)
   (λv' h h'=>Lies (kt w.params) h' (aO w z v')∧Keeps (aE z v++[loc,it]) h h'∧Left z v v' h∧v'.g=oV n v.g r):=by
 intro r;induction r with
 |nil=>
  intro i v fr hr hs nd;refine d7 rfl rfl λA s R hT hP hR=>?_;have L0:Lies (kt w.params) s.heap [(false,tup,aK (vs.map iv)),(true,it,aC "tuple_iterator" (.ref tup) i)]:=
   hP.right.part (λp hp=>.inl (by apply bJ hp<;>(first|exact aY|exact bT))) (by
    show[tup,it].Sublist [tup,loc,it];exact .cons_cons _ (.cons _ (.cons_cons _ .slnil)))
  refine⟨_,L0,aq (dec 260) (.cut 110 _ [(0,false,tup,aK (vs.map iv)),(1,true,it,aC "tuple_iterator" (.ref tup) i)] Nat _ (λaf=>[(1,it,aC "tuple_iterator" .none i)]) _
    λx af af=>aq (dec 6) (.done (.ok .next) [] [])),au (ay (EC w it tup i (vs.map iv) (by simp[(kE.mp hr)])) λx af af=>au (bu λhp t' K T af af af af=>?_)),?_⟩
  ·have K:Keeps [it] s.heap hp:=K;refine hR v hp t' T ⟨hP.left.keep T K λp hp q=>?_,K.oU λa ha=>.inl (by simp[(jN ha)]),⟨rfl,rfl,rfl,nd,λa ha=>.inl ha⟩,rfl⟩
   have hm:=mD hp;rw[(by simpa using q:p.2.1=it)]at hm
   exact(hP.eL bT) (cP w z v▸hm)
  ·kernel_rfl!
 |cons p r ih=>
  intro i v fr hr hs nd;have hv:(vs.map iv)[i]?=some (iv p):=by
   have:=congrArg (λl=>l[0]?) hr;simp only[nZ,n9,nX]at this;rw[dK,this];rfl
  have hr':vs.drop (i+1)=r:=by
   rw[←iR,hr];rfl
  have hs:Small v (r.length+1):=hs;refine d7 rfl rfl λA s R hT hP hR=>?_;have hn:∀b∈[tup,loc,it],b∉aE z v:=λb hb=>hP.eL (by simpa[qE,adr]using hb)
  have L0:Lies (kt w.params) s.heap ([(false,z.S,bY z.d),(false,z.d,bH w z v)]++qE w z n t tup it loc k1 k2 k3 k4 y vs i (Af w fr)):=
   (m7 hP.left).Ag (z:=z) (v:=v) (v':=v) hP.right (λb hb=>by apply bJ hb<;>(first|exact aY|exact in1)) (λa ha=>.inl ha) (h:=s.heap) (a:=[tup,loc,it]) rfl hn (λb hb=>hP.right.lt (by simpa[qE,adr]using hb))
  refine⟨_,L0,aq (dec 455) (.cut 119 _ [(2,false,tup,aK (vs.map iv)),(4,true,it,aC "tuple_iterator" (.ref tup) i)] Unit _ (λaf=>[(4,it,aC "tuple_iterator" (.ref tup) (i+1))]) (λaf=>[]) λaf af tk0=>
   aq (dec 22736820107771094091018044514787718) (.wide 108 _ [(0,false,z.S,bY z.d),(1,false,z.d,bH w z v),(2,false,tup,aK (vs.map iv)),(3,true,loc,Ae w z n t tup k1 k2 k3 k4 y (Ai w fr tk0 (iv p))),(4,true,it,aC "tuple_iterator" (.ref tup) (i+1))] (SV×Node) _
    (λx=>[(false,z.S,bY z.d),(false,z.d,bH w z x.1),(false,x.2.I,x.2.io),(true,x.2.SL,ai (x.2.vs.map iv) x.2.ep)]++qE w z n t tup it loc k1 k2 k3 k4 y vs (i+1) (Ai w fr tk0 (iv p))) λx h1 af aF=>
   aq (dec 2461221699478168562687876696413486248051303270482970523501064) (.cut 119 _ [(3,true,x.2.SL,ai (x.2.vs.map iv) x.2.ep)] Unit _ (λaf=>[(3,x.2.SL,ai (x.2.vs.map iv++[iV n t]) (x.2.ep+1))]) (λaf=>[]) λaf af af=>
   aq (dec 0) (.wide 100 _ [(3,true,x.2.SL,ai (x.2.vs.map iv++[iV n t]) (x.2.ep+1)),(4,false,tup,aK (vs.map iv)),(5,true,loc,Ae w z n t tup k1 k2 k3 k4 y (Af w (some (tM fr tk0,iv p,tN fr aF,.ref x.2.I)))),(6,true,it,aC "tuple_iterator" (.ref tup) (i+1))] SV _ (λaf=>[]) λv' h3 af af=>
   .done (.ok .next) [] [])))),
   au (ay (EB w it tup i (vs.map iv) _ hv) λaf af tk0=>au (cC (Lk w z v p.1 p.2 (by exact B6 hs.1)) (λh a=>?EF) (λx h h' a T q=>?lI) λx h0 h1 af aF a0 af q1=>
    au (ay (iJ w x.2.SL (x.2.vs.map iv) x.2.ep (iV n t) ?len) λaf af af=>au (cC (ih (i+1) (dh x.1 x.2 (pushed x.2 n t)) (some (tM fr tk0,iv p,tN fr aF,.ref x.2.I)) hr' ?small ?nd) (λh a=>?qF) (λx h h' a T q=>?qG) λv' h2 h3 af af a2 af q2=>
    bu λhp t' K T af af af af=>?fin)))),?run⟩
  case EF=>
   exact hP.left.keep a.lies.top a.keeps λp hp q=>by
    have hm:=mD hp;have q:p.2.1∈[loc,it]:=q;exact hn _ (by simp at q⊢;rcases q with q|q<;>(first|exact XT q|exact XU q)) (cP w z v▸hm:p.2.1∈aE z v)
  case lI=>
   refine dJ q λq1 q2 q3=>?_;have O:Lies (kt w.params) h (qE w z n t tup it loc k1 k2 k3 k4 y vs (i+1) (Ai w fr tk0 (iv p))):=Lies.right (l:=[(false,z.S,bY z.d),(false,z.d,bH w z v)]) a.lies;have O':Lies (kt w.params) h' (qE w z n t tup it loc k1 k2 k3 k4 y vs (i+1) (Ai w fr tk0 (iv p))):=O.keep T q2 λp hp m=>by
    exact hn p.2.1 (mD hp) ((by simpa using m)▸bL.2.2)
   exact(Lq q1 q3.mem false true).Ag O' (λb hb=>by
     have:=gC (z:=z) q3.mem;apply fX hb
     ·exact bL.1
     ·exact bL.2.1
     ·exact this.1
     ·exact this.2) (q3.fresh z) (a:=[tup,loc,it]) rfl hn (λb hb=>O.lt hb)
  case len=>
   refine dJ q1 λq1 q2 q3=>?_;rw[bl];exact B6 ((q3.small hs).2 x.2 q3.mem)
  case small=>
   refine dJ q1 λq1 q2 q3=>?_;refine jP (j6 q3.mem (pushed x.2 n t)) λl1 l2 e1 e2=>?_;rw[e2];exact Lp (q3.small hs).1 (q3.small hs).2 e1 (by simp[pushed])
  case nd=>
   refine dJ q1 λq1 q2 q3=>?_;refine jP (j6 q3.mem (pushed x.2 n t)) λl1 l2 e1 e2=>?_;rw[e2,wC (y:=pushed x.2 n t) e1 rfl];exact q3.nd nd
  case qF=>
   refine dJ q1 λq1 q2 q3=>?_;refine jP (j6 q3.mem (pushed x.2 n t)) λl1 l2 e1 e2=>?_;have out:∀b∈[tup,loc,it],b∉aE z x.1:=λb hb m=>by
    rcases q3.fresh z b m with q|q
    ·exact hn b hb q
    ·exact E0 ((Lies.right (l:=[(false,z.S,bY z.d),(false,z.d,bH w z v)]) a0.lies).lt hb) q
   rw[e2];have ev:x.2.vs.map iv++[iV n t]=(x.2.vs++[(n,t)]).map iv:=by rw[aL];rfl
   have S2:=aaP (vs:=x.2.vs++[(n,t)]) (ep:=x.2.ep+1) q1 e1 a.lies.top a.keeps (by
    have:=a.lies.has (x.2.SL,ai (x.2.vs.map iv++[iV n t]) (x.2.ep+1)) aY;rw[ev]at this;exact this) (λb hb=>by
     apply cB hb
     ·exact .inl rfl
     ·exact .inr (out _ in1)
     ·exact .inr (out _ bT))
   refine S2.join (Lies.right (l:=[(true,x.2.SL,ai (x.2.vs.map iv++[iV n t]) (x.2.ep+1))]) a.lies) λb hb hc=>out b hc ?_;have hb:=cP w z _▸hb;rw[oR (y:={x.2 with vs:=x.2.vs++[(n,t)],ep:=x.2.ep+1}) e1 rfl rfl]at hb
   exact hb
  case qG=>
   exact Lies.part q.1 (λaf hp=>nomatch hp) (eX _)
  case fin=>
   refine dJ q1 λq1 qk q3=>?_;refine kC q2 λr1 r2 r3 r4=>?_;refine jP (j6 q3.mem (pushed x.2 n t)) λl1 l2 e1 e2=>?_;have es:aE z (dh x.1 x.2 (pushed x.2 n t))=aE z x.1:=by rw[e2];exact oR (y:=pushed x.2 n t) e1 rfl rfl
   have K0:Keeps [loc,it] s.heap h0:=a0.keeps;have K:Keeps [] h3 hp:=K;have fr:∀a∈aE z x.1,a∈aE z v++[loc,it]∨s.heap.objs.size≤a:=λa ha=>by
    rcases q3.fresh z a ha with q|q
    ·exact .inl (inl q)
    ·exact .inr (bh K0.1 q)
   have KB:Keeps (aE z v++[loc,it]) s.heap h2:=((K0.oU (λa ha=>.inl (inr ha))).trans' qk (λa ha=>.inl (inl (by exact(jN ha)▸bL.2.2)))).trans' a2.keeps (λa ha=>by
    apply cB ha
    ·exact fr _ (gC q3.mem).2
    ·exact .inl (inr aY)
    ·exact .inl (inr in1))
   have KC:Keeps (aE z v++[loc,it]) s.heap h3:=KB.trans' r2 (λa ha=>by
    rcases mA ha with ha|ha
    ·exact fr a (es▸ha)
    ·exact .inl (inr ha))
   have sm:=q3.same;refine hR v' hp t' T ⟨r1.ext T K,KC.trans' K (λaf h=>nomatch h),⟨?_,?_,?_,r3.nd,λa ha=>?_⟩,?_⟩
   ·rw[r3.ready,e2];exact sm.1
   ·rw[r3.np,e2];exact sm.2.1
   ·rw[r3.nf,e2];exact sm.2.2
   ·rcases r3.fresh a ha with q|q
    ·rw[es]at q;rcases q3.fresh z a q with q|q
     ·exact .inl q
     ·exact .inr (bh K0.1 q)
    ·exact .inr (bh KB.1 q)
   ·rw[r4];show oV n _ r=oV n (fm p.1 (wA n) (lH v.g p.1)) r;congr 1
    rw[e2,wB (y:=pushed x.2 n t) (f:=wA n) (q3.nd nd) e1 rfl (by simp[pushed,wA]),q3.is,q3.g]
  case run=>(apply aaJ fr;kernel_rfl!)
theorem aaT(w0:ao)(fb fc:Bool)(z:SS)(n:Int)(t:Nat)(ps:List (Int×Nat))(hk:ps.length≤5)(v:SV)(hr:v.ready=.none)(hs:Small v 10)(nd:(names v).Nodup):
  Wide (ak w0 fb fc) 96 (.call (.ref 142) ⟨.ref z.S::.int n t::ps.map iv,[]⟩) (λh=>Lies (kt (ak w0 fb fc).params) h (aO (ak w0 fb fc) z v)) SV (λaf=>.ok (.ret .none))
   (λv' h h'=>Lies (kt (ak w0 fb fc).params) h' (aO (ak w0 fb fc) z v')∧Keeps (aE z v) h h'∧Left z v v' h∧v'.g=wD n ps v.g):=by
 obtain⟨rd,np,nf,u3,u4,ep,l⟩:=v;obtain rfl:rd=.none:=hr;generalize hv:(⟨.none,np,nf,u3,u4,ep,l⟩:SV)=v at*;generalize hw:ak w0 fb fc=w;refine d7 rfl rfl λA s R hT hP hR=>?_;have old:∀b∈aE z v,b<s.heap.objs.size:=λb hb=>hP.lt (cP w z v▸hb);refine⟨_,m7 hP,aq (dec 123791023400446960924705766014095135530497684124234225779756399300323057729) (.wide 108 _ [(0,false,z.S,bY z.d),(1,false,z.d,bH w z v),(2,true,s.heap.objs.size,aK (ps.map iv)),(3,true,s.heap.objs.size+1,Ah w z n t s.heap.objs.size s.toks)] (SV×Node) _
   (λx=>[(false,z.S,bY z.d),(false,z.d,bH w z x.1),(true,x.2.I,x.2.io),(false,x.2.SL,x.2.lo)]++[(false,s.heap.objs.size,aK (ps.map iv)),(true,s.heap.objs.size+1,Ah w z n t s.heap.objs.size s.toks)]) λx h1 aX aF=>
  aq (dec 22778737584476188868109452855425496039461454691673202353466411018631495144720353454137581988023179765969115683182903816) (.wide 100 _ [(2,true,x.2.I,eK x.2.dI (.int x.2.n x.2.nt) (x.2.q+(ps.length:Int)) (aF+4) x.2.SL),(4,false,s.heap.objs.size,aK (ps.map iv)),(5,true,s.heap.objs.size+1,Ae w z n t s.heap.objs.size s.toks (s.toks+1) (s.toks+2) aF (.ref x.2.I) []),(6,true,aX,aC "tuple_iterator" (.ref s.heap.objs.size) 0)] SV _ (λaf=>[]) λv' h3 af af=>
  aq (dec 0) (.done (.ok (.ret .none)) [] []))),
  au (cC (Lk w z v n t (by exact Rz hs.1)) (λh a=>?EF) (λx h h' a T q=>?lI) λx h0 h1 aX aF a0 af q1=>
   au (cC (aaS w z n t s.heap.objs.size aX (s.heap.objs.size+1) s.toks (s.toks+1) (s.toks+2) aF (.ref x.2.I) ps ps 0 (dh x.1 x.2 (dD x.2 ps.length (aF+4))) none rfl ?small ?nd) (λh a=>?qF) (λx h h' a T q=>?qG) λv' h2 h3 af af a2 af q2=>
    au (bu λhp t' K T af af af af=>?fin))),?run⟩
 case EF=>
  exact hP.ext a.lies.top a.keeps
 case lI=>
  refine dJ q λq1 q2 q3=>?_;have O1:Lies (kt w.params) h [(false,s.heap.objs.size,aK (ps.map iv)),(true,s.heap.objs.size+1,Ah w z n t s.heap.objs.size s.toks)]:=(Lies.right (l:=[(false,z.S,bY z.d),(false,z.d,bH w z v)]) a.lies).part (λp hp=>by
   apply bJ hp
   ·exact .inr ⟨rfl,true,by exact aY⟩
   ·exact .inl in1) (mO _)
  have O':=O1.keep T q2 λp hp m=>by
   have h1:=old _ ((by simpa using m)▸bL.2.2:p.2.1∈aE z v)
   have hp:=b3 hp;rcases hp with rfl|rfl
   ·exact absurd h1 (Dh _)
   ·exact absurd h1 (by show ¬s.heap.objs.size+1<_;exact SA)
  refine(Lq q1 q3.mem true false).Ag O' (λb hb=>by
    have:=gC (z:=z) q3.mem;apply fX hb
    ·exact bL.1
    ·exact bL.2.1
    ·exact this.1
    ·exact this.2) (q3.fresh z) (a:=[s.heap.objs.size,s.heap.objs.size+1]) rfl (λb hb m=>?_) (λb hb=>O1.lt hb)
  exact IV (old b m) (b3 hb)
 case small=>
  refine dJ q1 λq1 q2 q3=>?_;refine jP (j6 q3.mem (dD x.2 ps.length (aF+4))) λl1 l2 e1 e2=>?_;rw[e2];have Lr:Small v (9+1):=hs;have sm:=Lp (y:=dD x.2 ps.length (aF+4)) (q3.small Lr).1 (q3.small Lr).2 e1 (by simp[dD])
  exact⟨by exact IK sm.1 hk,λa ha=>by exact IK (sm.2 a ha) hk⟩
 case nd=>
  refine dJ q1 λq1 q2 q3=>?_;refine jP (j6 q3.mem (dD x.2 ps.length (aF+4))) λl1 l2 e1 e2=>?_;rw[e2,wC (y:=dD x.2 ps.length (aF+4)) e1 rfl];exact q3.nd nd
 case qF=>
  refine dJ q1 λq1 q2 q3=>?_;refine jP (j6 q3.mem (dD x.2 ps.length (aF+4))) λl1 l2 e1 e2=>?_;have O0:Lies (kt w.params) h0 [(true,s.heap.objs.size,aK (ps.map iv)),(true,s.heap.objs.size+1,Ah w z n t s.heap.objs.size s.toks)]:=Lies.right (l:=[(false,z.S,bY z.d),(false,z.d,bH w z v)]) a0.lies;have fr:h1.objs.size≤aX:=a.fresh (6,true,aX,aC "tuple_iterator" (.ref s.heap.objs.size) 0) eW (bk 6);have out:∀b∈[s.heap.objs.size,s.heap.objs.size+1,aX],b∉aE z x.1:=λb hb m=>by
   have hb:=fB hb;rcases hb with rfl|rfl|rfl
   ·rcases q3.fresh z _ m with q|q
    ·exact vh (old _ q)
    ·exact E0 (O0.lt (a:=s.heap.objs.size) aY) q
   ·rcases q3.fresh z _ m with q|q
    ·exact vg (old _ q)
    ·exact Tv (O0.lt (a:=s.heap.objs.size+1) in1) q
   ·exact E0 (q1.lt (cP w z x.1▸m:b∈adr (aO w z x.1))) fr
  rw[e2];have S2:=Ad (q:=x.2.q+(ps.length:Int)) (qt:=aF+4) q1 e1 a.lies.top a.keeps (a.lies.has (x.2.I,eK x.2.dI (.int x.2.n x.2.nt) (x.2.q+(ps.length:Int)) (aF+4) x.2.SL) aY) (λb hb=>by
    apply bJ hb
    ·exact .inl rfl
    ·exact .inr (out _ in1))
  refine S2.join (Lies.right (l:=[(true,x.2.I,eK x.2.dI (.int x.2.n x.2.nt) (x.2.q+(ps.length:Int)) (aF+4) x.2.SL)]) a.lies) λb hb hc=>out b hc ?_;have hb:=cP w z _▸hb;rw[oR (y:={x.2 with q:=x.2.q+(ps.length:Int),qt:=aF+4}) e1 rfl rfl]at hb
  exact hb
 case qG=>
  exact Lies.part q.1 (λaf hp=>nomatch hp) (eX _)
 case fin=>
  refine dJ q1 λq1 qk q3=>?_;refine kC q2 λr1 r2 r3 r4=>?_;refine jP (j6 q3.mem (dD x.2 ps.length (aF+4))) λl1 l2 e1 e2=>?_;have es:aE z (dh x.1 x.2 (dD x.2 ps.length (aF+4)))=aE z x.1:=by rw[e2];exact oR (y:=dD x.2 ps.length (aF+4)) e1 rfl rfl
  have K0:Keeps [] s.heap h0:=a0.keeps;have K:Keeps [] h3 hp:=K;have KA:Keeps (aE z v) s.heap h1:=(K0.ext).trans' qk (λa ha=>.inl (by exact(jN ha)▸bL.2.2))
  have fr:∀a∈aE z x.1,a∈aE z v∨s.heap.objs.size≤a:=λa ha=>by
   rcases q3.fresh z a ha with q|q
   ·exact .inl q
   ·exact .inr (bh K0.1 q)
  have KB:Keeps (aE z v) s.heap h2:=KA.trans' a2.keeps (λa ha=>by
   apply bJ ha
   ·exact fr _ (gC q3.mem).1
   ·exact .inr E2)
  have KC:Keeps (aE z v) s.heap h3:=KB.trans' r2 (λa ha=>by
   rcases mA ha with ha|ha
   ·exact fr a (es▸ha)
   ·refine .inr ?_;apply bJ ha<;>(first|exact E2|exact E5 KA.1 (a2.fresh (6,true,aX,aC "tuple_iterator" (.ref s.heap.objs.size) 0) eW (bk 6))))
  have sm:=q3.same;refine hR v' hp t' T ⟨r1.ext T K,KC.trans' K (λaf h=>nomatch h),⟨?_,?_,?_,r3.nd,λa ha=>?_⟩,?_⟩
  ·rw[r3.ready,e2];exact sm.1
  ·rw[r3.np,e2];exact sm.2.1
  ·rw[r3.nf,e2];exact sm.2.2
  ·rcases r3.fresh a ha with q|q
   ·rw[es]at q;exact fr a q
   ·exact .inr (bh KB.1 q)
  ·rw[r4];show oV n _ ps=oV n (fm n (gD ps.length) (lH v.g n)) ps;congr 1
   rw[e2,wB (y:=dD x.2 ps.length (aF+4)) (f:=gD ps.length) (q3.nd nd) e1 rfl (by rfl),q3.is,q3.g]
 case run=>
  clear hP old hR hT nd hs;subst hw;subst hv;rcases ps with _|⟨p1,_|⟨p2,_|⟨p3,_|⟨p4,_|⟨p5,_|⟨p6,r⟩⟩⟩⟩⟩⟩
  ·(apply ck (fb:=fb);kernel_rfl!)
  ·(apply ck (fb:=fb);kernel_rfl!)
  ·(apply ck (fb:=fb);kernel_rfl!)
  ·(apply ck (fb:=fb);kernel_rfl!)
  ·(apply ck (fb:=fb);kernel_rfl!)
  ·(apply ck (fb:=fb);kernel_rfl!)
  ·trivial
theorem EG(w0:ao)(fb fc:Bool)(z:SS)(v:SV)(RL:Nat)(h:decide (v.nf<v.np)=false)(x:aj)(xs:List aj)(hx:xs.length≤5)(e:Nat):
  Spec (ak w0 fb fc) 96 (.call (.ref 161) ⟨[.ref z.S],[]⟩) [(false,z.S,bY z.d),(false,z.d,bH (ak w0 fb fc) z {v with ready:=.ref RL}),(false,RL,ai (x::xs) e)] Unit (λaf=>.ok (.ret (.bool true))) (λaf=>[]) (λaf=>[]):=by
 refine cX rfl rfl λA s R hR=>?_;refine⟨aq (dec 119056319782235219388836024745798887977781853409782687821489193095254091362738241) (.cut 119 _ [] Unit _ (λaf=>[]) (λaf=>[]) λaf af af=>aq (dec 105494285359193892082993042935275585) (.done _ [] [])),au (ay (ED _ v.nf v.np v.u4 v.u3 false h) λaf af af=>au (cE hR () rfl rfl rfl rfl)),?_⟩;rcases xs with _|⟨x1,_|⟨x2,_|⟨x3,_|⟨x4,_|⟨x5,_|⟨x6,r⟩⟩⟩⟩⟩⟩
 ·(apply ck (fb:=fb);kernel_rfl!)
 ·(apply ck (fb:=fb);kernel_rfl!)
 ·(apply ck (fb:=fb);kernel_rfl!)
 ·(apply ck (fb:=fb);kernel_rfl!)
 ·(apply ck (fb:=fb);kernel_rfl!)
 ·(apply ck (fb:=fb);kernel_rfl!)
 ·simp at hx
theorem aaU(w0:ao)(fb fc:Bool)(z:SS)(v:SV)(RL:Nat)(h:decide (v.nf<v.np)=false)(e:Nat):
  Spec (ak w0 fb fc) 96 (.call (.ref 161) ⟨[.ref z.S],[]⟩) [(false,z.S,bY z.d),(false,z.d,bH (ak w0 fb fc) z {v with ready:=.ref RL}),(false,RL,ai [] e)] Unit (λaf=>.ok (.ret (.bool false))) (λaf=>[]) (λaf=>[]):=by
 refine cX rfl rfl λA s R hR=>?_;refine⟨aq (dec 119056319782235219388836024745798887977781853409782687821489193095254091362738241) (.cut 119 _ [] Unit _ (λaf=>[]) (λaf=>[]) λaf af af=>aq (dec 105494285359193892082993042935275585) (.done _ [] [])),au (ay (ED _ v.nf v.np v.u4 v.u3 false h) λaf af af=>au (cE hR () rfl rfl rfl rfl)),?_⟩;(apply ck (fb:=fb);kernel_rfl!)
def Ls:bR:=sub 7 (st 16)
noncomputable def aaV:Str:=⟨⟨[84,111,112,111,108,111,103,105,99,97,108,83,111,114,116,101,114,46,100,111,110,101,46,60,108,111,99,97,108,115,62,46]⟩⟩
def Lv:bR:=sub 4 (sub 2 Ls)
def aaW(it loc:Nat):bf:=.forLoop (dg Lv) (.ref it) (fBody Lv) [] (envOf Ls aaV 175 174 loc)
theorem Lies.pick{kt:bZ}{h:az}{l l':Led}(H:Lies kt h l)(hs:∀p∈l',p∈l∨(p.1=false∧∃m,(m,p.2)∈l))(hd:(adr l').Nodup):Lies kt h l':=by
 refine⟨λq hq=>?_,hd,λp hp hm=>?_,H.top⟩
 ·refine aS (aN.mp hq) λp hp aG=>?_;subst aG;rcases hs p hp with e|⟨_,m,e⟩
  ·exact H.get e
  ·exact H.get (p:=(m,p.2)) e
 ·rcases hs p hp with e|⟨e,_⟩
  ·exact H.off p e hm
  ·rw[e]at hm;cases hm
theorem oW{w:ao}{z:SS}{v:SV}{h:az}(H:Lies (kt w.params) h (aO w z v)):(aE z v).Nodup:=by
 have:=H.nd;have e:(aO w z v).map (·.2.1)=aE z v:=cP w z v;rw[e]at this;exact this
theorem qH{z:SS}{v:SV}(nd:(aE z v).Nodup){x y:Node}(hx:x∈v.l)(hy:y∈v.l):y.I≠x.SL∧z.S≠y.I∧z.d≠y.I∧z.D≠y.I∧z.S≠y.SL∧z.d≠y.SL∧z.D≠y.SL∧z.S≠z.d∧z.S≠z.D∧z.d≠z.D:=by
 unfold aE at nd;have mem:∀{a:Node},a∈v.l→a.I∈v.l.flatMap (λx=>[x.I,x.SL])∧a.SL∈v.l.flatMap (λx=>[x.I,x.SL]):=λ{a} ha=>⟨eF.mpr ⟨a,ha,by exact aY⟩,eF.mpr ⟨a,ha,by exact in1⟩⟩
 simp only[bA,aM,not_or]at nd;obtain⟨⟨a1,a2,a3⟩,⟨b1,b2⟩,c1,nd⟩:=nd;refine⟨λe=>?_,λe=>a3 (e▸(mem hy).1),λe=>b2 (e▸(mem hy).1),λe=>c1 (e▸(mem hy).1),λe=>a3 (e▸(mem hy).2),λe=>b2 (e▸(mem hy).2),λe=>c1 (e▸(mem hy).2),a1,a2,b1⟩;refine rS (List.append_of_mem hx) λl1 l2 q=>?_;rw[q]at hy nd;rw[iQ,pW]at nd;simp only[cJ,n8,eF,aM,bO,or_false,bA]at nd;obtain⟨n1,⟨⟨n2,af⟩,n3,n4⟩,n5⟩:=nd;rcases mA hy with hy|hy
 ·exact n5 y.I ⟨y,hy,.inl rfl⟩ x.SL (.inl (.inr rfl)) e
 ·rcases aM.mp hy with rfl|hy
  ·exact n2 e
  ·exact n4 x.SL (.inr rfl) y.I ⟨y,hy,.inl rfl⟩ e.symm
theorem EH{v:SV}(nd:(names v).Nodup){x:Node}(hx:x∈v.l):(v.l.map Node.key).find? (λy=>y.1==x.n)=some x.key:=by
 refine rS (tL hx) λl1 l2 e=>?_;unfold names at nd;rw[e,aL,bP,cJ]at nd;rw[e,aL,bP,List.find?_append];have h1:(l1.map Node.key).find? (λy=>y.1==x.n)=none:=by
  rw[yI];intro y hy;refine aS (aN.mp hy) λz hz aG=>?_;subst aG;simpa[Node.key]using(nd.2.2 z.n (c7 hz) x.n (.head _))
 rw[h1,yN];have:(x.key.1==x.n)=true:=beq_self_eq_true _;rw[this];rfl
noncomputable def j7(a:G×List (Int×Nat))(p:Int×Nat):G×List (Int×Nat):=match(fm p.1 (gD (-1)) a.1).any (λe=>e.1==p.1 && e.2.1==0)with
 |true=>(fm p.1 (gD (-1)) a.1,a.2++[p])
 |false=>(fm p.1 (gD (-1)) a.1,a.2)
theorem aaX{v:SV}(nd:(names v).Nodup){x:Node}(hx:x∈v.l):v.g.any (λe=>e.1==x.n && e.2.1==0)=(x.q==0):=by
 cases q:x.q==0 with
 |true=>
  rw[yL];exact⟨(x.n,x.q,x.vs.map (·.1)),aN.mpr ⟨x,hx,rfl⟩,by simp[q]⟩
 |false=>
  rw[List.any_eq_false];intro e he;refine aS (aN.mp he) λa ha aG=>?_;subst aG;intro c;rw[Di,beq_iff_eq]at c;have:a=x:=by
   refine rS (tL hx) λl1 l2 e=>?_;unfold names at nd;rw[e]at ha nd;rw[aL,bP,cJ,bA]at nd;rcases mA ha with ha|ha
   ·exact absurd c.1 (nd.2.2 a.n (c7 ha) x.n (.head _))
   ·rcases aM.mp ha with rfl|ha
    ·rfl
    ·exact absurd (c.1▸c7 (f:=Node.n) ha) nd.2.1.1
  rw[this]at c;simp[c.2]at q
def lJ(w:ao)(z:SS)(tup pt xI xq k1 k2 k3 k4 k5 k6:Nat)(pn:Int)(ex:List bx):Obj:=
 iK ([de w f9 k1 (.ref z.S),de w KS k2 (.ref tup),de w tC k3 (.ref z.D),de w gW k4 (.int pn pt),de w zV k5 (.ref xI),de w KU k6 (.int (-1) xq)]++ex)
def qI(w:ao):Option (Nat×aj×Nat×aj)→List bx
 |none=>[]
 |some (a,x,b,y)=>[de w KV a x,de w KW b y]
def EI(w:ao)(z:SS)(RL loc it SL tup pt xI xq k1 k2 k3 k4 k5 k6:Nat)(pn:Int)(aH:List (Int×Nat))(rep i:Nat)(ex:List bx):Led:=
 [(true,RL,ai (aH.map iv) rep),(true,loc,lJ w z tup pt xI xq k1 k2 k3 k4 k5 k6 pn ex),(true,it,aC "list_iterator" (.ref SL) i)]
theorem aaY{z:SS}{v:SV}{y:Node}{p:Int×Nat}(nd:(names v).Nodup)(hy:y∈v.l)(m8:y.n=p.1)(k:Nat):aE z (dh v y (dD y (-1) k))=aE z v∧names (dh v y (dD y (-1) k))=names v∧(dh v y (dD y (-1) k)).ready=v.ready∧(dh v y (dD y (-1) k)).np=v.np∧(dh v y (dD y (-1) k)).nf=v.nf∧
  (∀x∈v.l,∃x'∈(dh v y (dD y (-1) k)).l,x'.SL=x.SL∧x'.vs=x.vs∧x'.ep=x.ep)∧(∀aH,j7 (v.g,aH) p=((dh v y (dD y (-1) k)).g,match y.q+(-1)==0 with
   |true=>aH++[p]
   |false=>aH))∧∀{w:ao} {h h':az} {U:List Nat},Lies (kt w.params) h (aO w z v)→aR (kt w.params) h'→Keeps U h h'→h'.get? y.I=some (eK y.dI (.int y.n y.nt) (y.q+(-1)) k y.SL)→(∀b∈U,b=y.I∨b∉aE z v)→Lies (kt w.params) h' (aO w z (dh v y (dD y (-1) k))):=by
 refine jP (j6 hy (dD y (-1) k)) λl1 l2 e1 e2=>?_;have en:=e2▸wC (y:=dD y (-1) k) e1 rfl;refine⟨e2▸oR (y:=dD y (-1) k) e1 rfl rfl,en,e2▸rfl,e2▸rfl,e2▸rfl,λx hx=>?_,λaH=>?_,λH T K e hU=>e2▸Ad (q:=y.q+(-1)) (qt:=k) H e1 T K e hU⟩
 ·rw[e2];rw[e1]at hx;refine(mA hx).elim (λhx=>⟨x,inl hx,rfl,rfl,rfl⟩) λhx=>(aM.mp hx).elim (λe=>⟨dD y (-1) k,inr (.head _),e▸rfl,e▸rfl,e▸rfl⟩) λhx=>⟨x,inr (.tail _ hx),rfl,rfl,rfl⟩
 ·have eg:(dh v y (dD y (-1) k)).g=fm p.1 (gD (-1)) v.g:=by
   rw[e2,wB (y:=dD y (-1) k) (f:=gD (-1)) nd e1 rfl (by rfl),m8]
  have ea:=aaX (v:=dh v y (dD y (-1) k)) (en▸nd) (x:=dD y (-1) k) (e2▸inr (.head _));rw[eg,show(dD y (-1) k).n=p.1 from m8]at ea;delta j7;rw[ea,eg];show(match y.q+(-1)==0 with
   |true=>_
   |false=>_)=_
  cases y.q+(-1)==0<;>rfl
theorem Lw{w:ao}{z:SS}{v u:SV}{RL loc it:Nat}{o1 o2 o3:Obj}{h:az}(S:Lies (kt w.params) h (aO w z u))(es:aE z u=aE z v)(hn:∀b∈[RL,loc,it],b∉aE z v)(O:Lies (kt w.params) h [(true,RL,o1),(true,loc,o2),(true,it,o3)]):Lies (kt w.params) h (aO w z u++[(true,RL,o1),(true,loc,o2),(true,it,o3)]):=
 S.join O λb hb hc=>hn b hc (es▸cP w z u▸hb)
theorem Lx{w:ao}{z:SS}{v v' u:SV}{I RL loc it:Nat}{l:Led}{h0 h2 h3 hp:az}{aH m9 rx r:List (Int×Nat)}{p:Int×Nat}(es:aE z v'=aE z v)(en:names v'=names v)(e1:v'.ready=v.ready)(e2:v'.np=v.np)(e3:v'.nf=v.nf)(eg:j7 (v.g,aH) p=(v'.g,m9))(hI:I∈aE z v)(K2:Keeps [I,RL,loc,it] h0 h2)(T:aR (kt w.params) hp)(K:Keeps [] h3 hp)
  (q:Lies (kt w.params) h3 (aO w z u++l)∧Keeps (aE z v'++[RL,loc,it]) h2 h3∧Left z v' u h2∧aE z u=aE z v'∧names u=names v'∧(u.g,rx)=r.foldl j7 (v'.g,m9)):
  Lies (kt w.params) hp (aO w z u++l)∧Keeps (aE z v++[RL,loc,it]) h0 hp∧Left z v u h0∧aE z u=aE z v∧names u=names v∧(u.g,rx)=(p::r).foldl j7 (v.g,aH):=by
 refine CI q λr1 r2 r3 r4 r5 r6=>⟨r1.ext T K,((K2.oU λa ha=>?_).trans' r2 λa ha=>.inl (es▸ha)).trans' K (λaf h=>nomatch h),⟨r3.ready.trans e1,r3.np.trans e2,r3.nf.trans e3,r3.nd,λa ha=>.inl (es▸r4▸ha)⟩,r4.trans es,r5.trans en,?_⟩
 ·exact(aM.mp ha).elim (λe=>.inl (inl (e▸hI))) λha=>.inl (inr ha)
 ·show _=r.foldl j7 (j7 (v.g,aH) p);rw[eg];exact r6
theorem aaZ(w0:ao)(fb fc:Bool)(z:SS)(RL loc it SL lK tup pt xI xq k1 k2 k3 k4 k5 k6:Nat)(pn:Int)(vs:List (Int×Nat)):∀(r:List (Int×Nat)) (i:Nat) (v:SV) (aH:List (Int×Nat)) (rep:Nat) (fr:Option (Nat×aj×Nat×aj)),vs.drop i=r→(∀p∈r,p.1∈names v)→aH.length+r.length≤1000→(names v).Nodup→v.ready=.ref RL→(∃x∈v.l,x.SL=SL∧x.vs=vs∧x.ep=lK)→
  Wide (ak w0 fb fc) 92 (aaW it loc) (λh=>Lies (kt (ak w0 fb fc).params) h (aO (ak w0 fb fc) z v++EI (ak w0 fb fc) z RL loc it SL tup pt xI xq k1 k2 k3 k4 k5 k6 pn aH rep i (qI (ak w0 fb fc) fr))) (SV×List (Int×Nat)×Nat×Option (Nat×aj×Nat×aj)) (λaf=>.ok .next)
   (λx h h'=>Lies (kt (ak w0 fb fc).params) h' (aO (ak w0 fb fc) z x.1++[(true,RL,ai (x.2.1.map iv) x.2.2.1),(true,loc,lJ (ak w0 fb fc) z tup pt xI xq k1 k2 k3 k4 k5 k6 pn (qI (ak w0 fb fc) x.2.2.2))])∧Keeps (aE z v++[RL,loc,it]) h h'∧Left z v x.1 h∧aE z x.1=aE z v∧names x.1=names v∧(x.1.g,x.2.1)=r.foldl j7 (v.g,aH)):=by
 intro r;generalize hw:ak w0 fb fc=w;induction r with
 |nil=>
  intro i v aH rep fr hr hm hl nd hrd hx;refine ly hx λx hx oX hxv wF=>?_;refine d7 rfl rfl λA s R hT hP hR=>?_;have L0:Lies (kt w.params) s.heap [(false,SL,ai (vs.map iv) lK),(true,it,aC "list_iterator" (.ref SL) i)]:=
   Lies.pick hP (λp hp=>by
    apply bJ hp
    ·exact .inr ⟨rfl,true,inl (by delta aO;exact inr (eF.mpr ⟨x,hx,by simp[gw,Node.lo,oX,hxv,wF]⟩))⟩
    ·exact .inl (inr bT)) (by
    have h2:=(gC (z:=z) hx).2;rw[oX]at h2;simp only[adr,bP,iS,bA,aM,bO,or_false,not_false_eq_true,gT,and_true];exact λe=>(hP.eL (a:=it) bT) (e▸h2))
  refine⟨_,L0,aq (dec 260) (.cut 110 _ [(0,false,SL,ai (vs.map iv) lK),(1,true,it,aC "list_iterator" (.ref SL) i)] Nat _ (λaf=>[(1,it,aC "list_iterator" .none i)]) _
    λx af af=>aq (dec 6) (.done (.ok .next) [] [])),au (ay (oQ w it SL i (vs.map iv) lK (by simp[(kE.mp hr)])) λx af af=>au (bu λhp t' K T af af af af=>?_)),?_⟩
  ·have K:Keeps [it] s.heap hp:=K;have hit:it∉aE z v:=hP.eL bT;have nl:=hP.right.nd;have L1:Lies (kt w.params) s.heap (aO w z v++[(true,RL,ai (aH.map iv) rep),(true,loc,lJ w z tup pt xI xq k1 k2 k3 k4 k5 k6 pn (qI w fr))]):=hP.part (λp hp=>.inl (by
    rcases mA hp with hp|hp
    ·exact inl hp
    ·exact inr (by apply bJ hp<;>(first|exact aY|exact in1)))) (by
    delta adr;rw[aL,aL];exact vB (mO _) (by
     show[RL,loc].Sublist [RL,loc,it];exact .cons_cons _ (.cons_cons _ (eX _))))
   refine hR (v,aH,rep,fr) hp t' T ⟨L1.keep T K λp hp q=>?_,K.oU λa ha=>.inl (by simp[(jN ha)]),⟨rfl,rfl,rfl,nd,λa ha=>.inl ha⟩,rfl,rfl,rfl⟩
   have e:p.2.1=it:=by simpa using q
   rcases mA hp with hp|hp
   ·have hm:=mD hp;rw[e]at hm;exact hit (cP w z v▸hm)
   ·have nl:[RL,loc,it].Nodup:=nl;have hp:=b3 hp;rcases hp with rfl|rfl
    ·have e:RL=it:=e;simp[e]at nl
    ·have e:loc=it:=e;simp[e]at nl
  ·subst hw;(apply ck (fb:=fb);kernel_rfl!)
 |cons p r ih=>
  intro i v aH rep fr hr hm hl nd hrd hx;obtain⟨rd,np,nf,u3,u4,cY,vl⟩:=v;obtain rfl:rd=.ref RL:=hrd;generalize dF:(⟨.ref RL,np,nf,u3,u4,cY,vl⟩:SV)=v at*;have d8:v.ready=.ref RL:=by rw[←dF]
  obtain⟨x,hx,oX,hxv,wF⟩:=hx;have hv:(vs.map iv)[i]?=some (iv p):=by
   have:=congrArg (λl=>l[0]?) hr;simp only[nZ,n9,nX]at this;rw[dK,this];rfl
  have hr':vs.drop (i+1)=r:=by
   rw[←iR,hr];rfl
  obtain⟨y,hy,m8⟩:=aN.mp (hm p (.head _));have hfind:=EH nd hy;rw[m8]at hfind;refine d7 rfl rfl λA s R hT hP hR=>?_;have gE:=oW hP.left;obtain⟨a1,a2,a3,a4,af,af,af,a8,a9,iD⟩:=qH gE hx hy;obtain⟨af,af,af,af,b5,b6,b7,af⟩:=qH gE hy hx;have hn:∀b∈[RL,loc,it],b∉aE z v:=λb hb=>hP.eL (by simpa[EI,adr]using hb)
  have mI:(true,y.I,y.io)∈aO w z v:=by
   delta aO;exact inr (eF.mpr ⟨y,hy,by exact aY⟩)
  have mS:(true,SL,ai (vs.map iv) lK)∈aO w z v:=by
   delta aO;exact inr (eF.mpr ⟨x,hx,by simp[gw,Node.lo,oX,hxv,wF]⟩)
  have L5:Lies (kt w.params) s.heap [(false,z.S,bY z.d),(false,z.d,bH w z v),(false,z.D,bU (v.l.map Node.key) v.ep),(true,y.I,y.io),(false,SL,ai (vs.map iv) lK)]:=hP.left.pick (λp hp=>by
   apply jz hp
   ·exact .inr ⟨rfl,true,by exact inl aY⟩
   ·exact .inr ⟨rfl,true,by exact inl in1⟩
   ·exact .inr ⟨rfl,true,by exact inl bT⟩
   ·exact .inl mI
   ·exact .inr ⟨rfl,true,mS⟩) (by
   subst oX;simp only[adr,bP,iS,bA,aM,bO,or_false,not_or,not_false_eq_true,gT,and_true];exact⟨⟨a8,a9,a2,b5⟩,⟨iD,a3,b6⟩,⟨a4,b7⟩,a1⟩)
  have L0:=L5.Ag (z:=z) (v:=v) (v':=v) hP.right (λb hb=>by
   subst oX;apply jz hb
   ·exact bL.1
   ·exact bL.2.1
   ·exact bL.2.2
   ·exact(gC hy).1
   ·exact(gC hx).2) (λa ha=>.inl ha) (h:=s.heap) (a:=[RL,loc,it]) rfl hn (λb hb=>hP.right.lt (by simpa[EI,adr]using hb))
  have F:=λk=>aaY (z:=z) nd hy m8 k;cases hq:(y.q+(-1)==0)with
  |true=>
   refine⟨_,L0,aq (dec 650) (.cut 119 _ [(4,false,SL,ai (vs.map iv) lK),(7,true,it,aC "list_iterator" (.ref SL) i)] Unit _ (λaf=>[(7,it,aC "list_iterator" (.ref SL) (i+1))]) (λaf=>[]) λaf af tk0=>
    aq (dec 22339284931145) (.cut 119 _ [(2,false,z.D,bU (v.l.map Node.key) v.ep)] Unit _ (λaf=>[]) (λaf=>[]) λaf af aF=>
    aq (dec 293497712412462091071196008522595434195636213379971087117824595321417587467340732773975281341331550464316773657013391767082604157550073594024521) (.cut 119 _ [] Unit _ (λaf=>[]) (λaf=>[]) λaf af af=>
    aq (dec 2642427736875381786365297485418697) (.cut 119 _ [(5,true,RL,ai (aH.map iv) rep)] Unit _ (λaf=>[(5,RL,ai (aH.map iv++[iv p]) (rep+1))]) (λaf=>[]) λaf af af=>aq (dec 0) (.wide 92 _ [(3,true,y.I,eK y.dI (.int y.n y.nt) (y.q+(-1)) (aF+3) y.SL),(5,true,RL,ai (aH.map iv++[iv p]) (rep+1)),(6,true,loc,lJ w z tup pt xI xq k1 k2 k3 k4 k5 k6 pn (qI w (some (tM fr tk0,iv p,tN fr aF,.ref y.I)))),(7,true,it,aC "list_iterator" (.ref SL) (i+1))] (SV×List (Int×Nat)×Nat×Option (Nat×aj×Nat×aj)) _ (λaf=>[]) λx' h3 af af=>
    .done (.ok .next) [] []))))),
    au (ay (lG w it SL i (vs.map iv) lK _ hv) λaf af tk0=>au (ay (wo w z.D (v.l.map Node.key) v.ep p.1 p.2 y.key hfind) λaf af aF=>au (ay (wz w (y.q+(-1)) 0 (aF+3) (aF+6) true hq) λaf af af=>
    au (ay (iJ w RL (aH.map iv) rep (iv p) (by rw[bl];exact B6 hl)) λaf af af=>au (cC (ih (i+1) (dh v y (dD y (-1) (aF+3))) (aH++[p]) (rep+1) (some (tM fr tk0,iv p,tN fr aF,.ref y.I)) hr' ?EJ ?hlA ?dG ?aa1 ?hxA) (λh a=>?qJ) (λx h h' a T q=>?wG) λx' h2 h3 af af a2 af q2=>
     bu λhp t' K T af af af af=>?wH))))),?wI⟩
   case EJ=>exact λq hq=>(F _).2.1▸hm q (.tail _ hq)
   case hlA=>
    simp at hl⊢;exact B8 hl
   case dG=>exact(F _).2.1▸nd
   case aa1=>exact(F _).2.2.1.trans d8
   case hxA=>exact ly ((F _).2.2.2.2.2.1 x hx) λx' h' i1 i2 i3=>⟨x',h',i1.trans oX,i2.trans hxv,i3.trans wF⟩
   case qJ=>
    have J:=Lw ((F _).2.2.2.2.2.2.2 hP.left a.lies.top a.keeps (a.lies.has (y.I,eK y.dI (.int y.n y.nt) (y.q+(-1)) (aF+3) y.SL) aY) λb hb=>(aM.mp hb).elim .inl λhb=>.inr (hn _ hb)) (F _).1 hn (Lies.right (l:=[(true,y.I,eK y.dI (.int y.n y.nt) (y.q+(-1)) (aF+3) y.SL)]) a.lies);rw[show aH.map iv++[iv p]=(aH++[p]).map iv by simp]at J
    exact J
   case wG=>exact Lies.part q.1 (λaf hp=>nomatch hp) (eX _)
   case wH=>exact hR x' hp t' T (Lx (F _).1 (F _).2.1 (F _).2.2.1 (F _).2.2.2.1 (F _).2.2.2.2.1 (((F _).2.2.2.2.2.2.1 aH).trans (by rw[hq])) (gC hy).1 a2.keeps T K q2)
   case wI=>
    clear hP gE L5 L0 hR hT ih F;(apply tH hw dF fr;kernel_rfl!)
  |false=>
   refine⟨_,L0,aq (dec 650) (.cut 119 _ [(4,false,SL,ai (vs.map iv) lK),(7,true,it,aC "list_iterator" (.ref SL) i)] Unit _ (λaf=>[(7,it,aC "list_iterator" (.ref SL) (i+1))]) (λaf=>[]) λaf af tk0=>
    aq (dec 22339284931145) (.cut 119 _ [(2,false,z.D,bU (v.l.map Node.key) v.ep)] Unit _ (λaf=>[]) (λaf=>[]) λaf af aF=>
    aq (dec 293497712412462091071196008522595434195636213379971087117824595321417587467340732773975281341331550464316773657013391767082604157550073594024521) (.cut 119 _ [] Unit _ (λaf=>[]) (λaf=>[]) λaf af af=>
    aq (dec 0) (.wide 92 _ [(3,true,y.I,eK y.dI (.int y.n y.nt) (y.q+(-1)) (aF+3) y.SL),(5,true,RL,ai (aH.map iv) rep),(6,true,loc,lJ w z tup pt xI xq k1 k2 k3 k4 k5 k6 pn (qI w (some (tM fr tk0,iv p,tN fr aF,.ref y.I)))),(7,true,it,aC "list_iterator" (.ref SL) (i+1))] (SV×List (Int×Nat)×Nat×Option (Nat×aj×Nat×aj)) _ (λaf=>[]) λx' h3 af af=>
    .done (.ok .next) [] [])))),
    au (ay (lG w it SL i (vs.map iv) lK _ hv) λaf af tk0=>au (ay (wo w z.D (v.l.map Node.key) v.ep p.1 p.2 y.key hfind) λaf af aF=>au (ay (wz w (y.q+(-1)) 0 (aF+3) (aF+6) false hq) λaf af af=>
    au (cC (ih (i+1) (dh v y (dD y (-1) (aF+3))) aH rep (some (tM fr tk0,iv p,tN fr aF,.ref y.I)) hr' ?hmC ?hlC ?ndC ?aa6 ?hxC) (λh a=>?EK) (λx h h' a T q=>?aa7) λx' h2 h3 af af a2 af q2=>
     bu λhp t' K T af af af af=>?aa8)))),?runC⟩
   case hmC=>exact λq hq=>(F _).2.1▸hm q (.tail _ hq)
   case hlC=>
    simp at hl⊢;exact yo hl
   case ndC=>exact(F _).2.1▸nd
   case aa6=>exact(F _).2.2.1.trans d8
   case hxC=>exact ly ((F _).2.2.2.2.2.1 x hx) λx' h' i1 i2 i3=>⟨x',h',i1.trans oX,i2.trans hxv,i3.trans wF⟩
   case EK=>
    skip
    exact(Lw ((F _).2.2.2.2.2.2.2 hP.left a.lies.top a.keeps (a.lies.has (y.I,eK y.dI (.int y.n y.nt) (y.q+(-1)) (aF+3) y.SL) aY) λb hb=>(aM.mp hb).elim .inl λhb=>.inr (hn _ hb)) (F _).1 hn (Lies.right (l:=[(true,y.I,eK y.dI (.int y.n y.nt) (y.q+(-1)) (aF+3) y.SL)]) a.lies))
   case aa7=>exact Lies.part q.1 (λaf hp=>nomatch hp) (eX _)
   case aa8=>exact hR x' hp t' T (Lx (F _).1 (F _).2.1 (F _).2.2.1 (F _).2.2.2.1 (F _).2.2.2.2.1 (((F _).2.2.2.2.2.2.1 aH).trans (by rw[hq])) (gC hy).1 a2.keeps T K q2)
   case runC=>
    clear hP gE L5 L0 hR hT ih F;(apply tH hw dF fr;kernel_rfl!)
noncomputable def tO(e:Int×List Int):Int×List Int:=(-2,e.2)
noncomputable def jm(x:Node):Node:={x with q:=-2,qt:=393}
theorem wJ{w:ao}{z:SS}{v:SV}{h h':az}{U:List Nat}{l:Led}(H:Lies (kt w.params) h (aO w z v++l))(T:aR (kt w.params) h')(K:Keeps U h h'){rd:aj}{np nf:Int}{u3 u4:Nat}(e:h'.get? z.d=some (bH w z {v with ready:=rd,np:=np,nf:=nf,u3:=u3,u4:=u4}))
  (hU:∀b∈U,b=z.d∨(b∉aE z v∧b∉adr l)):Lies (kt w.params) h' (aO w z {v with ready:=rd,np:=np,nf:=nf,u3:=u3,u4:=u4}++l):=by
 have z0:Lies (kt w.params) h ([(true,z.S,bY z.d)]++(true,z.d,bH w z v)::((true,z.D,bU (v.l.map Node.key) v.ep)::v.l.flatMap gw++l)):=H;refine z0.swap T K e λb hb=>(hU b hb).imp id λq=>?_;have e1:adr ([(true,z.S,bY z.d)]++(true,z.d,bH w z v)::((true,z.D,bU (v.l.map Node.key) v.ep)::v.l.flatMap gw++l))=aE z v++adr l:=by
  rw[←cP w z v];delta adr;rw[←aL];rfl
 rw[e1];exact λm=>(mA m).elim q.1 q.2
theorem aa9(w0:ao)(fb fc:Bool)(z:SS)(v:SV)(RL rep:Nat)(aH:List (Int×Nat))(p:Int)(t:Nat)(x:Node)(hx:x∈v.l)(hxn:x.n=p)(tP:x.q=-1)(hm:∀s∈x.vs,s.1∈names v)(hl:aH.length+x.vs.length≤1000)(nd:(names v).Nodup)(hrd:v.ready=.ref RL):
  Wide (ak w0 fb fc) 88 (.call (.ref 175) ⟨[.ref z.S,.int p t],[]⟩) (λh=>Lies (kt (ak w0 fb fc).params) h (aO (ak w0 fb fc) z v++[(true,RL,ai (aH.map iv) rep)])) (SV×List (Int×Nat)×Nat) (λaf=>.ok (.ret .none))
   (λx' h h'=>Lies (kt (ak w0 fb fc).params) h' (aO (ak w0 fb fc) z x'.1++[(true,RL,ai (x'.2.1.map iv) x'.2.2)])∧Keeps (aE z v++[RL]) h h'∧x'.1.ready=v.ready∧x'.1.np=v.np∧x'.1.nf=v.nf+1∧aE z x'.1=aE z v∧names x'.1=names v∧(x'.1.g,x'.2.1)=x.vs.foldl j7 (fm p tO v.g,aH)):=by
 obtain⟨rd,np,nf,u3,u4,cY,vl⟩:=v;obtain rfl:rd=.ref RL:=hrd;generalize dF:(⟨.ref RL,np,nf,u3,u4,cY,vl⟩:SV)=v at*;have d8:v.ready=.ref RL:=by rw[←dF]
 have hfind:=EH nd hx;rw[hxn]at hfind;refine jP (j6 hx (jm x)) λl1 l2 e1 e2=>?_;have es:aE z (dh v x (jm x))=aE z v:=by rw[e2];exact oR (y:=jm x) e1 rfl rfl
 have en:names (dh v x (jm x))=names v:=by rw[e2];exact wC (y:=jm x) e1 rfl
 have eg:(dh v x (jm x)).g=fm p tO v.g:=by rw[e2,←hxn];exact wB (y:=jm x) nd e1 rfl (by rfl)
 have hm2:∀s∈x.vs,s.1∈names (dh v x (jm x)):=en.symm▸hm;have jn:(names (dh v x (jm x))).Nodup:=en.symm▸nd;have Ly:jm x∈(dh v x (jm x)).l:=by rw[e2];exact inr (.head _)
 have EL:(dh v x (jm x)).ready=.ref RL:=by rw[e2];exact d8
 have gx:=λloc it tup xq k1 k2 k3 k4 k5 k6=>aaZ w0 fb fc z RL loc it x.SL x.ep tup t x.I xq k1 k2 k3 k4 k5 k6 p x.vs x.vs 0 (dh v x (jm x)) aH rep none rfl hm2 hl jn EL ⟨jm x,Ly,rfl,rfl,rfl⟩;have hget:∀w,Spec w 119 (.builtin Ez ⟨[.ref z.D,.int p t],[]⟩) [(false,z.D,bU (v.l.map Node.key) v.ep)] Unit (λaf=>.ok (.ret (.ref x.I))) (λaf=>[]) (λaf=>[]):=λw=>by
  have sp:=EA w z.D (v.l.map Node.key) v.ep p t;rw[hfind]at sp;exact sp
 generalize hw:ak w0 fb fc=w at*;refine d7 rfl rfl λA s R hT hP hR=>?_;have gE:=oW hP.left;have jD:RL∉aE z v:=hP.eL aY;have nc:RL<s.heap.objs.size:=hP.right.lt aY;have old:∀b∈aE z v,b<s.heap.objs.size:=λb hb=>hP.left.lt (cP w z v▸hb);refine vm (qH gE hx hx) λa1 a2 a3 a4 b5 b6 b7 a8 a9 iD=>?_;have L0:Lies (kt w.params) s.heap [(false,z.S,bY z.d),(false,z.d,bH w z v),(false,z.D,bU (v.l.map Node.key) v.ep),(true,x.I,eK x.dI (.int x.n x.nt) (-1) x.qt x.SL),(false,x.SL,x.lo)]:=by
  refine hP.left.pick (λp hp=>?_) (by
   simp only[adr,bP,iS,bA,aM,bO,or_false,not_or,not_false_eq_true,gT,and_true];exact⟨⟨a8,a9,a2,b5⟩,⟨iD,a3,b6⟩,⟨a4,b7⟩,a1⟩)
  have e:eK x.dI (.int x.n x.nt) (-1) x.qt x.SL=x.io:=by delta Node.io;rw[tP]
  rw[e]at hp;have hp:=pT hp;have mI:(true,x.I,x.io)∈aO w z v:=by
   delta aO;exact inr (eF.mpr ⟨x,hx,by exact aY⟩)
  have mS:(true,x.SL,x.lo)∈aO w z v:=by
   delta aO;exact inr (eF.mpr ⟨x,hx,by exact in1⟩)
  rcases hp with rfl|rfl|rfl|rfl|rfl
  ·exact .inr ⟨rfl,true,by exact inl aY⟩
  ·exact .inr ⟨rfl,true,by exact inl in1⟩
  ·exact .inr ⟨rfl,true,by exact inl bT⟩
  ·exact .inl mI
  ·exact .inr ⟨rfl,true,mS⟩
 refine⟨_,L0,aq (dec 2948215110816776772144211979970191588000463764481102754579195242808231844702237039279754843355585635164225) (.cut 119 _ [(2,false,z.D,bU (v.l.map Node.key) v.ep)] Unit _ (λaf=>[]) (λaf=>[]) λaf aU tk0=>
  aq (dec 39709162724557924306911918116195721198772113203373358239468830244632183759679114035313393631596147225062158360252352609930842921746206695686902263576580590944162377) (.wide 92 _ [(3,true,x.I,eK x.dI (.int x.n x.nt) (-2) 393 x.SL),(5,true,s.heap.objs.size,aK [.int p t]),(6,true,s.heap.objs.size+1,lJ w z s.heap.objs.size t x.I x.qt s.toks (s.toks+1) (s.toks+4) (s.toks+5) tk0 (tk0+2) p []),(7,true,s.heap.objs.size+2,aC "tuple_iterator" (.ref s.heap.objs.size) 1),(8,true,aU,aC "list_iterator" (.ref x.SL) 0)]
   (SV×List (Int×Nat)×Nat×Option (Nat×aj×Nat×aj)) _ (λx'=>[(false,z.S,bY z.d),(true,z.d,bH w z {x'.1 with ready:=.ref RL})]++[(true,s.heap.objs.size+1,lJ w z s.heap.objs.size t x.I x.qt s.toks (s.toks+1) (s.toks+4) (s.toks+5) tk0 (tk0+2) p (qI w x'.2.2.2))]++[(false,s.heap.objs.size,aK [.int p t]),(true,s.heap.objs.size+2,aC "tuple_iterator" (.ref s.heap.objs.size) 1)]) λx' h3 bW bV=>
  aq (dec 249339815612839104210963198377475815425240859898852388075163348893962437) (.done (.ok (.ret .none)) [(1,z.d,bH w z {x'.1 with ready:=.ref RL,nf:=x'.1.nf+1,u4:=bV+2})] []))),
  au (ay (hget w) λaf aU tk0=>au (cC (gx (s.heap.objs.size+1) aU s.heap.objs.size x.qt s.toks (s.toks+1) (s.toks+4) (s.toks+5) tk0 (tk0+2)) (λh a=>?pre) (λx' h h' a T q=>?led) λx' h2 h3 bW bV a2 T3 q2=>
   au (bu λhp t' K T hu af af af=>?fin))),?run⟩
 case pre=>
  rw[e2];have K:Keeps [x.I] s.heap h:=a.keeps;have S2:=Ad (q:=-2) (qt:=393) hP.left e1 a.lies.top K (a.lies.has (x.I,eK x.dI (.int x.n x.nt) (-2) 393 x.SL) aY) (λb hb=>by
   exact .inl (jN hb))
  have O1:Lies (kt w.params) h [(true,RL,ai (aH.map iv) rep)]:=hP.right.keep a.lies.top K λp hp m=>by
   obtain rfl:p=(true,RL,ai (aH.map iv) rep):=by simpa using hp
   exact jD ((by simpa using m)▸(gC hx).1)
  have f0:s.heap.objs.size≤aU:=a.fresh (8,true,aU,aC "list_iterator" (.ref x.SL) 0) in4 (show 5≤8 from by decide)
  have O2:Lies (kt w.params) h [(true,s.heap.objs.size+1,lJ w z s.heap.objs.size t x.I x.qt s.toks (s.toks+1) (s.toks+4) (s.toks+5) tk0 (tk0+2) p []),(true,aU,aC "list_iterator" (.ref x.SL) 0)]:=a.lies.part (λp hp=>.inl (by
    apply bJ hp<;>(first|exact bT|exact in4))) (by
    show[s.heap.objs.size+1,aU].Sublist [x.I,s.heap.objs.size,s.heap.objs.size+1,s.heap.objs.size+2,aU];exact .cons _ (.cons _ (.cons_cons _ (.cons _ (.cons_cons _ .slnil)))))
  have O:Lies (kt w.params) h ([(true,RL,ai (aH.map iv) rep)]++[(true,s.heap.objs.size+1,lJ w z s.heap.objs.size t x.I x.qt s.toks (s.toks+1) (s.toks+4) (s.toks+5) tk0 (tk0+2) p []),(true,aU,aC "list_iterator" (.ref x.SL) 0)]):=O1.join O2 λb hb hc=>by
   obtain rfl:b=RL:=by simpa[adr]using hb
   have hc:=b3 hc;rcases hc with hc|hc<;>(first|exact IT nc hc|exact E1 nc hc f0)
  refine S2.join O λb hb hc=>?_;have hb:=cP w z _▸hb;rw[oR (y:={x with q:=-2,qt:=393}) e1 rfl rfl]at hb
  have:=old b hb;have hc:b∈[RL,s.heap.objs.size+1,aU]:=hc;have hc:=fB hc;rcases hc with rfl|hc|hc
  ·exact jD hb
  ·exact IT this hc
  ·exact E1 this hc f0
 case led=>
  refine CI q λq1 q2 q3 q4 q5 q6=>?_;have dS:=a.lies.nd;have dS:[x.I,s.heap.objs.size,s.heap.objs.size+1,s.heap.objs.size+2,aU].Nodup:=dS;simp only[bA,aM,bO,or_false,not_or]at dS;have EP:x'.1={x'.1 with ready:=.ref RL}:=by
   rw[←(q3.ready.trans EL)]
  have LH:Lies (kt w.params) h' [(false,z.S,bY z.d),(true,z.d,bH w z x'.1),(true,s.heap.objs.size+1,lJ w z s.heap.objs.size t x.I x.qt s.toks (s.toks+1) (s.toks+4) (s.toks+5) tk0 (tk0+2) p (qI w x'.2.2.2))]:=q1.part (λp hp=>by
   apply cB hp
   ·exact .inr ⟨rfl,true,by exact inl (inl aY)⟩
   ·exact .inl (inl (inl in1))
   ·exact .inl (inr in1)) (by
   delta adr;rw[aL];have e:(aO w z x'.1).map (·.2.1)=aE z x'.1:=cP w z _;rw[e];show[z.S,z.d,s.heap.objs.size+1].Sublist (z.S::z.d::z.D::_++[RL,s.heap.objs.size+1]);refine .cons_cons _ (.cons_cons _ (.cons _ ?_));refine List.Sublist.trans ?_ (pU _ _);exact .cons _ (.cons_cons _ .slnil))
  rw[EP]at LH;have O2:Lies (kt w.params) h [(false,s.heap.objs.size,aK [.int p t]),(true,s.heap.objs.size+2,aC "tuple_iterator" (.ref s.heap.objs.size) 1)]:=a.lies.part (λp hp=>by
    apply bJ hp
    ·exact .inr ⟨rfl,true,by exact in1⟩
    ·exact .inl eW) (by
    show[s.heap.objs.size,s.heap.objs.size+2].Sublist [x.I,s.heap.objs.size,s.heap.objs.size+1,s.heap.objs.size+2,aU];exact .cons _ (.cons_cons _ (.cons _ (.cons_cons _ (.cons _ .slnil)))))
  have ER:=O2.keep T q2 λp hp m=>by
   rw[es]at m;have:p.2.1=s.heap.objs.size∨p.2.1=s.heap.objs.size+2:=by
    apply bJ hp
    ·exact .inl rfl
    ·exact .inr rfl
   rcases mA m with m|m
   ·exact Ul (old _ m) ‹_›
   ·exact Xp nc dS.2.1.2.2 dS.2.2.2.1 this (fB m)
  exact LH.join ER λb hb hc=>by
   simp only[adr,bP,iS,aM,bO,or_false,List.cons_append,pX]at hb hc;exact Xm (old _ (bL (z:=z) (v:=v)).1) (old _ (bL (z:=z) (v:=v)).2.1) hb hc
 case fin=>
  refine CI q2 λq1 q2 q3 q4 q5 q6=>?_;have K1:Keeps [x.I] s.heap h2:=a2.keeps;have f0:s.heap.objs.size≤aU:=a2.fresh (8,true,aU,aC "list_iterator" (.ref x.SL) 0) in4 (show 5≤8 from by decide)
  have K3:Keeps [z.d,s.heap.objs.size+1,s.heap.objs.size+2] h3 hp:=K;have KA:Keeps (aE z v++[RL]) s.heap h2:=K1.oU λa ha=>.inl (by
   apply cV ha;exact inl (gC hx).1)
  have KB:Keeps (aE z v++[RL]) s.heap h3:=KA.trans' q2 λa ha=>by
   rw[es]at ha;rcases mA ha with ha|ha
   ·exact .inl (inl ha)
   ·apply cB ha
    ·exact .inl (inr aY)
    ·exact .inr E2
    ·exact .inr (by assumption)
  have KC:Keeps (aE z v++[RL]) s.heap hp:=KB.trans' K3 λa ha=>by
   apply cB ha
   ·exact .inl (inl bL.2.1)
   ·exact .inr E2
   ·exact .inr CE
  have EV:Lies (kt w.params) h3 (aO w z x'.1++[(true,RL,ai (x'.2.1.map iv) x'.2.2.1)]):=q1.part (λp hp=>.inl (by
   rcases mA hp with hp|hp
   ·exact inl hp
   ·exact inr (by simp only[aM,bO,or_false]at hp⊢;exact .inl hp))) (by
   delta adr;rw[aL,aL];exact vB (mO _) (.cons_cons _ (eX _)))
  have LL:=wJ EV T K3 (hu (z.d,bH w z {x'.1 with ready:=.ref RL,nf:=x'.1.nf+1,u4:=bV+2}) aY) λb hb=>by
   rw[q4,es];apply cB hb
   ·exact .inl rfl
   ·refine .inr ⟨λm=>?_,λm=>?_⟩
    ·exact vg (old _ m)
    ·exact IE (by simpa[adr]using m) nc
   ·refine .inr ⟨λm=>?_,λm=>?_⟩
    ·exact H8 (old _ m)
    ·exact TN (by simpa[adr]using m) nc
  refine hR ({x'.1 with ready:=.ref RL,nf:=x'.1.nf+1,u4:=bV+2},x'.2.1,x'.2.2.1) hp t' T ⟨LL,KC,d8.symm,?_,?_,q4.trans es,q5.trans en,?_⟩
  ·exact q3.np.trans (by rw[e2])
  ·exact congrArg (·+1) (q3.nf.trans (by rw[e2]))
  ·rw[←eg];exact q6
 case run=>
  clear hP old hR hT nd gE gx hget L0 hfind e1 e2 es en eg hm2 jn Ly EL d8 hx hm hl a1 a2 a3 a4 b5 b6 b7 a8 a9 iD jD nc l1 l2;(apply Ew hw dF;kernel_rfl!)
theorem ng{prog:f6}{w:ao}{id:String}{B:eY}{args:Args}{S:PySem.Spec}(pl:qf id=true)(en:oj table id=some B)(g:Meets (B args) S){A:aV}{R:aW→aA→Prop}{s:aA}(h:S A R s):gU (model prog w) A (.builtin id args) R s:=by
 refine cN en ?_;rw[gO pl _];exact g prog w A R s h
noncomputable def bump(vs:List aj)(e:Nat):Nat:=match vs with
 |[]=>e
 |_::_=>e+1
theorem abb{s:aA}{X:Type}{res:X→aW}{R:aW→aA→Prop}{o:Obj}(x:X)(hR:Fin' s X res (λaf=>[]) (λaf=>[(s.heap.objs.size,o)]) R)(t:Nat)(h1:o.isFreed=false):
  R (res x) ⟨s.heap.push o,s.gens,s.drawn,t,s.os⟩:=
 hR x _ t (Keeps.push _ _ _) (λaf h=>nomatch h) (λp hp=>by
  apply cV hp;exact jg s.heap h1) (λp hp=>by
  apply cV hp;exact bk _) (by simp)
theorem abd(l:Nat)(vs:List aj)(ep:Nat)(hl:vs.length≤1000):
  Meets (eY.«tuple.__new__» ⟨[.type "tuple",.ref l],[]⟩) (λaf R s=>s.heap.get? l=some (ai vs ep)∧R (.ok (.ret (.ref (s.heap.objs.size+1)))) {s with heap:=((s.heap.push (seqObj "list" #[] 0)).update s.heap.objs.size (cz (·++vs.toArray))).push (aK vs)}):=
 .of_wp λprog w A R s h=>by
  obtain⟨hp,g,d,tk,os⟩:=s;obtain⟨ht,h⟩:=h;have hsub:=sub_tuple_self;have ahJ:=init_tuple_lookup;have hmh:=madeHere_tuple;have hT:Shared.TypeIs ⟨hp,g,d,tk,os⟩ (.ref l) "list":=⟨_,ht,rfl⟩;have hL:Heap.IsList hp l vs.toArray:=⟨_,ht,rfl,ep,rfl⟩;wp_walk using zB ht,vK hT,collect_list (hsz:=by rw[fQ];exact pS hl) hL
  refine c9 (decide_eq_false (show ¬vs.toArray.size>sizeLine from by rw[fQ];simp;exact pS hl)) ?_
  wp_walk using zB ht
  refine⟨_,rfl,?_⟩;have hz:((hp.push (seqObj "list" #[] 0)).update hp.objs.size (cz (·++vs.toArray))).objs.size=hp.objs.size+1:=by rw[jA,iH]
  show R (.ok (.ret (.ref ((hp.push (seqObj "list" #[] 0)).update hp.objs.size (cz (·++vs.toArray))).objs.size))) _;rw[hz];exact h
theorem abe(w:ao)(l:Nat)(vs:List aj)(ep:Nat)(hl:vs.length≤1000):Spec w 119 (.builtin "tuple.__new__" ⟨[.type "tuple",.ref l],[]⟩) [(false,l,ai vs ep)] Nat
  (λx=>.ok (.ret (.ref x))) (λaf=>[]) (λx=>[(x,aK vs)]):=by
 intro A s R hA hT hP _ _ hR;refine ng (by decide+kernel) F.entry_tuple_new (abd l vs ep hl) ⟨(cL hP),?_⟩
 have hz:((s.heap.push (seqObj "list" #[] 0)).update s.heap.objs.size (cz (·++vs.toArray))).objs.size=s.heap.objs.size+1:=by rw[jA,iH]
 refine hR (s.heap.objs.size+1) _ s.toks ⟨by rw[iH,hz];exact Ss,λb o af e=>?_⟩ (λaf h=>nomatch h) (λp hp=>?_) (λp hp=>?_) (by simp)
 ·exact gV _ ((qg _ _ (qa (vO e))).trans (gV _ e))
 ·apply cV hp;have:=jg ((s.heap.push (seqObj "list" #[] 0)).update s.heap.objs.size (cz (·++vs.toArray))) (o:=aK vs) rfl;rw[hz]at this;exact this
 ·apply cV hp;exact jU _
theorem abf(w:ao)(l:Nat)(vs:List aj)(ep:Nat)(hl:vs.length≤1000):Spec w 119 (.builtin "list.clear" ⟨[.ref l],[]⟩) [(true,l,ai vs ep)] Unit
  (λaf=>.ok (.ret .none)) (λaf=>[(l,ai [] (bump vs ep))]) (λaf=>[]):=by
 intro A s R hA hT hP _ _ hR;have hd:s.heap.get? l=some (ai vs ep):=cL hP;refine ng (by decide+kernel) F.entry_list_clear (AutoSeq1.list_clear_list_0 l ⟨vs⟩ ep (by rw[fQ];show vs.length≤_;exact pS hl)) ⟨hd,?_⟩
 refine m6 hR () _ hd ?_ rfl;cases vs<;>rfl
theorem EW(w:ao)(S it:Nat)(T:String)(vs:List aj)(ep:Nat)(hT:T="list"∨T="tuple")(hl:vs.length≤1000):Spec w 110 (.builtin "list.__init__" ⟨[.ref S,.ref it],[]⟩) [(false,it,⟨.type T,none,.seq ⟨vs⟩ ep,#[]⟩),(true,S,ai [] 0)] Unit
  (λaf=>.ok (.ret .none)) (λaf=>[(S,ai vs (bump vs 0))]) (λaf=>[]):=by
 intro A s R hA hTT hP hN _ hR;have hd:s.heap.get? S=some (ai [] 0):=hP (S,_) (.tail _ (.head _));have hne:it≠S:=λe=>by
  subst e;simp at hN
 refine cN F.entry_list_init ?_;rw[gO (by decide+kernel) _]
 refine wpAny_list_init_seq (hsz:=by rw[fQ];show vs.length≤_;exact pS hl) S it hT hne hd (cL hP) rfl rfl ?_
 refine hR () _ s.toks ((Keeps.upd _ (.head _)).trans (Keeps.upd _ (.head _))) (λp hp=>?_) (λaf h=>nomatch h) (λaf h=>nomatch h) .nil;apply cV hp;have e:((#[]:Array aj)++(⟨vs⟩:Array aj))=⟨vs⟩:=by simp
 have e2:cz (·++(⟨vs⟩:Array aj)) (cz (λaf=>(#[]:Array aj)) (ai [] 0))=⟨.type "list",none,.seq (#[]++(⟨vs⟩:Array aj)) (if(#[]++(⟨vs⟩:Array aj)).size==0 then 0 else 1),#[]⟩:=rfl
 rw[e]at e2;refine(iW (cz (·++(⟨vs⟩:Array aj))) (iW (cz (λaf=>(#[]:Array aj))) hd rfl) rfl).trans (congrArg some (e2.trans ?_));cases vs<;>rfl
structure Kept(z:SS)(v v':SV):Prop where
 ready:v'.ready=v.ready
 np:v'.np=v.np
 nf:v'.nf=v.nf
 aE:aE z v'=aE z v
 names:names v'=names v
theorem Kept.trans{z:SS}{v v' v'':SV}(a:Kept z v v')(b:Kept z v' v''):Kept z v v'':=
 ⟨b.ready.trans a.ready,b.np.trans a.np,b.nf.trans a.nf,b.aE.trans a.aE,b.names.trans a.names⟩
theorem Kept.refl(z:SS)(v:SV):Kept z v v:=⟨rfl,rfl,rfl,rfl,rfl⟩
theorem abg{z:SS}{v:SV}{x y:Node}(hx:x∈v.l)(nd:(names v).Nodup)(hn:y.n=x.n)(hI:y.I=x.I)(hS:y.SL=x.SL)(f:Int×List Int→Int×List Int)(hy:(y.q,y.vs.map (·.1))=f (x.q,x.vs.map (·.1))):
  Kept z v (dh v x y)∧(dh v x y).g=fm x.n f v.g∧y∈(dh v x y).l:=by
 refine jP (j6 hx y) λl1 l2 e1 e2=>?_;rw[e2];exact⟨⟨rfl,rfl,rfl,oR e1 hI hS,wC e1 hn⟩,wB nd e1 hn hy,inr (.head _)⟩
theorem abh{w:ao}{z:SS}{v:SV}{x:Node}{h h':az}{U:List Nat}{q:Int}{qt:Nat}(hx:x∈v.l)(H:Lies (kt w.params) h (aO w z v))(T:aR (kt w.params) h')(K:Keeps U h h')(e:h'.get? x.I=some (eK x.dI (.int x.n x.nt) q qt x.SL))
  (hU:∀b∈U,b=x.I∨b∉aE z v):Lies (kt w.params) h' (aO w z (dh v x {x with q:=q,qt:=qt})):=by
 refine jP (j6 hx {x with q:=q,qt:=qt}) λl1 l2 e1 e2=>?_
 rw[e2];exact Ad H e1 T K e hU
theorem mem_objs{w:ao}{z:SS}{v:SV}{x:Node}(hx:x∈v.l):(true,x.I,x.io)∈aO w z v∧(true,x.SL,x.lo)∈aO w z v:=by
 delta aO;exact⟨inr (eF.mpr ⟨x,hx,by exact aY⟩),inr (eF.mpr ⟨x,hx,by exact in1⟩)⟩
theorem iz{w:ao}{z:SS}{v:SV}:(true,z.S,bY z.d)∈aO w z v∧(true,z.d,bH w z v)∈aO w z v∧(true,z.D,bU (v.l.map Node.key) v.ep)∈aO w z v:=by
 exact⟨aY,in1,bT⟩
theorem lM{w:ao}{z:SS}{v:SV}{h:az}(H:Lies (kt w.params) h (aO w z v)):∀b∈aE z v,b<h.objs.size:=λb hb=>H.lt (cP w z v▸hb)
theorem abi{v:SV}{p:Int}(h:p∈names v):∃y∈v.l,y.n=p:=aN.mp h
theorem EX{v:SV}(nd:(names v).Nodup){x:Node}{p:Int}(hx:x∈v.l)(e:x.n=p):(v.l.map Node.key).find? (λy=>y.1==p)=some x.key:=e▸EH nd hx
theorem Lies.one{kt:bZ}{h:az}{a:Nat}{o:Obj}{m:Bool}(e:h.get? a=some o)(off:kt.get a=none)(T:aR kt h):Lies kt h [(m,a,o)]:=
 ⟨λq hq=>by obtain rfl:=sA hq;exact e,by simp,λp hp af=>by obtain rfl:=sA hp;exact off,T⟩
def EY:bR:=sub 4 (st 16)
noncomputable def abj:Str:=⟨⟨[84,111,112,111,108,111,103,105,99,97,108,83,111,114,116,101,114,46,103,101,116,95,114,101,97,100,121,46,60,108,111,99,97,108,115,62,46]⟩⟩
def abk(it loc:Nat):bf:=.forLoop (dg (sub 3 EY)) (.ref it) (fBody (sub 3 EY)) [] (envOf EY abj 154 153 loc)
def lN(w:ao):Option (Nat×aj)→List bx
 |none=>[]
 |some (a,x)=>[de w gW a x]
noncomputable def bE(fr:Option (Nat×aj))(tk:Nat):Nat:=match fr with
 |none=>tk
 |some f=>f.1
def nh(w:ao)(z:SS)(tup k1 k2 k3:Nat)(ex:List bx):Obj:=
 iK ([de w f9 k1 (.ref z.S),de w Ef k2 (.ref tup),de w tC k3 (.ref z.D)]++ex)
def qK(w:ao)(z:SS)(loc it tup k1 k2 k3:Nat)(vs:List aj)(i:Nat)(ex:List bx):Led:=
 [(true,loc,nh w z tup k1 k2 k3 ex),(false,tup,aK vs),(true,it,aC "tuple_iterator" (.ref tup) i)]
noncomputable def tQ(e:Int×List Int):Int×List Int:=(-1,e.2)
noncomputable def EZ(x:Node):Node:={x with q:=-1,qt:=390}
theorem abl(w0:ao)(fb fc:Bool)(z:SS)(loc it tup k1 k2 k3:Nat)(vs:List (Int×Nat)):∀(r:List (Int×Nat)) (i:Nat) (v:SV) (fr:Option (Nat×aj)),vs.drop i=r→(∀p∈r,p.1∈names v)→(names v).Nodup→
  Wide (ak w0 fb fc) 92 (abk it loc) (λh=>Lies (kt (ak w0 fb fc).params) h (aO (ak w0 fb fc) z v++qK (ak w0 fb fc) z loc it tup k1 k2 k3 (vs.map iv) i (lN (ak w0 fb fc) fr))) (SV×Option (Nat×aj)) (λaf=>.ok .next)
   (λx h h'=>Lies (kt (ak w0 fb fc).params) h' (aO (ak w0 fb fc) z x.1++[(true,loc,nh (ak w0 fb fc) z tup k1 k2 k3 (lN (ak w0 fb fc) x.2))])∧Keeps (aE z v++[loc,it]) h h'∧Kept z v x.1∧x.1.g=r.foldl (λg p=>fm p.1 tQ g) v.g):=by
 intro r;generalize hw:ak w0 fb fc=w;induction r with
 |nil=>
  intro i v fr hr hm nd;refine d7 rfl rfl λA s R hT hP hR=>?_;have hn:∀b∈[loc,tup,it],b∉aE z v:=λb hb=>hP.eL (by simpa[qK,adr]using hb)
  refine⟨_,hP.right,aq (dec 325) (.cut 110 _ [(1,false,tup,aK (vs.map iv)),(2,true,it,aC "tuple_iterator" (.ref tup) i)] Nat _ (λaf=>[(2,it,aC "tuple_iterator" .none i)]) _
    λx af af=>aq (dec 7) (.done (.ok .next) [(0,loc,nh w z tup k1 k2 k3 (lN w fr))] [])),au (ay (EC w it tup i (vs.map iv) (by simp[(kE.mp hr)])) λx af af=>au (bu λhp t' K T hu af af af=>?_)),?_⟩
  ·have K:Keeps [loc,it] s.heap hp:=K;have S1:Lies (kt w.params) hp (aO w z v):=hP.left.keep T K λp hp m=>by
    have m':p.2.1∈aE z v:=cP w z v▸mD hp;have m:=b3 m;rcases m with m|m
    ·exact hn loc aY (m▸m')
    ·exact hn it bT (m▸m')
   refine hR (v,fr) hp t' T ⟨S1.join (Lies.one (hu (loc,nh w z tup k1 k2 k3 (lN w fr)) aY) (hP.right.off (true,loc,nh w z tup k1 k2 k3 (lN w fr)) aY rfl) T) λb hb hc=>?_,K.oU λa ha=>.inl (inr ha),Kept.refl z v,rfl⟩;obtain rfl:b=loc:=by simpa[adr]using hc
   exact hn b aY (cP w z v▸hb)
  ·subst hw;(apply ck (fb:=fb);kernel_rfl!)
 |cons p r ih=>
  intro i v fr hr hm nd;have hv:(vs.map iv)[i]?=some (iv p):=by
   have:=congrArg (λl=>l[0]?) hr;simp only[nZ,n9,nX]at this;rw[dK,this];rfl
  have hr':vs.drop (i+1)=r:=by
   rw[←iR,hr];rfl
  refine aS (abi (hm p (.head _))) λy hy m8=>?_;refine d7 rfl rfl λA s R hT hP hR=>?_;have hn:∀b∈[loc,tup,it],b∉aE z v:=λb hb=>hP.eL (by simpa[qK,adr]using hb)
  have nl:[loc,tup,it].Nodup:=hP.right.nd;have gE:=oW hP.left;refine vm (qH gE hy hy) λa1 a2 a3 a4 b5 b6 b7 a8 a9 iD=>?_;have L0:Lies (kt w.params) s.heap ([(false,z.D,bU (v.l.map Node.key) v.ep),(true,y.I,y.io)]++qK w z loc it tup k1 k2 k3 (vs.map iv) i (lN w fr)):=by
   refine Lies.join (hP.left.pick (λp hp=>?_) ?_) hP.right λb hb hc=>?_
   ·apply bJ hp
    ·exact .inr ⟨rfl,true,iz.2.2⟩
    ·exact .inl (mem_objs hy).1
   ·simp only[adr,bP,iS,bA,aM,bO,or_false,not_false_eq_true,gT,and_true];exact a4
   ·refine hn b (by simpa[qK,adr]using hc) ?_
    apply bJ hb
    ·exact bL.2.2
    ·exact(gC hy).1
  have SK:=abg (z:=z) (y:=EZ y) hy nd rfl rfl rfl tQ (by rfl)
  refine⟨_,L0,aq (dec 455) (.cut 119 _ [(3,false,tup,aK (vs.map iv)),(4,true,it,aC "tuple_iterator" (.ref tup) i)] Unit _ (λaf=>[(4,it,aC "tuple_iterator" (.ref tup) (i+1))]) (λaf=>[]) λaf af tk0=>
    aq (dec 857828534522181) (.cut 119 _ [(0,false,z.D,bU (v.l.map Node.key) v.ep)] Unit _ (λaf=>[]) (λaf=>[]) λaf af aF=>
    aq (dec 5732690843536082841239126515559157578837790788) (.wide 92 _ [(1,true,y.I,eK y.dI (.int y.n y.nt) (-1) 390 y.SL),(2,true,loc,nh w z tup k1 k2 k3 (lN w (some (bE fr tk0,iv p)))),(3,false,tup,aK (vs.map iv)),(4,true,it,aC "tuple_iterator" (.ref tup) (i+1))] (SV×Option (Nat×aj)) _ (λaf=>[]) λx' h3 af af=>
    .done (.ok .next) [] []))),
    au (ay (EB w it tup i (vs.map iv) _ hv) λaf af tk0=>au (ay (wo w z.D (v.l.map Node.key) v.ep p.1 p.2 y.key (EX nd hy m8)) λaf af aF=>au (cC (ih (i+1) (dh v y (EZ y)) (some (bE fr tk0,iv p)) hr' ?EJ ?dG) (λh a=>?qJ) (λx h h' a T q=>?wG) λx' h2 h3 af af a2 af q2=>
     bu λhp t' K T af af af af=>?wH))),?wI⟩
  case EJ=>exact λq hq=>SK.1.names▸hm q (.tail _ hq)
  case dG=>exact SK.1.names▸nd
  case qJ=>
   have S2:=abh (q:=-1) (qt:=390) hy hP.left a.lies.top a.keeps (a.lies.has (y.I,eK y.dI (.int y.n y.nt) (-1) 390 y.SL) aY) (λb hb=>by
    apply cB hb
    ·exact .inl rfl
    ·exact .inr (hn _ aY)
    ·exact .inr (hn _ bT))
   refine S2.join (Lies.right (l:=[(true,y.I,eK y.dI (.int y.n y.nt) (-1) 390 y.SL)]) a.lies) λb hb hc=>?_;have hb:=cP w z _▸hb;have e:=SK.1.aE;unfold EZ at e;rw[e]at hb;exact hn b (by simpa[qK,adr]using hc) hb
  case wG=>exact Lies.part q.1 (λaf hp=>nomatch hp) (eX _)
  case wH=>
   refine kC q2 λr1 r2 r3 r4=>?_;have K:Keeps [] h3 hp:=K;have KB:Keeps (aE z v++[loc,it]) s.heap h2:=a2.keeps.oU λa ha=>by
    rcases aM.mp ha with rfl|ha
    ·exact .inl (inl (gC hy).1)
    ·exact .inl (inr ha)
   refine hR x' hp t' T ⟨r1.ext T K,(KB.trans' r2 (λa ha=>.inl (SK.1.aE▸ha))).trans' K (λaf h=>nomatch h),SK.1.trans r3,?_⟩;rw[r4,SK.2.1,m8,lz]
  case wI=>
   clear hP gE L0 hR hT ih nl hn a1 a2 a3 a4 b5 b6 b7 a8 a9 iD SK nd hm m8 hy hv hr hr';(apply jC hw fr;kernel_rfl!)
theorem Fb(w0:ao)(fb fc:Bool)(z:SS)(v:SV)(RL rep:Nat)(aH:List (Int×Nat))(hl:aH.length≤6)(hm:∀p∈aH,p.1∈names v)(nd:(names v).Nodup)(hrd:v.ready=.ref RL):
  Wide (ak w0 fb fc) 88 (.call (.ref 154) ⟨[.ref z.S],[]⟩) (λh=>Lies (kt (ak w0 fb fc).params) h (aO (ak w0 fb fc) z v++[(true,RL,ai (aH.map iv) rep)])) (SV×Nat) (λx=>.ok (.ret (.ref x.2)))
   (λx' h h'=>Lies (kt (ak w0 fb fc).params) h' (aO (ak w0 fb fc) z x'.1++[(true,RL,ai [] (bump (aH.map iv) rep)),(true,x'.2,aK (aH.map iv))])∧Keeps (aE z v++[RL]) h h'∧h.objs.size≤x'.2∧x'.1.ready=v.ready∧x'.1.np=v.np+aH.length∧x'.1.nf=v.nf∧aE z x'.1=aE z v∧names x'.1=names v∧x'.1.g=aH.foldl (λg p=>fm p.1 tQ g) v.g):=by
 obtain⟨rd,np,nf,u3,u4,cY,vl⟩:=v;obtain rfl:rd=.ref RL:=hrd;generalize dF:(⟨.ref RL,np,nf,u3,u4,cY,vl⟩:SV)=v at*;have d8:v.ready=.ref RL:=by rw[←dF]
 have gx:=λloc it tup k1 k2 k3=>abl w0 fb fc z loc it tup k1 k2 k3 aH aH 0 v none rfl hm nd;generalize hw:ak w0 fb fc=w at*;refine d7 rfl rfl λA s R hT hP hR=>?_;have gE:=oW hP.left;have jD:RL∉aE z v:=hP.eL aY;have nc:RL<s.heap.objs.size:=hP.right.lt aY;have old:=lM hP.left;have L0:Lies (kt w.params) s.heap ([(false,z.S,bY z.d),(false,z.d,bH w z v)]++[(true,RL,ai (aH.map iv) rep)]):=(m7 hP.left).join hP.right λb hb hc=>by
  obtain rfl:b=RL:=by simpa[adr]using hc
  have hb:=b3 hb;rcases hb with rfl|rfl
  ·exact jD bL.1
  ·exact jD bL.2.1
 refine⟨_,L0,aq (dec 1613514006950354537839457850994659220262133607998836264411201) (.cut 119 _ [(2,false,RL,ai (aH.map iv) rep)] Nat _ (λaf=>[]) (λx=>[(x,aK (aH.map iv))]) λtup aU tk0=>
  aq (dec 733763897041409114524920770257601900010656264647) (.wide 92 _ [(2,true,RL,ai (aH.map iv) rep),(3,true,s.heap.objs.size,nh w z tup s.toks tk0 (tk0+2) []),(4,true,tup,aK (aH.map iv)),(5,true,aU,aC "tuple_iterator" (.ref tup) 0)]
   (SV×Option (Nat×aj)) _ (λx'=>[(false,z.S,bY z.d),(true,z.d,bH w z {x'.1 with ready:=.ref RL}),(true,s.heap.objs.size,nh w z tup s.toks tk0 (tk0+2) (lN w x'.2))]++[(true,RL,ai (aH.map iv) rep),(true,tup,aK (aH.map iv))]) λx' h3 bW bV=>
  aq (dec 30906528910032982370903818244293) (.cut 119 _ [(3,true,RL,ai (aH.map iv) rep)] Unit _ (λaf=>[(3,RL,ai [] (bump (aH.map iv) rep))]) (λaf=>[]) λaf d9 eO=>
  aq (dec 533247934117845303820831337413839395876323581173080287247954350277) (.done (.ok (.ret (.ref tup))) [(1,z.d,bH w z {x'.1 with ready:=.ref RL,np:=x'.1.np+aH.length,u3:=eO+3}),(3,RL,ai [] (bump (aH.map iv) rep)),(4,tup,aK (aH.map iv))] [])))),
  au (ay (abe w RL (aH.map iv) rep (by rw[bl];exact Il hl)) λtup aU tk0=>au (cC (gx s.heap.objs.size aU tup s.toks tk0 (tk0+2)) (λh a=>?pre) (λx' h h' a T q=>?led) λx' h2 h3 bW bV a2 T3 q2=>
   au (ay (abf w RL (aH.map iv) rep (by rw[bl];exact Il hl)) λaf af eO=>au (bu λhp t' K T hu af af af=>?fin)))),?run⟩
 case run=>
  clear hP old hR hT nd gE gx L0 hm jD nc d8;subst hw;subst dF;rcases aH with _|⟨p1,_|⟨p2,_|⟨p3,_|⟨p4,_|⟨p5,_|⟨p6,_|⟨p7,r⟩⟩⟩⟩⟩⟩⟩
  ·(apply ck (fb:=fb);kernel_rfl!)
  ·(apply ck (fb:=fb);kernel_rfl!)
  ·(apply ck (fb:=fb);kernel_rfl!)
  ·(apply ck (fb:=fb);kernel_rfl!)
  ·(apply ck (fb:=fb);kernel_rfl!)
  ·(apply ck (fb:=fb);kernel_rfl!)
  ·(apply ck (fb:=fb);kernel_rfl!)
  ·trivial
 case pre=>
  have K:Keeps [RL] s.heap h:=a.keeps;have O:Lies (kt w.params) h (qK w z s.heap.objs.size aU tup s.toks tk0 (tk0+2) (aH.map iv) 0 (lN w none)):=a.lies.part (λp hp=>by
   apply cB hp
   ·exact .inl in1
   ·exact .inr ⟨rfl,true,by exact bT⟩
   ·exact .inl eW) (.cons _ (mO _))
  refine(hP.left.keep a.lies.top K λp hp m=>jD (cP w z v▸(by simpa using m:p.2.1=RL)▸mD hp)).join O λb hb hc=>?_
  exact Xb (old b (cP w z v▸hb)) (fB hc) (a.fresh (4,true,tup,aK (aH.map iv)) bT (show 3≤4 by decide)) (a.fresh (5,true,aU,aC "tuple_iterator" (.ref tup) 0) eW (show 3≤5 by decide))
 case led=>
  refine kC q λq1 q2 q3 q4=>?_;have f1:s.heap.objs.size≤tup:=a.fresh (4,true,tup,aK (aH.map iv)) bT (show 3≤4 by decide)
  have dS:[RL,s.heap.objs.size,tup,aU].Nodup:=a.lies.nd;simp only[bA,aM,bO,or_false,not_or]at dS;have EP:x'.1={x'.1 with ready:=.ref RL}:=by
   rw[←(q3.ready.trans d8)]
  have LH:Lies (kt w.params) h' [(false,z.S,bY z.d),(true,z.d,bH w z x'.1),(true,s.heap.objs.size,nh w z tup s.toks tk0 (tk0+2) (lN w x'.2))]:=q1.part (λp hp=>by
   apply cB hp
   ·exact .inr ⟨rfl,true,by exact inl (inl aY)⟩
   ·exact .inl (inl (inl in1))
   ·exact .inl (inr aY)) (by
   delta adr;rw[aL];have e:(aO w z x'.1).map (·.2.1)=aE z x'.1:=cP w z _;rw[e];show[z.S,z.d,s.heap.objs.size].Sublist (z.S::z.d::z.D::_++[s.heap.objs.size]);refine .cons_cons _ (.cons_cons _ (.cons _ ?_));exact pU _ _)
  rw[EP]at LH;have OR:Lies (kt w.params) h ([(true,RL,ai (aH.map iv) rep)]++[(true,tup,aK (aH.map iv))]):=a.lies.part (λp hp=>.inl (by
    apply bJ hp<;>(first|exact aY|exact bT))) (by
    show[RL,tup].Sublist [RL,s.heap.objs.size,tup,aU];exact .cons_cons _ (.cons _ (.cons_cons _ (.cons _ .slnil))))
  have ER:=OR.keep T q2 λp hp m=>by
   have:p.2.1=RL∨p.2.1=tup:=by
    rcases mA hp with hp|hp
    ·left;rw[sA hp]
    ·right;rw[sA hp]
   rcases mA m with m|m
   ·rcases this with e|e
    ·exact jD (e▸m)
    ·exact E1 (old _ m) e f1
   ·exact XK dS.1.1 dS.1.2.2 dS.2.1.1 dS.2.2.1 this (b3 m)
  refine LH.join ER λb hb hc=>?_;have hb:b∈[z.S,z.d,s.heap.objs.size]:=hb;have hc:b∈[RL,tup]:=hc;simp only[aM,bO,or_false]at hb hc;rcases hc with hc|hc
  ·refine dw hb (λhb=>?_) λhb=>dw hb (λhb=>?_) λhb=>?_
   ·exact jD ((hc.symm.trans hb)▸bL.1)
   ·exact jD ((hc.symm.trans hb)▸bL.2.1)
   ·exact Wx hc hb dS.1.1
  ·exact XJ f1 dS.2.1.1 hb (old _ (bL (z:=z) (v:=v)).1) (old _ (bL (z:=z) (v:=v)).2.1) hc
 case fin=>
  refine kC q2 λq1 q2 q3 q4=>?_;have f1:s.heap.objs.size≤tup:=a2.fresh (4,true,tup,aK (aH.map iv)) bT (show 3≤4 by decide)
  have K3:Keeps [z.d,s.heap.objs.size,RL,tup] h3 hp:=K;have KB:Keeps (aE z v++[RL]) s.heap h3:=(a2.keeps.mono λa ha=>inr ha).trans' q2 λa ha=>by
   rcases mA ha with ha|ha
   ·exact .inl (inl ha)
   ·exact .inr (Wz (b3 ha) (a2.fresh (5,true,aU,aC "tuple_iterator" (.ref tup) 0) eW (show 3≤5 by decide)))
  have KC:Keeps (aE z v++[RL]) s.heap hp:=KB.trans' K3 λa ha=>by
   apply fX ha
   ·exact .inl (inl bL.2.1)
   ·exact .inr Ci
   ·exact .inl (inr aY)
   ·exact .inr (by assumption)
  have EV:Lies (kt w.params) h3 (aO w z x'.1++[]):=by rw[dZ];exact q1.left
  have LL:=wJ EV T K3 (hu (z.d,bH w z {x'.1 with ready:=.ref RL,np:=x'.1.np+aH.length,u3:=eO+3}) aY) λb hb=>by
   rw[q3.aE];apply fX hb
   ·exact .inl rfl
   ·exact .inr ⟨λm=>by exact vh (old _ m),λm=>nomatch m⟩
   ·exact .inr ⟨jD,λm=>nomatch m⟩
   ·exact .inr ⟨λm=>by exact E0 (old _ m) f1,λm=>nomatch m⟩
  rw[dZ]at LL;have OO:=(Lies.one (hu (RL,ai [] (bump (aH.map iv) rep)) in1) (hP.right.off (true,RL,ai (aH.map iv) rep) aY rfl) T:Lies (kt w.params) hp [(true,RL,ai [] (bump (aH.map iv) rep))]).join (Lies.one (hu (tup,aK (aH.map iv)) bT) (a2.lies.off (true,tup,aK (aH.map iv)) bT rfl) T:Lies (kt w.params) hp [(true,tup,aK (aH.map iv))]) λb hb hc=>by
   exact Xj nc f1 (by simpa[adr]using hb) (by simpa[adr]using hc)
  refine hR ({x'.1 with ready:=.ref RL,np:=x'.1.np+aH.length,u3:=eO+3},tup) hp t' T ⟨LL.join OO λb hb hc=>?_,KC,f1,d8.symm,?_,q3.nf,q3.aE,q3.names,q4⟩
  ·have hb:=cP w z _▸hb;have hb:b∈aE z x'.1:=hb;rw[q3.aE]at hb;have hc:b∈[RL,tup]:=hc;have hc:=b3 hc;rcases hc with hc|hc
   ·exact jD (hc▸hb)
   ·exact E1 (old _ hb) hc f1
  ·exact congrArg (·+(aH.length:Int)) q3.np
noncomputable def abm:Str:=⟨⟨[95,108,97,119,95,114,111,117,110,100,115,46,60,108,111,99,97,108,115,62,46]⟩⟩
def Aj:bR:=sub 2 (st 21)
def tR(loc:Nat):Env:=envOf (st 21) abm 222 221 loc
def tS(loc:Nat):bf:=.whileLoop (dg Aj) (fBody Aj) [] (tR loc)
def abn(it loc:Nat):bf:=.forLoop (dg (sub 3 Aj)) (.ref it) (fBody (sub 3 Aj)) [] (tR loc)
structure REx where
 k1:Nat
 tup:Nat
 k2:Nat
 first:Int
 ft:Nat
 k3:Nat
 pl:aj
def rEx(w:ao):Option REx→List bx
 |none=>[]
 |some e=>[de w z9 e.k1 (.ref e.tup),de w Aa e.k2 (.int e.first e.ft),de w m5 e.k3 e.pl]
noncomputable def wK(sl:Array (Option aj))(es:List bx):Obj:=⟨.type "frame",none,.dict ⟨es⟩ es.length,sl⟩
def LC(w:ao)(sl:Array (Option aj))(S:Nat)(aI:Int)(t RO k1 k2 k3:Nat)(ex:List bx):Obj:=
 wK sl ([de w tD k1 (.ref S),de w Er k2 (.int aI t),de w Es k3 (.ref RO)]++ex)
theorem wL{s:aA}{X:Type}{res:X→aW}{new:X→List (Nat×Obj)}{R:aW→aA→Prop}{o:Obj}(x:X)(hR:Fin' s X res (λaf=>[]) new R)(hn:new x=[(s.heap.objs.size,o)])(t:Nat)(h1:o.isFreed=false):
  R (res x) ⟨s.heap.push o,s.gens,s.drawn,t,s.os⟩:=
 hR x _ t (Keeps.push _ _ _) (λaf h=>nomatch h) (λp hp=>by
  rw[hn]at hp;apply cV hp;exact jg s.heap h1) (λp hp=>by
  rw[hn]at hp;apply cV hp;exact bk _) (by rw[hn];simp)
theorem Ak(w:ao)(v:aj):Spec w 119 (.call (.builtin "list.__new__") ⟨[.type "list",v],[]⟩) [] Nat
  (λx=>.ok (.ret (.ref x))) (λaf=>[]) (λx=>[(x,ai [] 0)]):=by
 intro A s R hA hT hP _ _ hR;refine codeAny_mono (code_list_new (E:=λe s'=>R (.error e) s') v (Q₁:=λv s'=>R (.ok (.ret v)) s') ?_) λr s' h=>?_
 ·exact wL (o:=ai [] 0) s.heap.objs.size hR rfl _ rfl
 ·cases r with
  |error e=>exact h
  |ok f=>
   cases f with
   |ret v=>exact h
   |_=>exact h.elim
theorem jE{prog:f6}{w:ao}{id:String}{B:eY}{args:Args}(pl:qf id=true)(en:oj table id=some B){A:aV}{R:aW→aA→Prop}{s:aA}
  (h:wpAny (model prog w) A.in1 (B args) (λfin s'=>∃v,fin=.done (.ret v)∧R (.ok (.ret v)) s') (λe s'=>R (.error e) s') s):gU (model prog w) A (.builtin id args) R s:=by
 refine cN en ?_;rw[gO pl _];exact jY h (λfin s' h'=>by refine aS h' λv aG hv=>?_;subst aG;exact hv) λaf af x=>x
theorem tT(w:ao)(a b:Int)(t u:Nat)(f:Int)(hb:b≠0)(hf:a.fmod b=f):Spec w 119 (.builtin "int.__mod__" ⟨[.int a t,.int b u],[]⟩) [] Nat (λx=>.ok (.ret (.int f x))) (λaf=>[]) (λaf=>[]):=by
 intro A s R hA hT hP _ _ hR;refine cN F.entry_int_mod ?_;rw[gO (by decide+kernel) _]
 refine AutoIntG6.int___mod___int_int_1 a t b u (by simpa using hb) _ _ A R s ?_
 show R (.ok (.ret (.int (a.fmod b) s.toks))) _;rw[hf];exact fG hR s.toks (s.toks+1)
theorem isTup{h:az}{t:Nat}{vs:List aj}(e:h.get? t=some (aK vs)):IsTup h t ⟨vs⟩:=⟨_,e,rfl,0,rfl⟩
theorem Fc(w:ao)(t:Nat)(vs:List aj)(hl:vs.length≤1000):Spec w 118 (.builtin "len" ⟨[.ref t],[]⟩) [(false,t,aK vs)] Nat (λx=>.ok (.ret (.int vs.length x))) (λaf=>[]) (λaf=>[]):=by
 intro A s R hA hT hP _ _ hR;have ht:=isTup (cL hP);refine jE plain_len entry_len ?_;unfold eY.«len»;refine av (m:=oneArg "len" _) (aJ ?_);refine av (m:=callSpecial? (.ref t) (gB "__len__")) (Dq (name:=gB "__len__") ht.typeIs slot_tuple_len
  (wpAny_call_entry slot_tuple_len ht.typeIs entry_tuple_len ?_ (args_tuple_len _)))
 show wpAny _ _ (do retInt (←J4 (.ref t)).size) _ _ s
 refine av (tupleItemsOf_ ht ?_);refine av (qd (aJ ⟨_,rfl,?_⟩));refine av (jX (aJ ?_));refine av (vL ?_);show wpAny _ _ (if((vs.length:Nat):Int)<0 then _ else _) _ _ _
 refine c9 (decide_eq_false E8) ?_;show wpAny _ _ (if((vs.length:Nat):Int)≥2^63 then _ else _) _ _ _
 refine c9 (decide_eq_false (Ij hl)) ?_;exact av (qd (aJ ⟨_,rfl,fG hR (s.toks+1) (s.toks+1+1)⟩))
noncomputable def fq(a b:aj):Obj:=⟨.type "slice",none,.fields #[a,b,.none],#[]⟩
theorem isSlice{h:az}{sl:Nat}{a b:aj}(e:h.get? sl=some (fq a b)):h.IsSliceOf sl a b .none:=⟨_,e,rfl,rfl⟩
theorem abp(a n:Nat)(ha:a≤n):DC none (some (a:Int)) 1 (n:Int)=(0,(a:Int)):=by
 delta DC;dsimp only[(by omega),(by exact E8:¬((a:Int)<0)),if_false]
 congr 1
 exact Vi ha
theorem abq(a:Nat):zy 0 (a:Int) 1=a:=by
 delta zy;simp only[(by omega:(1:Int)>0),if_true,Int.ediv_one]
 split<;>(first|exact Rq|exact Sz ‹_›)
theorem LD{prog:f6}{w:ao}{A:aV}{E:aj→aA→Prop}{s:aA}{sl:Addr}{a n:Nat}{u:Tok}{Q:Int×Int×Nat→aA→Prop}(hs:s.heap.IsSliceOf sl .none (.int a u) .none)(ha:a≤n)(h:Q (0,1,a) s):
  wpAny (model prog w) A (DA (.ref sl) (pure (n:Int))) Q E s:=by
 refine ie (id hs) λos hos hcs hds=>?_;delta DA Builtin.Slice.sliceFields;refine av (av (gM hos hds (x:=.none) rfl (av (gM hos hds (x:=.int a u) rfl (av (gM hos hds (x:=.none) rfl (aJ ?_)))))));refine av (slicePart_none ?_);show wpAny _ _ (if((1:Int)==0)=true then _ else _) _ _ s
 refine c9 (decide_eq_false (by decide)) ?_
 refine av (slicePart_none (av (slicePart_int (av (aJ ?_)))));show wpAny _ _ (match DC none (some (a:Int)) 1 (n:Int)with|(lo,hi)=>pure (lo,(1:Int),zy lo hi 1)) _ _ s
 rw[abp a n ha];show wpAny _ _ (pure ((0:Int),(1:Int),zy 0 (a:Int) 1)) _ _ s;rw[abq a];exact aJ h
section
variable{prog:f6}{w:ao}{A:aV}{E:aj→aA→Prop}{s:aA}
theorem Al{t sl:Nat}{vs:List aj}{a b:aj}{lo n:Nat}{Q:Fin→aA→Prop}(ht:s.heap.get? t=some (aK vs))(hs:s.heap.get? sl=some (fq a b))(hl:vs.length≤1000)
  (hap:∀Q:Int×Int×Nat→aA→Prop,Q ((lo:Int),1,n) s→wpAny (model prog w) A (DA (.ref sl) (pure (vs.length:Int))) Q E s) (hn:lo+n≤vs.length)
  (h1:lo=0→n=vs.length→Q (.done (.ret (.ref t))) s) (h2:¬(lo=0∧n=vs.length)→Q (.done (.ret (.ref s.heap.objs.size))) {s with heap:=s.heap.push (aK ((vs.drop lo).take n))}):
  wpAny (model prog w) A (eY.«tuple.__getitem__» ⟨[.ref t,.ref sl],[]⟩) Q E s:=by
 have hT:=isTup ht;show wpAny _ _ (J4 (.ref t)>>=_) _ _ s;refine av (tupleItemsOf_ hT ?_);refine av (vK ⟨_,hs,rfl⟩ ?_);refine mQ (decide_eq_true (by decide)) ?_
 refine av (hap _ ?_);show wpAny _ _ (if((lo:Int)==0 && (1:Int)==1 && n==vs.length)=true then _ else _) _ _ s
 by_cases c:lo=0∧n=vs.length
 ·refine mQ (decide_eq_true (by simp[c])) ?_
  refine av (av (vK hT.typeIs (aJ ?_)));refine mQ (decide_eq_true (by decide)) ?_
  exact av (lA (av (aJ (aJ (h1 c.1 c.2)))))
 ·refine c9 (decide_eq_false (λe=>c (by simpa using e))) ?_
  have e:((dm n).filterMap λ(k:Nat)=>(⟨vs⟩:Array aj)[((lo:Int)+(k:Int)*1).toNat]?).toArray=((vs.drop lo).take n).toArray:=by
   have e:(λ(k:Nat)=>(⟨vs⟩:Array aj)[((lo:Int)+(k:Int)*1).toNat]?)=λk=>(⟨vs⟩:Array aj)[lo+k]?:=by
    funext k
    rw[(by exact Td:((lo:Int)+(k:Int)*1).toNat=lo+k)]
   rw[e];have:=pick_run (⟨vs⟩:Array aj) lo n;rw[List.filterMap_map]at this;have e2:((λx=>(⟨vs⟩:Array aj)[x]?)∘λx=>lo+x)=λk=>(⟨vs⟩:Array aj)[lo+k]?:=rfl;rw[e2]at this;rw[this]
  rw[e];have hz:sizeOk (.seq ((vs.drop lo).take n).toArray):=by
   show((vs.drop lo).take n).toArray.size≤sizeLine;rw[List.size_toArray,rX,rY,fQ];exact WG hl
  first
   |exact av (m:=zA _) (gu (aJ (h2 c)) hz)
   |exact av (m:=zA _) (gu (av (aJ (aJ (h2 c)))) hz)
   |exact av (av (m:=zA _) (gu (aJ (aJ (h2 c))) hz))
   |exact av (av (m:=zA _) (gu (aJ (h2 c)) hz))
end
theorem abr(w:ao)(t sl:Nat)(vs:List aj)(u:Nat)(hl:vs.length≤1000):Spec w 119 (.builtin "tuple.__getitem__" ⟨[.ref t,.ref sl],[]⟩) [(false,t,aK vs),(false,sl,fq (.int 0 u) .none)] Unit (λaf=>.ok (.ret (.ref t))) (λaf=>[]) (λaf=>[]):=by
 intro A s R hA hT hP _ _ hR;have h2:s.heap.get? sl=some (fq (.int 0 u) .none):=hP (sl,_) (.tail _ (.head _));refine jE (by decide+kernel) zo ?_
 refine Al (lo:=0) (n:=vs.length) (cL hP) h2 hl (λQ h=>sliceApplied_from (a:=0) (isSlice h2) HX h) QI (λaf af=>⟨_,rfl,fG hR () s.toks⟩) λc=>absurd ⟨rfl,rfl⟩ c
theorem LI(w:ao)(t sl:Nat)(vs:List aj)(f u:Nat)(hl:vs.length≤1000)(h0:1≤f)(hf:f≤vs.length):Spec w 119 (.builtin "tuple.__getitem__" ⟨[.ref t,.ref sl],[]⟩) [(false,t,aK vs),(false,sl,fq (.int f u) .none)] Nat (λx=>.ok (.ret (.ref x))) (λaf=>[]) (λx=>[(x,aK (vs.drop f))]):=by
 intro A s R hA hT hP _ _ hR;have h2:s.heap.get? sl=some (fq (.int f u) .none):=hP (sl,_) (.tail _ (.head _));refine jE (by decide+kernel) zo ?_
 refine Al (lo:=f) (n:=vs.length-f) (cL hP) h2 hl (λQ h=>sliceApplied_from (a:=f) (isSlice h2) hf h) (Vc hf) (λc af=>by omega) λc=>?_
 rw[JE (by rw[rY];exact bk _)]
 exact⟨_,rfl,wL (o:=aK (vs.drop f)) s.heap.objs.size hR rfl _ rfl⟩
theorem abt(w:ao)(t sl:Nat)(vs:List aj)(f u:Nat)(hl:vs.length≤1000)(hf:f=0):Spec w 119 (.builtin "tuple.__getitem__" ⟨[.ref t,.ref sl],[]⟩) [(false,t,aK vs),(false,sl,fq (.int f u) .none)] Unit (λaf=>.ok (.ret (.ref t))) (λaf=>[]) (λaf=>[]):=by
 subst hf;exact abr w t sl vs u hl
theorem abu(w:ao)(t sl:Nat)(vs:List aj)(f u:Nat)(hl:vs.length≤1000)(h0:1≤f)(hf:f=vs.length):Spec w 119 (.builtin "tuple.__getitem__" ⟨[.ref t,.ref sl],[]⟩) [(false,t,aK vs),(false,sl,fq (.int f u) .none)] Nat (λx=>.ok (.ret (.ref x))) (λaf=>[]) (λx=>[(x,aK [])]):=by
 have:=LI w t sl vs f u hl h0 (Cr hf);rw[JG (UN hf)]at this;exact this
theorem abv(w:ao)(t sl:Nat)(vs:List aj)(f u:Nat)(hl:vs.length≤1000)(hf:f=vs.length):Spec w 119 (.builtin "tuple.__getitem__" ⟨[.ref t,.ref sl],[]⟩) [(false,t,aK vs),(false,sl,fq .none (.int f u))] Unit (λaf=>.ok (.ret (.ref t))) (λaf=>[]) (λaf=>[]):=by
 intro A s R hA hT hP _ _ hR;have h2:s.heap.get? sl=some (fq .none (.int f u)):=hP (sl,_) (.tail _ (.head _));refine jE (by decide+kernel) zo ?_
 refine Al (lo:=0) (n:=f) (cL hP) h2 hl (λQ h=>LD (a:=f) (isSlice h2) (Cr hf) h) (UG hf) (λaf af=>⟨_,rfl,fG hR () s.toks⟩) λc=>absurd ⟨rfl,hf⟩ c
theorem LJ(w:ao)(t sl:Nat)(vs:List aj)(f u:Nat)(hl:vs.length≤1000)(hf:f<vs.length):Spec w 119 (.builtin "tuple.__getitem__" ⟨[.ref t,.ref sl],[]⟩) [(false,t,aK vs),(false,sl,fq .none (.int f u))] Nat (λx=>.ok (.ret (.ref x))) (λaf=>[]) (λx=>[(x,aK (vs.take f))]):=by
 intro A s R hA hT hP _ _ hR;have h2:s.heap.get? sl=some (fq .none (.int f u)):=hP (sl,_) (.tail _ (.head _));refine jE (by decide+kernel) zo ?_
 refine Al (lo:=0) (n:=f) (cL hP) h2 hl (λQ h=>LD (a:=f) (isSlice h2) (rN hf) h) (Ue hf) (λaf c=>by omega) λc=>?_
 exact⟨_,rfl,wL (o:=aK (vs.take f)) s.heap.objs.size hR rfl _ rfl⟩
theorem abw(w:ao)(t sl:Nat)(vs:List aj)(f u:Nat)(hl:vs.length≤1000)(hf:f=0)(hv:0<vs.length):Spec w 119 (.builtin "tuple.__getitem__" ⟨[.ref t,.ref sl],[]⟩) [(false,t,aK vs),(false,sl,fq .none (.int f u))] Nat (λx=>.ok (.ret (.ref x))) (λaf=>[]) (λx=>[(x,aK [])]):=by
 have:=LJ w t sl vs f u hl (SX hv hf);rw[hf,List.take_zero]at this;rw[hf];exact this
theorem abx(w:ao)(a b:Nat)(xs:List aj)(h0:xs≠[]):Spec w 119 (.builtin "tuple.__add__" ⟨[.ref a,.ref b],[]⟩) [(false,a,aK xs),(false,b,aK [])] Unit (λaf=>.ok (.ret (.ref a))) (λaf=>[]) (λaf=>[]):=by
 intro A s R hA hT hP _ _ hR;exact ng (by decide+kernel) DI (AutoSeq1.tuple___add___tuple_tuple_1 a ⟨xs⟩ 0 b ⟨[]⟩ 0 (by simpa using h0) rfl) ⟨(cL hP),(hP (b,_) (.tail _ (.head _))),fG hR () s.toks⟩
theorem add_right(w:ao)(a b:Nat)(ys:List aj):Spec w 119 (.builtin "tuple.__add__" ⟨[.ref a,.ref b],[]⟩) [(false,b,aK ys),(false,a,aK [])] Unit (λaf=>.ok (.ret (.ref b))) (λaf=>[]) (λaf=>[]):=by
 intro A s R hA hT hP _ _ hR;exact ng (by decide+kernel) DI (AutoSeq1.tuple___add___tuple_tuple_0 a ⟨[]⟩ 0 b ⟨ys⟩ 0 rfl) ⟨(hP (a,_) (.tail _ (.head _))),(cL hP),fG hR () s.toks⟩
theorem aby(w:ao)(a b:Nat)(xs ys:List aj)(h0:xs≠[])(h1:ys≠[])(hl:xs.length+ys.length≤1000):Spec w 119 (.builtin "tuple.__add__" ⟨[.ref a,.ref b],[]⟩) [(false,a,aK xs),(false,b,aK ys)] Nat (λx=>.ok (.ret (.ref x))) (λaf=>[]) (λx=>[(x,aK (xs++ys))]):=by
 intro A s R hA hT hP _ _ hR;refine ng (by decide+kernel) DI (AutoSeq1.tuple___add___tuple_tuple_2 a ⟨xs⟩ 0 b ⟨ys⟩ 0 (by simpa using h0) (by simpa using h1) (by rw[fQ];show xs.length+ys.length≤_;exact TS hl)) ⟨(cL hP),(hP (b,_) (.tail _ (.head _))),?_⟩
 rw[(by simp:((⟨xs⟩:Array aj)++(⟨ys⟩:Array aj))=⟨xs++ys⟩)]
 exact wL (o:=aK (xs++ys)) s.heap.objs.size hR rfl _ rfl
noncomputable def qL(a:G×List Int)(p:Int):G×List Int:=match(fm p (gD (-1)) a.1).any (λe=>e.1==p && e.2.1==0)with
 |true=>(fm p (gD (-1)) a.1,a.2++[p])
 |false=>(fm p (gD (-1)) a.1,a.2)
noncomputable def flat(a:G×List (Int×Nat)):G×List Int:=(a.1,a.2.map (·.1))
theorem abz(a:G×List (Int×Nat))(p:Int×Nat):flat (j7 a p)=qL (flat a) p.1:=by
 delta j7 qL flat;cases (fm p.1 (gD (-1)) a.1).any (λe=>e.1==p.1 && e.2.1==0)<;>simp
theorem abA(vs:List (Int×Nat))(a:G×List (Int×Nat)):flat (vs.foldl j7 a)=(vs.map (·.1)).foldl qL (flat a):=by
 induction vs generalizing a with
 |nil=>rfl
 |cons p r ih=>rw[lz,ih,abz,bP,lz]
noncomputable def oY(g:G):List Int:=g.map (·.1)
theorem Fd(v:SV):oY v.g=names v:=by delta oY SV.g names;rw[bQ];rfl
inductive jF:G×List Int→List Int→G×List Int→Prop
 |nil (a:G×List Int):jF a [] a
 |cons {a b:G×List Int} {p:Int} {r vs:List Int}:(p,-1,vs)∈a.1→(∀s∈vs,s∈oY a.1)→a.2.length+vs.length≤1000→jF (vs.foldl qL (fm p tO a.1,a.2)) r b→jF a (p::r) b
theorem Fe{v:SV}{p q:Int}{vs:List Int}(h:(p,q,vs)∈v.g):∃x∈v.l,x.n=p∧x.q=q∧x.vs.map (·.1)=vs:=by
 refine aS (aN.mp h) λx hx e=>?_;injection e with e1 e
 injection e with e2 e3
 exact⟨x,hx,e1,e2,e3⟩
theorem gy{w:ao}{z:SS}{v:SV}{h h':az}{U:List Nat}(H:Lies (kt w.params) h (aO w z v))(T:aR (kt w.params) h')(K:Keeps U h h')(hU:∀b∈U,b∉aE z v):Lies (kt w.params) h' (aO w z v):=
 H.keep T K λaf hp m=>hU _ m (cP w z v▸mD hp)
theorem gg{w:ao}{z:SS}{v:SV}{h:az}{l:Led}(H:Lies (kt w.params) h (aO w z v))(O:Lies (kt w.params) h l)(hU:∀b∈adr l,b∉aE z v):Lies (kt w.params) h (aO w z v++l):=
 H.join O λb hb hc=>hU b hc (cP w z v▸hb)
theorem lR{kt:bZ}{h h':az}{U:List Nat}{m:Bool}{a:Nat}{o:Obj}(H:Lies kt h [(m,a,o)])(T:aR kt h')(K:Keeps U h h')(hU:a∉U):Lies kt h' [(m,a,o)]:=
 H.keep T K λp hp q=>hU (by rw[sA hp]at q;exact q)
def gA(w:ao)(sl:Array (Option aj))(S:Nat)(aI:Int)(t RO k1 k2 k3 j1 tup j2:Nat)(first:Int)(ft:Nat)(pl:Option (Nat×aj)):Obj:=
 LC w sl S aI t RO k1 k2 k3 ([de w z9 j1 (.ref tup),de w Aa j2 (.int first ft)]++match pl with
  |none=>[]
  |some p=>[de w m5 p.1 p.2])
def wM(w:ao)(sl:Array (Option aj))(S:Nat)(aI:Int)(t RO k1 k2 k3 j1 tup j2:Nat)(first:Int)(ft:Nat)(loc it src:Nat)(vs:List aj)(i:Nat)(pl:Option (Nat×aj)):Led:=
 [(true,loc,gA w sl S aI t RO k1 k2 k3 j1 tup j2 first ft pl),(false,src,aK vs),(true,it,aC "tuple_iterator" (.ref src) i)]
theorem Ff(w0:ao)(fb fc:Bool)(sl:Array (Option aj))(z:SS)(aI:Int)(t RO k1 k2 k3 j1 tup j2:Nat)(first:Int)(ft:Nat)(RL loc it src:Nat)(vs:List (Int×Nat)):∀(r:List (Int×Nat)) (i:Nat) (v:SV) (aH:List (Int×Nat)) (rep:Nat) (pl:Option (Nat×aj)) (b:G×List Int),vs.drop i=r→(names v).Nodup→v.ready=.ref RL→jF (flat (v.g,aH)) (r.map (·.1)) b→
  Wide (ak w0 fb fc) 86 (abn it loc) (λh=>Lies (kt (ak w0 fb fc).params) h (aO (ak w0 fb fc) z v++([(true,RL,ai (aH.map iv) rep)]++wM (ak w0 fb fc) sl z.S aI t RO k1 k2 k3 j1 tup j2 first ft loc it src (vs.map iv) i pl)))
   (SV×List (Int×Nat)×Nat×Option (Nat×aj)) (λaf=>.ok .next)
   (λx h h'=>Lies (kt (ak w0 fb fc).params) h' (aO (ak w0 fb fc) z x.1++([(true,RL,ai (x.2.1.map iv) x.2.2.1)]++[(true,loc,gA (ak w0 fb fc) sl z.S aI t RO k1 k2 k3 j1 tup j2 first ft x.2.2.2)]))∧Keeps (aE z v++[RL,loc,it]) h h'∧x.1.ready=v.ready∧x.1.np=v.np∧x.1.nf=v.nf+r.length∧aE z x.1=aE z v∧names x.1=names v∧flat (x.1.g,x.2.1)=b∧(pl.isSome=true∨r≠[]→x.2.2.2.isSome=true)):=by
 intro r;have Fg:=λz v RL rep aH p t x hx hxn tP hm hl nd hrd=>aa9 w0 fb fc z v RL rep aH p t x hx hxn tP hm hl nd hrd;generalize hw:ak w0 fb fc=w at*;induction r with
 |nil=>
  intro i v aH rep pl b hr nd hrd hD;have hi:vs.length≤i:=kE.mp hr;refine d7 rfl rfl λA s R hT hP hR=>?_;have hn:∀b∈[RL,loc,src,it],b∉aE z v:=λb hb=>hP.eL hb;have nl:[RL,loc,src,it].Nodup:=hP.right.nd;simp only[bA,aM,bO,or_false,not_or]at nl;refine⟨_,hP.right.right,aq (dec 325) (.cut 110 _ [(1,false,src,aK (vs.map iv)),(2,true,it,aC "tuple_iterator" (.ref src) i)] Nat _ (λaf=>[(2,it,aC "tuple_iterator" .none i)]) _
    λx af af=>aq (dec 7) (.done (.ok .next) [(0,loc,gA w sl z.S aI t RO k1 k2 k3 j1 tup j2 first ft pl)] [])),au (ay (EC w it src i (vs.map iv) (by simp[hi])) λx af af=>au (bu λhp t' K T hu af af af=>?_)),?_⟩
  ·have K:Keeps [loc,it] s.heap hp:=K;cases hD
   refine hR (v,aH,rep,pl) hp t' T ⟨gg (gy hP.left T K λb hb=>hn b (by simp at hb⊢;rcases hb with rfl|rfl<;>(first|exact .inr (.inl rfl)|exact .inr (.inr (.inr rfl))))) ((lR hP.right.left T K (λm=>by have m:=b3 m;rcases m with m|m<;>(first|exact je m nl.1.1|exact je m nl.1.2.2))).join (Lies.one (m:=true) (hu (loc,gA w sl z.S aI t RO k1 k2 k3 j1 tup j2 first ft pl) aY) (hP.right.right.off (true,loc,gA w sl z.S aI t RO k1 k2 k3 j1 tup j2 first ft pl) aY rfl) T) λb hb hc=>?_) λb hb=>?_,K.oU λa ha=>.inl (inr (.tail _ ha)),rfl,rfl,by exact(Int.add_zero _).symm,rfl,rfl,rfl,λh=>h.elim id λc=>absurd rfl c⟩
   ·exact nl.1.1 ((sA hb).symm.trans (sA hc))
   ·have hb:b∈[RL,loc]:=hb;exact hn b (by simp at hb⊢;rcases hb with rfl|rfl<;>(first|exact .inl rfl|exact .inr (.inl rfl)))
  ·clear hP hR hT nl hn Fg hD hr hi;(apply cO hw;kernel_rfl!)
 |cons p r ih=>
  intro i v aH rep pl b hr nd hrd hD;have hv:(vs.map iv)[i]?=some (iv p):=by
   have:=congrArg (λl=>l[0]?) hr;simp only[nZ,n9,nX]at this;rw[dK,this];rfl
  have hr':vs.drop (i+1)=r:=by
   rw[←iR,hr];rfl
  rw[bP]at hD;cases hD with
  |cons hm hs hl hD=>
  rename_i us
  refine ly (Fe hm) λx hx hxn tP hxv=>?_;have hs':∀s∈x.vs,s.1∈names v:=λs hs'=>Fd v▸hs s.1 (hxv▸c7 hs');have hl':aH.length+x.vs.length≤1000:=by
   have e:=congrArg pY hxv;rw[bl]at e;simpa[flat,←e]using hl
  have hdo:=Fg z v RL rep aH p.1 p.2 x hx hxn tP hs' hl' nd hrd;refine d7 rfl rfl λA s R hT hP hR=>?_;have hn:∀b∈[RL,loc,src,it],b∉aE z v:=λb hb=>hP.eL hb;have nl:[RL,loc,src,it].Nodup:=hP.right.nd;simp only[bA,aM,bO,or_false,not_or]at nl;have L0:Lies (kt w.params) s.heap ([(false,z.S,bY z.d),(false,z.d,bH w z v)]++wM w sl z.S aI t RO k1 k2 k3 j1 tup j2 first ft loc it src (vs.map iv) i pl):=by
   refine(m7 hP.left).join hP.right.right λb hb hc=>?_;refine hn b (.tail _ hc) ?_;apply bJ hb
   ·exact bL.1
   ·exact bL.2.1
  refine⟨_,L0,aq (dec 455) (.cut 119 _ [(3,false,src,aK (vs.map iv)),(4,true,it,aC "tuple_iterator" (.ref src) i)] Unit _ (λaf=>[(4,it,aC "tuple_iterator" (.ref src) (i+1))]) (λaf=>[]) λaf af tk0=>
    aq (dec 22412301554112667364234888494207301) (.wide 88 _ [(2,true,loc,gA w sl z.S aI t RO k1 k2 k3 j1 tup j2 first ft (some (bE pl tk0,iv p))),(3,false,src,aK (vs.map iv)),(4,true,it,aC "tuple_iterator" (.ref src) (i+1))] (SV×List (Int×Nat)×Nat) _ (λaf=>wM w sl z.S aI t RO k1 k2 k3 j1 tup j2 first ft loc it src (vs.map iv) (i+1) (some (bE pl tk0,iv p))) λx' h3 af af=>
    aq (dec 0) (.wide 86 _ [(0,true,loc,gA w sl z.S aI t RO k1 k2 k3 j1 tup j2 first ft (some (bE pl tk0,iv p))),(1,false,src,aK (vs.map iv)),(2,true,it,aC "tuple_iterator" (.ref src) (i+1))] (SV×List (Int×Nat)×Nat×Option (Nat×aj)) _ (λaf=>[]) λx'' h5 af af=>
    .done (.ok .next) [] []))),
    au (ay (EB w it src i (vs.map iv) _ hv) λaf af tk0=>au (cC hdo (λh a=>?qJ) (λx' h h' a T q=>?wG) λx' h2 h3 af af a2 T2 q2=>
     au (cC (ih (i+1) x'.1 x'.2.1 x'.2.2 (some (bE pl tk0,iv p)) b hr' ?ndB ?rdB ?DB) (λh a=>?Fj) (λx'' h h' a T q=>?abD) λx'' h4 h5 af af a4 T4 q4=>
     bu λhp t' K T af af af af=>?fin))),?run⟩
  case run=>
   clear hP L0 hR hT ih nl hn hdo Fg hs' hl' hx hxn tP hxv hs hm hl hD hv hr hr';obtain⟨rd,np,nf,u3,u4,cY,vl⟩:=v;obtain rfl:rd=.ref RL:=hrd;clear nd;(apply jC hw pl;kernel_rfl!)
  case qJ=>
   have K:Keeps [loc,it] s.heap h:=a.keeps;exact gg (gy hP.left a.lies.top K λb hb=>hn b (by simp at hb⊢;rcases hb with rfl|rfl<;>(first|exact .inr (.inl rfl)|exact .inr (.inr (.inr rfl))))) (lR hP.right.left a.lies.top K (λm=>by have m:=b3 m;rcases m with m|m<;>(first|exact je m nl.1.1|exact je m nl.1.2.2))) λb hb=>by
    exact(sA hb)▸hn RL aY
  case wG=>
   refine dJ q λq1 q2 af=>?_;refine a.lies.keep T q2 λq hq m=>?_;have hq:q.2.1∈[loc,src,it]:=mD hq;rcases mA m with m|m
   ·exact hn _ (.tail _ hq) m
   ·rw[(sA m)]at hq;have hq:=fB hq;refine dw hq (λhq=>?_) λhq=>dw hq (λhq=>?_) λhq=>?_<;>(first|exact je hq nl.1.1|exact je hq nl.1.2.1|exact je hq nl.1.2.2)
  case ndB=>exact q2.2.2.2.2.2.2.1▸nd
  case rdB=>exact q2.2.2.1.trans hrd
  case DB=>
   have e2:=congrArg flat q2.2.2.2.2.2.2.2;rw[abA,hxv]at e2;rw[e2];exact hD
  case Fj=>
   refine Jr q2 λq1 q3 af af af e5 e6 af=>?_;have K:Keeps [loc,it] h3 h:=a.keeps;have nn:∀b∈[RL,loc,src,it],b∉aE z x'.1:=λb hb=>e5▸hn b hb;refine gg (gy q1.left a.lies.top K λb hb=>nn b (by simp at hb⊢;rcases hb with rfl|rfl<;>(first|exact .inr (.inl rfl)|exact .inr (.inr (.inr rfl))))) ((lR q1.right a.lies.top K (λm=>by have m:=b3 m;rcases m with m|m<;>(first|exact je m nl.1.1|exact je m nl.1.2.2))).join a.lies λb hb hc=>?_) λb hb=>nn b hb
   have hc:b∈[loc,src,it]:=hc;rw[(sA hb)]at hc;have hc:=fB hc;refine dw hc (λhc=>?_) λhc=>dw hc (λhc=>?_) λhc=>?_<;>(first|exact je hc nl.1.1|exact je hc nl.1.2.1|exact je hc nl.1.2.2)
  case abD=>exact Lies.part q.1 (λaf hp=>nomatch hp) (eX _)
  case fin=>
   refine Jr q2 λq1 q3 e2 e3 e4 e5 e6 af=>?_;refine nW q4 λr1 r2 r3 r4 r5 r6 r7 r8 r9=>?_;have K:Keeps [] h5 hp:=K;refine hR x'' hp t' T ⟨r1.ext T K,((((a2.keeps.mono λa ha=>inr (.tail _ ha)).trans (q3.mono λa ha=>(mA ha).elim (λh=>inl h) λh=>inr ((sA h)▸.head _))).trans (a4.keeps.mono λa ha=>inr (.tail _ ha))).trans (e5▸r2)).trans (K.ext),r3.trans e2,r4.trans e3,?_,r6.trans e5,r7.trans e6,r8,λaf=>r9 (.inl rfl)⟩;rw[r5,e4];simp;exact Qt
noncomputable def jG(g:G)(r:List Int):G:=r.foldl (λg p=>fm p tQ g) g
noncomputable def eS(f:Nat){α:Type}(l:List α):List α:=l.drop f++l.take f
noncomputable def jo(aI:Int)(n:Nat):Nat:=(aI.fmod ((n:Int)+1)).toNat
inductive qM(aI:Int):G×List Int→List (List Int)→Prop
 |stop (g:G):qM aI (g,[]) []
 |turn {g:G} {aH:List Int} {b:G×List Int} {rs:List (List Int)}:aH≠[]→aH.length≤6→(∀p∈aH,p∈oY g)→jF (jG g aH,[]) (eS (jo aI aH.length) aH) b→qM aI b rs→qM aI (g,aH) (aH::rs)
theorem Am(aI:Int)(n:Nat):aI.fmod ((n:Int)+1)=(jo aI n:Int)∧jo aI n≤n:=by
 delta jo;exact Qs (Dl aI (show(0:Int)<(n:Int)+1 by exact HW)) (Int.fmod_lt_of_pos aI (show(0:Int)<(n:Int)+1 by exact HW))
structure WF where
 j1:Nat
 tup:Nat
 j2:Nat
 first:Int
 ft:Nat
 k:Nat
 v:aj
def di(w:ao)(sl:Array (Option aj))(S:Nat)(aI:Int)(t RO k1 k2 k3:Nat):Option WF→Obj
 |none=>LC w sl S aI t RO k1 k2 k3 []
 |some f=>gA w sl S aI t RO k1 k2 k3 f.j1 f.tup f.j2 f.first f.ft (some (f.k,f.v))
noncomputable def gX(f:Option WF)(t:Nat):Nat:=match f with
 |none=>t
 |some f=>f.j1
noncomputable def gY(f:Option WF)(t:Nat):Nat:=match f with
 |none=>t
 |some f=>f.j2
noncomputable def tU(f:Option WF):Option (Nat×aj):=match f with
 |none=>none
 |some f=>some (f.k,f.v)
noncomputable abbrev bF:=List (Nat×List (Int×Nat)×Nat)
noncomputable def bI(o:bF):Led:=o.map λx=>(true,x.1,ai (x.2.1.map iv) x.2.2)
noncomputable def aT(o:bF):List aj:=o.map λx=>.ref x.1
noncomputable def dM(o:bF):List (List Int):=o.map λx=>x.2.1.map (·.1)
def kJ(w:ao)(sl:Array (Option aj))(z:SS)(aI:Int)(t RO k1 k2 k3 RL loc:Nat)(aH:List (Int×Nat))(rep:Nat)(fr:Option WF)(outs:bF)(bC:Nat):Led:=
 [(true,RL,ai (aH.map iv) rep),(true,loc,di w sl z.S aI t RO k1 k2 k3 fr),(true,RO,ai (aT outs) bC)]++bI outs
abbrev An(w:ao)(sl:Array (Option aj))(z:SS)(aI:Int)(t RO k1 k2 k3 RL loc:Nat)(v:SV)(aH:List (Int×Nat))(rep:Nat)(fr:Option WF)(outs:bF)(bC:Nat)(rs:List (List Int)):Prop:=
 Wide w 84 (tS loc) (λh=>Lies (kt w.params) h (aO w z v++kJ w sl z aI t RO k1 k2 k3 RL loc aH rep fr outs bC)) (bF×Nat×Option WF) (λaf=>.ok .next)
  (λx h h'=>Lies (kt w.params) h' ([(true,loc,di w sl z.S aI t RO k1 k2 k3 x.2.2),(true,RO,ai (aT (outs++x.1)) x.2.1)]++bI (outs++x.1))∧Keeps (aE z v++[RL,loc,RO]) h h'∧dM x.1=rs∧(∀o∈x.1,h.objs.size≤o.1))
noncomputable abbrev Ao(w:ao)(sl:Array (Option aj))(z:SS)(aI:Int)(t RO k1 k2 k3 RL loc:Nat)(v:SV)(outs:bF)(b:G×List Int)(rs:List (List Int)):Prop:=
 ∀(v':SV) (m9:List (Int×Nat)) (Aq:Nat) (cQ:Option WF) (tV:bF) (Ar:Nat),(names v').Nodup→v'.ready=.ref RL→v'.nf=v'.np→flat (v'.g,m9)=b→tV.length=outs.length+1→aE z v'=aE z v→An w sl z aI t RO k1 k2 k3 RL loc v' m9 Aq cQ tV Ar rs
section
variable{sl:Array (Option aj)}{z:SS}{aI:Int}{t RO k1 k2 k3 RL loc:Nat}{v:SV}{p0:Int×Nat}{r0:List (Int×Nat)}{rep:Nat}{fr:Option WF}{outs:bF}{bC:Nat}{b:G×List Int}{rs:List (List Int)}
theorem Fl{w:ao}{s:aA}{R:aW→aA→Prop}{f aF ft cy cR nl' n:Nat}{x:SV×Nat}{x':SV×List (Int×Nat)×Nat×Option (Nat×aj)}{h0 h1 h6 h7:az}
  (nd:(names v).Nodup) (d8:v.ready=.ref RL) (hn:∀b∈[RL,loc,RO]++adr (bI outs),b∉aE z v) (nl:(¬RL=loc∧¬RL=RO)∧¬loc=RO∧¬False∧([]:List Nat).Nodup)
  (hP:Lies (kt w.params) s.heap (aO w z v++kJ w sl z aI t RO k1 k2 k3 RL loc (p0::r0) rep fr outs bC))
  (ih:Ao w sl z aI t RO k1 k2 k3 RL loc v outs b rs)
  (hR:∀(x:bF×Nat×Option WF) (h':az) (t':Nat),aR (kt w.params) h'→(Lies (kt w.params) h' ([(true,loc,di w sl z.S aI t RO k1 k2 k3 x.2.2),(true,RO,ai (aT (outs++x.1)) x.2.1)]++bI (outs++x.1))∧Keeps (aE z v++[RL,loc,RO]) s.heap h'∧dM x.1=(p0::r0).map (·.1)::rs∧(∀o∈x.1,s.heap.objs.size≤o.1))→R (.ok .next) ⟨h',s.gens,s.drawn,t',s.os⟩)
  (g1:x.1.ready=v.ready) (q5:aE z x.1=aE z v) (g4:names x.1=names v)
  (r1:Lies (kt w.params) h7 (aO w z x'.1++([(true,RL,ai (x'.2.1.map iv) x'.2.2.1)]++[(true,loc,gA w sl z.S aI t RO k1 k2 k3 (gX fr aF) x.2 (gY fr cy) f ft x'.2.2.2)])))
  (r2:Keeps (aE z x.1++[RL,loc,cR]) h6 h7) (r3:x'.1.ready=x.1.ready) (r4:x'.1.np=x.1.np) (r5:x'.1.nf=x.1.nf+n) (g2:x.1.np=v.np+n) (g3:x.1.nf=v.nf) (hnn:v.nf=v.np) (r6:aE z x'.1=aE z x.1) (r7:names x'.1=names x.1) (r8:flat (x'.1.g,x'.2.1)=b) (hps:x'.2.2.2.isSome=true)
  (ht:h1.objs.size≤cR) (hnl:h1.objs.size≤nl') (hnz:nl'≠cR) (old:∀b∈aE z v,b<s.heap.objs.size) (K0:Keeps [RL,loc,RO] s.heap h0) (Fo:∀b∈[RL,loc,RO],b<h0.objs.size) (q2:Keeps (aE z v++[RL]) h0 h1) (q3:h0.objs.size≤x.2) (K6:Keeps [loc,RO,x.2] h1 h6)
  (z1:Lies (kt w.params) h6 [(true,nl',ai ((p0::r0).map iv) (bump ((p0::r0).map iv) 0))]):
  Good (bD w s R) (.wide 84 (tS loc) [(0,true,loc,gA w sl z.S aI t RO k1 k2 k3 (gX fr aF) x.2 (gY fr cy) f ft x'.2.2.2),(1,true,RO,ai (aT outs++[bg nl']) (bC+1))] (bF×Nat×Option WF) (λaf=>.ok .next) (λaf=>[]) λaf af af af=>.done (.ok .next) [] []) ⟨h7,2,[loc,RO]⟩:=by
 refine rS (show ∃As Au,x'.2.2.2=some (As,Au)from by
  refine fC (sD.mp hps) λpl hpl=>?_;exact⟨pl.1,pl.2,hpl⟩) λAs Au hpl=>?_
 have qN:∀b∈aE z v++[RL,loc,RO],b<h1.objs.size:=λb hb=>(mA hb).elim (λhb=>Qo (old b hb) K0.1 q2.1) λhb=>Qm (Fo b hb) q2.1;have KA:Keeps (aE z v++[RL,loc,RO]) s.heap h1:=(K0.mono λa ha=>inr ha).trans (q2.mono λa ha=>(mA ha).elim (λh=>inl h) λh=>inr (sA h▸.head _));have KB:Keeps (aE z v++[RL,loc,RO]) s.heap h6:=KA.trans' K6 λa ha=>by
  apply cB ha
  ·exact .inl (inr in1)
  ·exact .inl (inr bT)
  ·exact .inr (E5 K0.1 q3)
 have KC:Keeps (aE z v++[RL,loc,RO]) s.heap h7:=KB.trans' r2 λa ha=>by
  rw[q5]at ha;rcases mA ha with ha|ha
  ·exact .inl (inl ha)
  ·apply cB ha
   ·exact .inl (inr aY)
   ·exact .inl (inr in1)
   ·exact .inr (E5 KA.1 ht)
 refine cC (ih x'.1 x'.2.1 x'.2.2.1 (some ⟨gX fr aF,x.2,gY fr cy,f,ft,As,Au⟩) (outs++[(nl',p0::r0,bump ((p0::r0).map iv) 0)]) (bC+1) (r7.trans g4▸nd) (r3.trans (g1.trans d8)) (by rw[r5,r4,g2,g3,hnn]) r8 fZ (r6.trans q5)) (λh a=>?_) (λx'' h h' a T q=>Lies.part q.1 (λaf hp=>nomatch hp) (eX _)) λx'' h8 h9 af af a8 T8 q8=>bu λhp t' K T af af af af=>?_
 ·have K8:Keeps [loc,RO] h7 h:=a.keeps;have S1:=gy r1.left a.lies.top K8 λb hb=>by
   rw[r6,q5];exact hn b (by apply bJ hb<;>(first|exact inl in1|exact inl bT))
  have O1:Lies (kt w.params) h [(true,RL,ai (x'.2.1.map iv) x'.2.2.1)]:=lR (r1.right.left (l':=[(true,loc,gA w sl z.S aI t RO k1 k2 k3 (gX fr aF) x.2 (gY fr cy) f ft x'.2.2.2)])) a.lies.top K8 (λm=>by
   have m:=b3 m;rcases m with m|m<;>(first|exact je m nl.1.1|exact je m nl.1.2))
  have O2:Lies (kt w.params) h [(true,loc,gA w sl z.S aI t RO k1 k2 k3 (gX fr aF) x.2 (gY fr cy) f ft x'.2.2.2),(true,RO,ai (aT outs++[bg nl']) (bC+1))]:=a.lies;rw[hpl]at O2;have O3:Lies (kt w.params) h (bI outs):=hP.right.right.keep a.lies.top (KC.trans (K8.mono λa ha=>inr (.tail _ ha))) λp hp m=>by
   have hp:p.2.1∈adr (bI outs):=mD hp;rcases mA m with m|m
   ·exact hn p.2.1 (inr hp) m
   ·exact hP.right.apart (l:=[(true,RL,ai ((p0::r0).map iv) rep),(true,loc,di w sl z.S aI t RO k1 k2 k3 fr),(true,RO,ai (aT outs) bC)]) (l':=bI outs) m hp
  have O4:Lies (kt w.params) h [(true,nl',ai ((p0::r0).map iv) (bump ((p0::r0).map iv) 0))]:=by
   have z2:=lR z1 r1.top r2 λm=>by
    rw[q5]at m;rcases mA m with m|m
    ·exact E0 (qN _ (inl m)) hnl
    ·have m:=fB m;refine dw m (λm=>?_) λm=>dw m (λm=>?_) λm=>?_
     ·exact E3 (qN RL (inr aY)) hnl m
     ·exact E3 (qN loc (inr in1)) hnl m
     ·exact hnz m
   refine lR z2 a.lies.top K8 λm=>?_;have m:=b3 m;rcases m with m|m
   ·exact E3 (qN loc (inr in1)) hnl m
   ·exact E3 (qN RO (inr bT)) hnl m
  have O34:Lies (kt w.params) h (bI (outs++[(nl',p0::r0,bump ((p0::r0).map iv) 0)])):=by
   have e:bI (outs++[(nl',p0::r0,bump ((p0::r0).map iv) 0)])=bI outs++[(true,nl',ai ((p0::r0).map iv) (bump ((p0::r0).map iv) 0))]:=by
    delta bI;rw[aL];rfl
   rw[e];refine O3.join O4 λb hb hc=>?_;have:=hP.right.right.lt hb;exact B7 ‹_› (sA hc:b=nl') KA.1 hnl
  have er:aT (outs++[(nl',p0::r0,bump ((p0::r0).map iv) 0)])=aT outs++[bg nl']:=by
   delta aT;rw[aL];rfl
  have O12:=O1.join O2 λb hb hc=>by
   have hc:b∈[loc,RO]:=hc;have hc:=b3 hc;rcases hc with hc|hc<;>simp[←(sA hb:b=RL),←hc]at nl
  have OO:Lies (kt w.params) h (kJ w sl z aI t RO k1 k2 k3 RL loc x'.2.1 x'.2.2.1 (some ⟨gX fr aF,x.2,gY fr cy,f,ft,As,Au⟩) (outs++[(nl',p0::r0,bump ((p0::r0).map iv) 0)]) (bC+1)):=by
   delta kJ;rw[er];refine O12.join O34 λb hb hc=>?_;have hb:b∈[RL,loc,RO]:=hb;unfold bI at hc;rw[aL]at hc;delta adr at hc;rw[aL]at hc;rcases mA hc with hc|hc
   ·exact hP.right.apart (l:=[(true,RL,ai ((p0::r0).map iv) rep),(true,loc,di w sl z.S aI t RO k1 k2 k3 fr),(true,RO,ai (aT outs) bC)]) (l':=bI outs) hb hc
   ·exact E1 (qN b (inr hb)) (sA hc) hnl
  refine gg S1 OO λb hb=>?_;rw[r6,q5];unfold kJ adr at hb;rw[er,aL]at hb;rcases mA hb with hb|hb
  ·exact hn b (inl hb)
  ·unfold bI at hb;rw[aL,aL]at hb;rcases mA hb with hb|hb
   ·exact hn b (inr hb)
   ·intro m;exact E1 (qN b (inl m)) (sA hb) hnl
 ·obtain⟨t1,t2,t3,t4⟩:=q8;have KD:Keeps (aE z v++[RL,loc,RO]) s.heap h8:=KC.trans (a8.keeps.mono λa ha=>inr (.tail _ ha));have K9:Keeps [] h9 hp:=K;refine hR ((nl',p0::r0,bump ((p0::r0).map iv) 0)::x''.1,x''.2) hp t' T ⟨?_,(KD.trans (r6.trans q5▸t2)).trans K9.ext,?_,λo ho=>?_⟩
  ·rw[(by simp:outs++(nl',p0::r0,bump ((p0::r0).map iv) 0)::x''.1=outs++[(nl',p0::r0,bump ((p0::r0).map iv) 0)]++x''.1)]
   exact t1.ext T K9
  ·delta dM at t3⊢;rw[bP,t3]
  ·rcases aM.mp ho with rfl|ho
   ·exact bh KA.1 hnl
   ·exact bh KD.1 (t4 o ho)
theorem Fp{w:ao}{h' h:az}(hn:∀b∈[RL,loc,RO]++adr (bI outs),b∉aE z v)(hP:Lies (kt w.params) h' (aO w z v++kJ w sl z aI t RO k1 k2 k3 RL loc (p0::r0) rep fr outs bC))
  (L:Lies (kt w.params) h [(true,RL,ai ((p0::r0).map iv) rep),(true,loc,di w sl z.S aI t RO k1 k2 k3 fr),(true,RO,ai (aT outs) bC)]) (K:Keeps [RL,loc,RO] h' h):Lies (kt w.params) h (aO w z v++[(true,RL,ai ((p0::r0).map iv) rep)]):=
 gg (gy hP.left L.top K λb hb=>hn b (inl hb)) (L.part (λp hp=>.inl (sA hp▸.head _)) (yW _ (eX _))) λb hb=>sA hb▸hn RL (inl aY)
theorem Fq{w:ao}{u:SV}{x:Nat}{n:Nat}{h h':az}(hn:∀b∈[RL,loc,RO]++adr (bI outs),b∉aE z v)(nl:(¬RL=loc∧¬RL=RO)∧¬loc=RO∧¬False∧([]:List Nat).Nodup)
  (L:Lies (kt w.params) h [(true,RL,ai ((p0::r0).map iv) rep),(true,loc,di w sl z.S aI t RO k1 k2 k3 fr),(true,RO,ai (aT outs) bC)]) (T:aR (kt w.params) h') (q1:Lies (kt w.params) h' (aO w z u++[(true,RL,ai [] n),(true,x,aK ((p0::r0).map iv))])) (q2:Keeps (aE z v++[RL]) h h') (q3:h.objs.size≤x):
  Lies (kt w.params) h' [(true,loc,di w sl z.S aI t RO k1 k2 k3 fr),(true,RO,ai (aT outs) bC),(true,x,aK ((p0::r0).map iv))]:=by
 have O:Lies (kt w.params) h [(true,loc,di w sl z.S aI t RO k1 k2 k3 fr),(true,RO,ai (aT outs) bC)]:=Lies.right (l:=[(true,RL,ai ((p0::r0).map iv) rep)]) L;refine(O.keep T q2 λp hp m=>?_).join (q1.right.right (l:=[(true,RL,ai [] n)])) λb hb hc=>E1 (O.lt hb) (sA hc) q3;have hp:p.2.1∈[loc,RO]:=mD hp;rcases mA m with m|m
 ·exact hn p.2.1 (inl (.tail _ hp)) m
 ·rw[sA m]at hp;exact(b3 hp).elim nl.1.1 nl.1.2
theorem Ft{w:ao}{u:SV}{x y cR n j1 j2 ft:Nat}{f:Int}{ord:List (Int×Nat)}{pl:Option (Nat×aj)}{h' h0 h1 h:az}(hn:∀b∈[RL,loc,RO]++adr (bI outs),b∉aE z v)(nl:(¬RL=loc∧¬RL=RO)∧¬loc=RO∧¬False∧([]:List Nat).Nodup)
  (old:∀b∈aE z v,b<h'.objs.size) (hs:h'.objs.size≤h0.objs.size) (Fo:∀b∈[RL,loc,RO],b<h0.objs.size) (q1:Lies (kt w.params) h1 (aO w z u++[(true,RL,ai [] n),(true,x,aK ((p0::r0).map iv))])) (q3:h0.objs.size≤x) (q5:aE z u=aE z v)
  (K:Keeps [loc,RO,x] h1 h) (hy:h0.objs.size≤y) (hz:h0.objs.size≤cR) (O2:Lies (kt w.params) h (wM w sl z.S aI t RO k1 k2 k3 j1 x j2 f ft loc cR y (ord.map iv) 0 pl)):
  Lies (kt w.params) h (aO w z u++([(true,RL,ai [] n)]++wM w sl z.S aI t RO k1 k2 k3 j1 x j2 f ft loc cR y (ord.map iv) 0 pl)):=by
 have g0:=Fo RL aY;have nx:∀{y},h0.objs.size≤y→y∉aE z v:=λhy m=>Qj (old _ m) hs hy;refine gg (gy q1.left O2.top K λb hb=>q5▸?_) ((lR (q1.right.left (l':=[(true,x,aK ((p0::r0).map iv))])) O2.top K λm=>?_).join O2 λb hb hc=>?_) λb hb=>q5▸?_
 ·apply cB hb
  ·exact hn _ (inl in1)
  ·exact hn _ (inl bT)
  ·exact nx q3
 ·refine(fB m).elim nl.1.1 λm=>m.elim nl.1.2 λm=>E1 g0 m q3
 ·have hc:b∈[loc,y,cR]:=hc;rw[sA hb]at hc;exact(fB hc).elim nl.1.1 λm=>m.elim (λm=>E1 g0 m hy) λm=>E1 g0 m hz
 ·apply fX hb
  ·exact hn _ (inl aY)
  ·exact hn _ (inl in1)
  ·exact nx hy
  ·exact nx hz
theorem Fv{w:ao}{u:SV}{o1 e1 e2:Obj}{cR:Nat}{u':SV}{h1 h h':az}(hn:∀b∈[RL,loc,RO]++adr (bI outs),b∉aE z v)(nl:(¬RL=loc∧¬RL=RO)∧¬loc=RO∧¬False∧([]:List Nat).Nodup)
  (O:Lies (kt w.params) h [(true,RO,o1)]) (T:aR (kt w.params) h') (q4:Keeps (aE z u++[RL,loc,cR]) h h') (q5:aE z u=aE z v) (gl:RO<h1.objs.size) (ht:h1.objs.size≤cR) (q3:Lies (kt w.params) h' (aO w z u'++([(true,RL,e1)]++[(true,loc,e2)]))):
  Lies (kt w.params) h' [(true,loc,e2),(true,RO,o1)]:=by
 refine Lies.join (l:=[(true,loc,e2)]) (q3.right.right (l:=[(true,RL,e1)])) (lR O T q4 λm=>?_) λb hb hc=>nl.2.1 ((sA hb).symm.trans (sA hc));rw[q5]at m;rcases mA m with m|m
 ·exact hn RO (inl bT) m
 ·exact(fB m).elim (λm=>nl.1.2 m.symm) λm=>m.elim (λm=>nl.2.1 m.symm) λm=>E1 gl m ht
end
theorem abG(w0:ao)(fb fc:Bool)(sl:Array (Option aj))(z:SS)(aI:Int)(t RO k1 k2 k3 RL loc:Nat)(v:SV)(p0:Int×Nat)(r0:List (Int×Nat))(rep:Nat)(fr:Option WF)(outs:bF)(bC:Nat)(b:G×List Int)(rs:List (List Int))
  (nd:(names v).Nodup) (hrd:v.ready=.ref RL) (hnp:v.nf=v.np) (ho:outs.length≤900) (hl:(p0::r0).length≤6) (hm:∀p∈p0::r0,p.1∈names v) (f:Nat) (hf:jo aI (p0::r0).length=f) (hc:1≤f∧f<(p0::r0).length)
  (hD:jF (jG v.g ((p0::r0).map (·.1)),[]) (eS f ((p0::r0).map (·.1))) b)
  (ih:Ao (ak w0 fb fc) sl z aI t RO k1 k2 k3 RL loc v outs b rs):An (ak w0 fb fc) sl z aI t RO k1 k2 k3 RL loc v (p0::r0) rep fr outs bC ((p0::r0).map (·.1)::rs):=by
 obtain⟨rd,np,nf,u3,u4,cY,vl⟩:=v;obtain rfl:rd=.ref RL:=hrd;obtain rfl:nf=np:=hnp;generalize dF:(⟨.ref RL,nf,nf,u3,u4,cY,vl⟩:SV)=v at*;have d8:v.ready=.ref RL:=by rw[←dF]
 have hnn:v.nf=v.np:=by rw[←dF]
 have hact:=EG w0 fb fc z v RL (by rw[hnn];exact decide_eq_false (yX _)) (iv p0) (r0.map iv) (by simp at hl⊢;assumption) rep
 rw[show{v with ready:=.ref RL}=v by rw[←dF]]at hact
 have hget:=Fb w0 fb fc z v RL rep (p0::r0) hl hm nd d8;have jq:=λfirst ft RO j1 tup j2 it src ord v aH rep b nd hrd hD=>Ff w0 fb fc sl z aI t RO k1 k2 k3 j1 tup j2 first ft RL loc it src ord ord 0 v aH rep (tU fr) b rfl nd hrd hD
 generalize hw:ak w0 fb fc=w at*;have hmod:=Am aI (p0::r0).length;rw[hf]at hmod;have e1:((p0::r0).map iv).length=(p0::r0).length:=bl _;have hl1:((p0::r0).map iv).length≤1000:=by rw[e1];exact Ca hl
 have hor:(aT outs).length≤1000:=by delta aT;rw[bl];exact E4 ho
 have hmb:(((p0::r0).map iv).length:Int)+1≠0:=by exact Cj
 have oZ:aI.fmod ((((p0::r0).map iv).length:Int)+1)=(f:Int):=by rw[e1];exact hmod.1
 have hadd:∀d e,Spec w 119 (.builtin "tuple.__add__" ⟨[.ref d,.ref e],[]⟩) [(false,d,aK (((p0::r0).map iv).drop f)),(false,e,aK (((p0::r0).map iv).take f))] Nat (λx=>.ok (.ret (.ref x))) (λaf=>[]) (λx=>[(x,aK ((eS f (p0::r0)).map iv))]):=λd e=>by
  have:=aby w d e (((p0::r0).map iv).drop f) (((p0::r0).map iv).take f) (λh=>by have:=congrArg pY h;rw[rY,e1]at this;simp at this hc;exact To this hc.2) (λh=>by have:=congrArg pY h;rw[rX,e1]at this;simp at this hc;exact QW hc.1 this) (by rw[rY,rX,e1];exact Wu e1 hl1)
  rw[←C9,←yP,←aL]at this;rw[←C9,←yP];exact this
 refine d7 rfl rfl λA s R hT hP hR=>?_;have old:=lM hP.left;have hn:∀b∈[RL,loc,RO]++adr (bI outs),b∉aE z v:=λb hb=>hP.eL (by
  delta kJ adr;rw[aL];exact hb)
 have nl:[RL,loc,RO].Nodup:=(hP.right.left (l':=bI outs)).nd;simp only[bA,aM,bO,or_false,not_or]at nl;have L0:Lies (kt w.params) s.heap ([(false,z.S,bY z.d),(false,z.d,bH w z v)]++[(true,RL,ai ((p0::r0).map iv) rep),(true,loc,di w sl z.S aI t RO k1 k2 k3 fr),(true,RO,ai (aT outs) bC)]):=by
  refine(m7 hP.left).join (hP.right.left (l':=bI outs)) λb hb hc=>?_;revert hc;apply bJ hb<;>intro hc
  ·exact hn _ (inl hc) bL.1
  ·exact hn _ (inl hc) bL.2.1
 refine⟨_,L0,aq (dec 84238258139562974360419700934) (.cut 96 _ [(0,false,z.S,bY z.d),(1,false,z.d,bH w z v),(2,false,RL,ai ((p0::r0).map iv) rep)] Unit _ (λaf=>[]) (λaf=>[]) λaf af af=>
  aq (dec 84238258139562974360419700934) (.wide 88 _ [(2,true,RL,ai ((p0::r0).map iv) rep),(3,true,loc,di w sl z.S aI t RO k1 k2 k3 fr),(4,true,RO,ai (aT outs) bC)] (SV×Nat) _ (λx=>[(true,loc,di w sl z.S aI t RO k1 k2 k3 fr),(true,RO,ai (aT outs) bC),(true,x.2,aK ((p0::r0).map iv))]) λx h1 aX aF=>
  aq (dec 54329347792711875) (.cut 119 _ [] Nat _ (λaf=>[]) (λnl'=>[(nl',ai [] 0)]) λnl' aQ b4=>
  aq (dec 24966) (.cut 110 _ [(2,false,x.2,aK ((p0::r0).map iv)),(3,true,nl',ai [] 0)] Unit _ (λaf=>[(3,nl',ai ((p0::r0).map iv) (bump ((p0::r0).map iv) 0))]) (λaf=>[]) λaf bW bV=>
  aq (dec 4) (.cut 119 _ [(1,true,RO,ai (aT outs) bC)] Unit _ (λaf=>[(1,RO,ai (aT outs++[bg nl']) (bC+1))]) (λaf=>[]) λaf d9 eO=>
  aq (dec 790595) (.cut 118 _ [(2,false,x.2,aK ((p0::r0).map iv))] Nat _ (λaf=>[]) (λaf=>[]) λlt eT gF=>
  aq (dec 0) (.cut 119 _ [] Nat _ (λaf=>[]) (λaf=>[]) λft gQ cy=>
  aq (dec 1429714116554947) (.cut 119 _ [(2,false,x.2,aK ((p0::r0).map iv)),(4,false,gQ,fq (.int f ft) .none)] Nat _ (λaf=>[]) (λd=>[(d,aK (((p0::r0).map iv).drop f))]) λd iY dU=>
  aq (dec 349051297987) (.cut 119 _ [(2,false,x.2,aK ((p0::r0).map iv)),(6,false,iY,fq .none (.int f ft))] Nat _ (λaf=>[]) (λe=>[(e,aK (((p0::r0).map iv).take f))]) λe qO qP=>
  aq (dec 2130568) (.cut 119 _ [(5,false,d,aK (((p0::r0).map iv).drop f)),(7,false,e,aK (((p0::r0).map iv).take f))] Nat _ (λaf=>[]) (λy=>[(y,aK ((eS f (p0::r0)).map iv))]) λy cR qQ=>
  aq (dec 201896651) (.wide 86 _ [(0,true,loc,gA w sl z.S aI t RO k1 k2 k3 (gX fr aF) x.2 (gY fr cy) f ft (tU fr)),(1,true,RO,ai (aT outs++[bg nl']) (bC+1)),(3,true,nl',ai ((p0::r0).map iv) (bump ((p0::r0).map iv) 0)),(8,true,y,aK ((eS f (p0::r0)).map iv)),(9,true,cR,aC "tuple_iterator" (.ref y) 0)] (SV×List (Int×Nat)×Nat×Option (Nat×aj)) _ (λx'=>[(true,loc,gA w sl z.S aI t RO k1 k2 k3 (gX fr aF) x.2 (gY fr cy) f ft x'.2.2.2),(true,RO,ai (aT outs++[bg nl']) (bC+1))]) λx' h7 af af=>
  aq (dec 0) (.wide 84 (tS loc) [(0,true,loc,gA w sl z.S aI t RO k1 k2 k3 (gX fr aF) x.2 (gY fr cy) f ft x'.2.2.2),(1,true,RO,ai (aT outs++[bg nl']) (bC+1))] (bF×Nat×Option WF) (λaf=>.ok .next) (λaf=>[]) λx'' h9 af af=>.done (.ok .next) [] [])))))))))))),
  au (ay hact λaf af af=>au (cC hget (λh a=>?wN) (λx h h' a T q=>?wO) λ(x:SV×Nat) h0 h1 aX aF a1 T1 q1=>
   au (ay (Ak w (.ref x.2)) λnl' aQ b4=>au (ay (EW w nl' x.2 "tuple" ((p0::r0).map iv) 0 (.inr rfl) hl1) λaf bW bV=>
   au (ay (iJ w RO (aT outs) bC (.ref nl') hor) λaf d9 eO=>au (ay (Fc w x.2 ((p0::r0).map iv) hl1) λlt eT gF=>
   au (ay (tT w aI ((((p0::r0).map iv).length:Int)+1) t (gF+1) f hmb oZ) λft gQ cy=>
   au (ay (LI w x.2 gQ ((p0::r0).map iv) f ft hl1 hc.1 (by rw[e1];exact Nat.le_of_lt hc.2)) λd iY dU=>au (ay (LJ w x.2 iY ((p0::r0).map iv) f ft hl1 (by rw[e1];exact hc.2)) λe qO qP=>au (ay (hadd d e) λy cR qQ=>
   au (cC (jq f ft RO (gX fr aF) x.2 (gY fr cy) cR y (eS f (p0::r0)) x.1 [] (bump ((p0::r0).map iv) rep) b ?wQ ?wR ?DF) (λh a=>?wU) (λx' h h' a T q=>?wV) λx' h6 h7 af af a6 T6 q6=>
    au ?rest))))))))))),?run⟩
 case wN=>exact Fp hn hP a.lies a.keeps
 case wO=>exact Fq hn nl a.lies T q.1 q.2.1 q.2.2.1
 case wQ=>exact q1.2.2.2.2.2.2.2.1▸nd
 case wR=>exact q1.2.2.2.1.trans d8
 case DF=>
  have e:x.1.g=jG v.g ((p0::r0).map (·.1)):=by
   rw[q1.2.2.2.2.2.2.2.2];delta jG;rw[C8]
  show jF (x.1.g,[]) (((eS f (p0::r0))).map (·.1)) b;rw[e];have e2:(eS f (p0::r0)).map (·.1)=eS f ((p0::r0).map (·.1)):=by
   delta eS;rw[aL,C9,yP]
  rw[e2];exact hD
 case wU=>
  exact Ft hn nl old a1.keeps.1 (λb hb=>a1.lies.lt hb) q1.1 q1.2.2.1 q1.2.2.2.2.2.2.1 a.keeps (bh q1.2.1.1 (a.fresh (8,true,y,aK ((eS f (p0::r0)).map iv)) eW (show 3≤8 by decide))) (bh q1.2.1.1 (a.fresh (9,true,cR,aC "tuple_iterator" (.ref y) 0) in4 (show 3≤9 by decide))) (a.lies.pick (λp hp=>by
   apply cB hp
   ·exact .inl aY
   ·exact .inr ⟨rfl,true,eW⟩
   ·exact .inl in4) (a.lies.nd.sublist (.cons_cons _ (.cons _ (.cons _ (.cons_cons _ (.cons_cons _ .slnil)))))))
 case wV=>
  exact Fv hn nl (a.lies.part (λp hp=>.inl (sA hp▸.tail _ (.head _))) (Dj _ (yW _ (eX _)))) T q.2.1 q1.2.2.2.2.2.2.1 (rZ (a1.lies.lt (a:=RO) bT) q1.2.1.1) (a.fresh (9,true,cR,aC "tuple_iterator" (.ref y) 0) in4 (show 3≤9 by decide)) q.1
 case rest=>
  refine nW q1 λq1 q2 q3 g1 g2 g3 q5 g4 g5=>?_;refine nW q6 λr1 r2 r3 r4 r5 r6 r7 r8 r9=>?_;exact Fl nd d8 hn nl hP ih hR g1 q5 g4 r1 r2 r3 r4 (r5.trans (congrArg (x.1.nf+ ·) (by simp[eS];exact SR))) g2 g3 hnn r6 r7 r8 (r9 (.inr (λe=>by have:=congrArg pY e;simp[eS]at this;exact Tq this.1 this.2))) (a6.fresh (9,true,cR,aC "tuple_iterator" (.ref y) 0) in4 (show 3≤9 by decide)) (a6.fresh (3,true,nl',ai ((p0::r0).map iv) (bump ((p0::r0).map iv) 0)) bT (show 3≤3 by decide)) (λe=>by
   have nn:=a6.lies.nd;simp[e]at nn) old a1.keeps (λb hb=>a1.lies.lt hb) q2 q3 a6.keeps (a6.lies.part (λp hp=>.inl (by rw[sA hp];exact bT)) (.cons _ (.cons _ (.cons_cons _ (.cons _ (.cons _ .slnil))))))
 case run=>
  clear hP L0 hR hT ih hact hget jq hmod e1 hD hm hl hf d8 hnn nd ho hc hl1 hor hmb oZ hn nl old hadd;(apply tH hw dF fr;kernel_rfl!)
theorem abH(w0:ao)(fb fc:Bool)(sl:Array (Option aj))(z:SS)(aI:Int)(t RO k1 k2 k3 RL loc:Nat)(v:SV)(p0:Int×Nat)(r0:List (Int×Nat))(rep:Nat)(fr:Option WF)(outs:bF)(bC:Nat)(b:G×List Int)(rs:List (List Int))
  (nd:(names v).Nodup) (hrd:v.ready=.ref RL) (hnp:v.nf=v.np) (ho:outs.length≤900) (hl:(p0::r0).length≤6) (hm:∀p∈p0::r0,p.1∈names v) (f:Nat) (hf:jo aI (p0::r0).length=f) (hc:f=0)
  (hD:jF (jG v.g ((p0::r0).map (·.1)),[]) (eS f ((p0::r0).map (·.1))) b)
  (ih:Ao (ak w0 fb fc) sl z aI t RO k1 k2 k3 RL loc v outs b rs):An (ak w0 fb fc) sl z aI t RO k1 k2 k3 RL loc v (p0::r0) rep fr outs bC ((p0::r0).map (·.1)::rs):=by
 obtain⟨rd,np,nf,u3,u4,cY,vl⟩:=v;obtain rfl:rd=.ref RL:=hrd;obtain rfl:nf=np:=hnp;generalize dF:(⟨.ref RL,nf,nf,u3,u4,cY,vl⟩:SV)=v at*;have d8:v.ready=.ref RL:=by rw[←dF]
 have hnn:v.nf=v.np:=by rw[←dF]
 have hact:=EG w0 fb fc z v RL (by rw[hnn];exact decide_eq_false (yX _)) (iv p0) (r0.map iv) (by simp at hl⊢;assumption) rep
 rw[show{v with ready:=.ref RL}=v by rw[←dF]]at hact
 have hget:=Fb w0 fb fc z v RL rep (p0::r0) hl hm nd d8;have jq:=λfirst ft RO j1 tup j2 it src ord v aH rep b nd hrd hD=>Ff w0 fb fc sl z aI t RO k1 k2 k3 j1 tup j2 first ft RL loc it src ord ord 0 v aH rep (tU fr) b rfl nd hrd hD
 generalize hw:ak w0 fb fc=w at*;have hmod:=Am aI (p0::r0).length;rw[hf]at hmod;have e1:((p0::r0).map iv).length=(p0::r0).length:=bl _;have hl1:((p0::r0).map iv).length≤1000:=by rw[e1];exact Ca hl
 have hor:(aT outs).length≤1000:=by delta aT;rw[bl];exact E4 ho
 have hmb:(((p0::r0).map iv).length:Int)+1≠0:=by exact Cj
 have oZ:aI.fmod ((((p0::r0).map iv).length:Int)+1)=(f:Int):=by rw[e1];exact hmod.1
 skip
 refine d7 rfl rfl λA s R hT hP hR=>?_;have old:=lM hP.left;have hn:∀b∈[RL,loc,RO]++adr (bI outs),b∉aE z v:=λb hb=>hP.eL (by
  delta kJ adr;rw[aL];exact hb)
 have nl:[RL,loc,RO].Nodup:=(hP.right.left (l':=bI outs)).nd;simp only[bA,aM,bO,or_false,not_or]at nl;have L0:Lies (kt w.params) s.heap ([(false,z.S,bY z.d),(false,z.d,bH w z v)]++[(true,RL,ai ((p0::r0).map iv) rep),(true,loc,di w sl z.S aI t RO k1 k2 k3 fr),(true,RO,ai (aT outs) bC)]):=by
  refine(m7 hP.left).join (hP.right.left (l':=bI outs)) λb hb hc=>?_;revert hc;apply bJ hb<;>intro hc
  ·exact hn _ (inl hc) bL.1
  ·exact hn _ (inl hc) bL.2.1
 refine⟨_,L0,aq (dec 84238258139562974360419700934) (.cut 96 _ [(0,false,z.S,bY z.d),(1,false,z.d,bH w z v),(2,false,RL,ai ((p0::r0).map iv) rep)] Unit _ (λaf=>[]) (λaf=>[]) λaf af af=>
  aq (dec 84238258139562974360419700934) (.wide 88 _ [(2,true,RL,ai ((p0::r0).map iv) rep),(3,true,loc,di w sl z.S aI t RO k1 k2 k3 fr),(4,true,RO,ai (aT outs) bC)] (SV×Nat) _ (λx=>[(true,loc,di w sl z.S aI t RO k1 k2 k3 fr),(true,RO,ai (aT outs) bC),(true,x.2,aK ((p0::r0).map iv))]) λx h1 aX aF=>
  aq (dec 54329347792711875) (.cut 119 _ [] Nat _ (λaf=>[]) (λnl'=>[(nl',ai [] 0)]) λnl' aQ b4=>
  aq (dec 24966) (.cut 110 _ [(2,false,x.2,aK ((p0::r0).map iv)),(3,true,nl',ai [] 0)] Unit _ (λaf=>[(3,nl',ai ((p0::r0).map iv) (bump ((p0::r0).map iv) 0))]) (λaf=>[]) λaf bW bV=>
  aq (dec 4) (.cut 119 _ [(1,true,RO,ai (aT outs) bC)] Unit _ (λaf=>[(1,RO,ai (aT outs++[bg nl']) (bC+1))]) (λaf=>[]) λaf d9 eO=>
  aq (dec 790595) (.cut 118 _ [(2,false,x.2,aK ((p0::r0).map iv))] Nat _ (λaf=>[]) (λaf=>[]) λlt eT gF=>
  aq (dec 0) (.cut 119 _ [] Nat _ (λaf=>[]) (λaf=>[]) λft gQ cy=>
  aq (dec 1429714116554947) (.cut 119 _ [(2,false,x.2,aK ((p0::r0).map iv)),(4,false,gQ,fq (.int f ft) .none)] Unit _ (λaf=>[]) (λaf=>[]) λaf iY dU=>
  aq (dec 349051297987) (.cut 119 _ [(2,false,x.2,aK ((p0::r0).map iv)),(5,false,iY,fq .none (.int f ft))] Nat _ (λaf=>[]) (λe=>[(e,aK [])]) λe qO qP=>
  aq (dec 1331781) (.cut 119 _ [(2,false,x.2,aK ((p0::r0).map iv)),(6,false,e,aK [])] Unit _ (λaf=>[]) (λaf=>[]) λaf cR qQ=>
  aq (dec 168317253) (.wide 86 _ [(0,true,loc,gA w sl z.S aI t RO k1 k2 k3 (gX fr aF) x.2 (gY fr cy) f ft (tU fr)),(1,true,RO,ai (aT outs++[bg nl']) (bC+1)),(2,true,x.2,aK ((p0::r0).map iv)),(3,true,nl',ai ((p0::r0).map iv) (bump ((p0::r0).map iv) 0)),(7,true,cR,aC "tuple_iterator" (.ref x.2) 0)] (SV×List (Int×Nat)×Nat×Option (Nat×aj)) _ (λx'=>[(true,loc,gA w sl z.S aI t RO k1 k2 k3 (gX fr aF) x.2 (gY fr cy) f ft x'.2.2.2),(true,RO,ai (aT outs++[bg nl']) (bC+1))]) λx' h7 af af=>
  aq (dec 0) (.wide 84 (tS loc) [(0,true,loc,gA w sl z.S aI t RO k1 k2 k3 (gX fr aF) x.2 (gY fr cy) f ft x'.2.2.2),(1,true,RO,ai (aT outs++[bg nl']) (bC+1))] (bF×Nat×Option WF) (λaf=>.ok .next) (λaf=>[]) λx'' h9 af af=>.done (.ok .next) [] [])))))))))))),
  au (ay hact λaf af af=>au (cC hget (λh a=>?wN) (λx h h' a T q=>?wO) λ(x:SV×Nat) h0 h1 aX aF a1 T1 q1=>
   au (ay (Ak w (.ref x.2)) λnl' aQ b4=>au (ay (EW w nl' x.2 "tuple" ((p0::r0).map iv) 0 (.inr rfl) hl1) λaf bW bV=>
   au (ay (iJ w RO (aT outs) bC (.ref nl') hor) λaf d9 eO=>au (ay (Fc w x.2 ((p0::r0).map iv) hl1) λlt eT gF=>
   au (ay (tT w aI ((((p0::r0).map iv).length:Int)+1) t (gF+1) f hmb oZ) λft gQ cy=>
   au (ay (abt w x.2 gQ ((p0::r0).map iv) f ft hl1 hc) λaf iY dU=>au (ay (abw w x.2 iY ((p0::r0).map iv) f ft hl1 hc (by rw[e1];exact jT _)) λe qO qP=>au (ay (abx w x.2 e ((p0::r0).map iv) (λh=>nomatch h)) λaf cR qQ=>
   au (cC (jq f ft RO (gX fr aF) x.2 (gY fr cy) cR x.2 (p0::r0) x.1 [] (bump ((p0::r0).map iv) rep) b ?wQ ?wR ?DF) (λh a=>?wU) (λx' h h' a T q=>?wV) λx' h6 h7 af af a6 T6 q6=>
    au ?rest))))))))))),?run⟩
 case wN=>exact Fp hn hP a.lies a.keeps
 case wO=>exact Fq hn nl a.lies T q.1 q.2.1 q.2.2.1
 case wQ=>exact q1.2.2.2.2.2.2.2.1▸nd
 case wR=>exact q1.2.2.2.1.trans d8
 case DF=>
  have e:x.1.g=jG v.g ((p0::r0).map (·.1)):=by
   rw[q1.2.2.2.2.2.2.2.2];delta jG;rw[C8]
  show jF (x.1.g,[]) (((p0::r0)).map (·.1)) b;rw[e];have e2:eS f ((p0::r0).map (·.1))=(p0::r0).map (·.1):=by
   delta eS;rw[hc];simp
  rw[e2]at hD;exact hD
 case wU=>
  exact Ft hn nl old a1.keeps.1 (λb hb=>a1.lies.lt hb) q1.1 q1.2.2.1 q1.2.2.2.2.2.2.1 a.keeps q1.2.2.1 (bh q1.2.1.1 (a.fresh (7,true,cR,aC "tuple_iterator" (.ref x.2) 0) in4 (show 3≤7 by decide))) (a.lies.pick (λp hp=>by
   apply cB hp
   ·exact .inl aY
   ·exact .inr ⟨rfl,true,bT⟩
   ·exact .inl in4) (a.lies.nd.sublist (.cons_cons _ (.cons _ (.cons_cons _ (.cons _ (.cons_cons _ .slnil)))))))
 case wV=>
  exact Fv hn nl (a.lies.part (λp hp=>.inl (sA hp▸.tail _ (.head _))) (Dj _ (yW _ (eX _)))) T q.2.1 q1.2.2.2.2.2.2.1 (rZ (a1.lies.lt (a:=RO) bT) q1.2.1.1) (a.fresh (7,true,cR,aC "tuple_iterator" (.ref x.2) 0) in4 (show 3≤7 by decide)) q.1
 case rest=>
  refine nW q1 λq1 q2 q3 g1 g2 g3 q5 g4 g5=>?_;refine nW q6 λr1 r2 r3 r4 r5 r6 r7 r8 r9=>?_;exact Fl nd d8 hn nl hP ih hR g1 q5 g4 r1 r2 r3 r4 r5 g2 g3 hnn r6 r7 r8 (r9 (.inr (λh=>nomatch h))) (a6.fresh (7,true,cR,aC "tuple_iterator" (.ref x.2) 0) in4 (show 3≤7 by decide)) (a6.fresh (3,true,nl',ai ((p0::r0).map iv) (bump ((p0::r0).map iv) 0)) eW (show 3≤3 by decide)) (λe=>by
   have nn:=a6.lies.nd;simp[e]at nn) old a1.keeps (λb hb=>a1.lies.lt hb) q2 q3 a6.keeps (a6.lies.part (λp hp=>.inl (by rw[sA hp];exact eW)) (.cons _ (.cons _ (.cons _ (.cons_cons _ (.cons _ .slnil))))))
 case run=>
  clear hP L0 hR hT ih hact hget jq hmod e1 hD hm hl hf d8 hnn nd ho hc hl1 hor hmb oZ hn nl old;(apply tH hw dF fr;kernel_rfl!)
theorem abI(w0:ao)(fb fc:Bool)(sl:Array (Option aj))(z:SS)(aI:Int)(t RO k1 k2 k3 RL loc:Nat)(v:SV)(p0:Int×Nat)(r0:List (Int×Nat))(rep:Nat)(fr:Option WF)(outs:bF)(bC:Nat)(b:G×List Int)(rs:List (List Int))
  (nd:(names v).Nodup) (hrd:v.ready=.ref RL) (hnp:v.nf=v.np) (ho:outs.length≤900) (hl:(p0::r0).length≤6) (hm:∀p∈p0::r0,p.1∈names v) (f:Nat) (hf:jo aI (p0::r0).length=f) (hc:f=(p0::r0).length)
  (hD:jF (jG v.g ((p0::r0).map (·.1)),[]) (eS f ((p0::r0).map (·.1))) b)
  (ih:Ao (ak w0 fb fc) sl z aI t RO k1 k2 k3 RL loc v outs b rs):An (ak w0 fb fc) sl z aI t RO k1 k2 k3 RL loc v (p0::r0) rep fr outs bC ((p0::r0).map (·.1)::rs):=by
 obtain⟨rd,np,nf,u3,u4,cY,vl⟩:=v;obtain rfl:rd=.ref RL:=hrd;obtain rfl:nf=np:=hnp;generalize dF:(⟨.ref RL,nf,nf,u3,u4,cY,vl⟩:SV)=v at*;have d8:v.ready=.ref RL:=by rw[←dF]
 have hnn:v.nf=v.np:=by rw[←dF]
 have hact:=EG w0 fb fc z v RL (by rw[hnn];exact decide_eq_false (yX _)) (iv p0) (r0.map iv) (by simp at hl⊢;assumption) rep
 rw[show{v with ready:=.ref RL}=v by rw[←dF]]at hact
 have hget:=Fb w0 fb fc z v RL rep (p0::r0) hl hm nd d8;have jq:=λfirst ft RO j1 tup j2 it src ord v aH rep b nd hrd hD=>Ff w0 fb fc sl z aI t RO k1 k2 k3 j1 tup j2 first ft RL loc it src ord ord 0 v aH rep (tU fr) b rfl nd hrd hD
 generalize hw:ak w0 fb fc=w at*;have hmod:=Am aI (p0::r0).length;rw[hf]at hmod;have e1:((p0::r0).map iv).length=(p0::r0).length:=bl _;have hl1:((p0::r0).map iv).length≤1000:=by rw[e1];exact Ca hl
 have hor:(aT outs).length≤1000:=by delta aT;rw[bl];exact E4 ho
 have hmb:(((p0::r0).map iv).length:Int)+1≠0:=by exact Cj
 have oZ:aI.fmod ((((p0::r0).map iv).length:Int)+1)=(f:Int):=by rw[e1];exact hmod.1
 skip
 refine d7 rfl rfl λA s R hT hP hR=>?_;have old:=lM hP.left;have hn:∀b∈[RL,loc,RO]++adr (bI outs),b∉aE z v:=λb hb=>hP.eL (by
  delta kJ adr;rw[aL];exact hb)
 have nl:[RL,loc,RO].Nodup:=(hP.right.left (l':=bI outs)).nd;simp only[bA,aM,bO,or_false,not_or]at nl;have L0:Lies (kt w.params) s.heap ([(false,z.S,bY z.d),(false,z.d,bH w z v)]++[(true,RL,ai ((p0::r0).map iv) rep),(true,loc,di w sl z.S aI t RO k1 k2 k3 fr),(true,RO,ai (aT outs) bC)]):=by
  refine(m7 hP.left).join (hP.right.left (l':=bI outs)) λb hb hc=>?_;revert hc;apply bJ hb<;>intro hc
  ·exact hn _ (inl hc) bL.1
  ·exact hn _ (inl hc) bL.2.1
 refine⟨_,L0,aq (dec 84238258139562974360419700934) (.cut 96 _ [(0,false,z.S,bY z.d),(1,false,z.d,bH w z v),(2,false,RL,ai ((p0::r0).map iv) rep)] Unit _ (λaf=>[]) (λaf=>[]) λaf af af=>
  aq (dec 84238258139562974360419700934) (.wide 88 _ [(2,true,RL,ai ((p0::r0).map iv) rep),(3,true,loc,di w sl z.S aI t RO k1 k2 k3 fr),(4,true,RO,ai (aT outs) bC)] (SV×Nat) _ (λx=>[(true,loc,di w sl z.S aI t RO k1 k2 k3 fr),(true,RO,ai (aT outs) bC),(true,x.2,aK ((p0::r0).map iv))]) λx h1 aX aF=>
  aq (dec 54329347792711875) (.cut 119 _ [] Nat _ (λaf=>[]) (λnl'=>[(nl',ai [] 0)]) λnl' aQ b4=>
  aq (dec 24966) (.cut 110 _ [(2,false,x.2,aK ((p0::r0).map iv)),(3,true,nl',ai [] 0)] Unit _ (λaf=>[(3,nl',ai ((p0::r0).map iv) (bump ((p0::r0).map iv) 0))]) (λaf=>[]) λaf bW bV=>
  aq (dec 4) (.cut 119 _ [(1,true,RO,ai (aT outs) bC)] Unit _ (λaf=>[(1,RO,ai (aT outs++[bg nl']) (bC+1))]) (λaf=>[]) λaf d9 eO=>
  aq (dec 790595) (.cut 118 _ [(2,false,x.2,aK ((p0::r0).map iv))] Nat _ (λaf=>[]) (λaf=>[]) λlt eT gF=>
  aq (dec 0) (.cut 119 _ [] Nat _ (λaf=>[]) (λaf=>[]) λft gQ cy=>
  aq (dec 1429714116554947) (.cut 119 _ [(2,false,x.2,aK ((p0::r0).map iv)),(4,false,gQ,fq (.int f ft) .none)] Nat _ (λaf=>[]) (λd=>[(d,aK [])]) λd iY dU=>
  aq (dec 349051297987) (.cut 119 _ [(2,false,x.2,aK ((p0::r0).map iv)),(6,false,iY,fq .none (.int f ft))] Unit _ (λaf=>[]) (λaf=>[]) λaf qO qP=>
  aq (dec 2130248) (.cut 119 _ [(2,false,x.2,aK ((p0::r0).map iv)),(5,false,d,aK [])] Unit _ (λaf=>[]) (λaf=>[]) λaf cR qQ=>
  aq (dec 168317253) (.wide 86 _ [(0,true,loc,gA w sl z.S aI t RO k1 k2 k3 (gX fr aF) x.2 (gY fr cy) f ft (tU fr)),(1,true,RO,ai (aT outs++[bg nl']) (bC+1)),(2,true,x.2,aK ((p0::r0).map iv)),(3,true,nl',ai ((p0::r0).map iv) (bump ((p0::r0).map iv) 0)),(7,true,cR,aC "tuple_iterator" (.ref x.2) 0)] (SV×List (Int×Nat)×Nat×Option (Nat×aj)) _ (λx'=>[(true,loc,gA w sl z.S aI t RO k1 k2 k3 (gX fr aF) x.2 (gY fr cy) f ft x'.2.2.2),(true,RO,ai (aT outs++[bg nl']) (bC+1))]) λx' h7 af af=>
  aq (dec 0) (.wide 84 (tS loc) [(0,true,loc,gA w sl z.S aI t RO k1 k2 k3 (gX fr aF) x.2 (gY fr cy) f ft x'.2.2.2),(1,true,RO,ai (aT outs++[bg nl']) (bC+1))] (bF×Nat×Option WF) (λaf=>.ok .next) (λaf=>[]) λx'' h9 af af=>.done (.ok .next) [] [])))))))))))),
  au (ay hact λaf af af=>au (cC hget (λh a=>?wN) (λx h h' a T q=>?wO) λ(x:SV×Nat) h0 h1 aX aF a1 T1 q1=>
   au (ay (Ak w (.ref x.2)) λnl' aQ b4=>au (ay (EW w nl' x.2 "tuple" ((p0::r0).map iv) 0 (.inr rfl) hl1) λaf bW bV=>
   au (ay (iJ w RO (aT outs) bC (.ref nl') hor) λaf d9 eO=>au (ay (Fc w x.2 ((p0::r0).map iv) hl1) λlt eT gF=>
   au (ay (tT w aI ((((p0::r0).map iv).length:Int)+1) t (gF+1) f hmb oZ) λft gQ cy=>
   au (ay (abu w x.2 gQ ((p0::r0).map iv) f ft hl1 (by rw[hc];exact jT _) (by rw[hc,e1])) λd iY dU=>au (ay (abv w x.2 iY ((p0::r0).map iv) f ft hl1 (by rw[hc,e1])) λaf qO qP=>au (ay (add_right w d x.2 ((p0::r0).map iv)) λaf cR qQ=>
   au (cC (jq f ft RO (gX fr aF) x.2 (gY fr cy) cR x.2 (p0::r0) x.1 [] (bump ((p0::r0).map iv) rep) b ?wQ ?wR ?DF) (λh a=>?wU) (λx' h h' a T q=>?wV) λx' h6 h7 af af a6 T6 q6=>
    au ?rest))))))))))),?run⟩
 case wN=>exact Fp hn hP a.lies a.keeps
 case wO=>exact Fq hn nl a.lies T q.1 q.2.1 q.2.2.1
 case wQ=>exact q1.2.2.2.2.2.2.2.1▸nd
 case wR=>exact q1.2.2.2.1.trans d8
 case DF=>
  have e:x.1.g=jG v.g ((p0::r0).map (·.1)):=by
   rw[q1.2.2.2.2.2.2.2.2];delta jG;rw[C8]
  show jF (x.1.g,[]) (((p0::r0)).map (·.1)) b;rw[e];have e2:eS f ((p0::r0).map (·.1))=(p0::r0).map (·.1):=by
   delta eS;rw[hc,JG (qb (bl _)),JE (qb (bl _))];rfl
  rw[e2]at hD;exact hD
 case wU=>
  exact Ft hn nl old a1.keeps.1 (λb hb=>a1.lies.lt hb) q1.1 q1.2.2.1 q1.2.2.2.2.2.2.1 a.keeps q1.2.2.1 (bh q1.2.1.1 (a.fresh (7,true,cR,aC "tuple_iterator" (.ref x.2) 0) in4 (show 3≤7 by decide))) (a.lies.pick (λp hp=>by
   apply cB hp
   ·exact .inl aY
   ·exact .inr ⟨rfl,true,bT⟩
   ·exact .inl in4) (a.lies.nd.sublist (.cons_cons _ (.cons _ (.cons_cons _ (.cons _ (.cons_cons _ .slnil)))))))
 case wV=>
  exact Fv hn nl (a.lies.part (λp hp=>.inl (sA hp▸.tail _ (.head _))) (Dj _ (yW _ (eX _)))) T q.2.1 q1.2.2.2.2.2.2.1 (rZ (a1.lies.lt (a:=RO) bT) q1.2.1.1) (a.fresh (7,true,cR,aC "tuple_iterator" (.ref x.2) 0) in4 (show 3≤7 by decide)) q.1
 case rest=>
  refine nW q1 λq1 q2 q3 g1 g2 g3 q5 g4 g5=>?_;refine nW q6 λr1 r2 r3 r4 r5 r6 r7 r8 r9=>?_;exact Fl nd d8 hn nl hP ih hR g1 q5 g4 r1 r2 r3 r4 r5 g2 g3 hnn r6 r7 r8 (r9 (.inr (λh=>nomatch h))) (a6.fresh (7,true,cR,aC "tuple_iterator" (.ref x.2) 0) in4 (show 3≤7 by decide)) (a6.fresh (3,true,nl',ai ((p0::r0).map iv) (bump ((p0::r0).map iv) 0)) eW (show 3≤3 by decide)) (λe=>by
   have nn:=a6.lies.nd;simp[e]at nn) old a1.keeps (λb hb=>a1.lies.lt hb) q2 q3 a6.keeps (a6.lies.part (λp hp=>.inl (by rw[sA hp];exact eW)) (.cons _ (.cons _ (.cons _ (.cons_cons _ (.cons _ .slnil))))))
 case run=>
  clear hP L0 hR hT ih hact hget jq hmod e1 hD hm hl hf d8 hnn nd ho hc hl1 hor hmb oZ hn nl old;(apply tH hw dF fr;kernel_rfl!)
theorem abJ(w0:ao)(fb fc:Bool)(sl:Array (Option aj))(z:SS)(aI:Int)(t RO k1 k2 k3 RL loc:Nat)(a:G×List Int)(rs:List (List Int))(hr:qM aI a rs):∀(v:SV) (aH:List (Int×Nat)) (rep:Nat) (fr:Option WF) (outs:bF) (bC:Nat),(names v).Nodup→v.ready=.ref RL→v.nf=v.np→flat (v.g,aH)=a→outs.length+rs.length≤900→
  Wide (ak w0 fb fc) 84 (tS loc) (λh=>Lies (kt (ak w0 fb fc).params) h (aO (ak w0 fb fc) z v++kJ (ak w0 fb fc) sl z aI t RO k1 k2 k3 RL loc aH rep fr outs bC)) (bF×Nat×Option WF) (λaf=>.ok .next)
   (λx h h'=>Lies (kt (ak w0 fb fc).params) h' ([(true,loc,di (ak w0 fb fc) sl z.S aI t RO k1 k2 k3 x.2.2),(true,RO,ai (aT (outs++x.1)) x.2.1)]++bI (outs++x.1))∧Keeps (aE z v++[RL,loc,RO]) h h'∧dM x.1=rs∧(∀o∈x.1,h.objs.size≤o.1)):=by
 induction hr with
 |stop g=>
  intro v aH rep fr outs bC nd hrd hnp hfl ho;have abK:aH=[]:=by
   exact vp.mp (congrArg Prod.snd hfl)
  subst abK;obtain⟨rd,np,nf,u3,u4,cY,vl⟩:=v;obtain rfl:rd=.ref RL:=hrd;obtain rfl:nf=np:=hnp;generalize dF:(⟨.ref RL,nf,nf,u3,u4,cY,vl⟩:SV)=v at*;have hact:=aaU w0 fb fc z v RL (by rw[←dF];exact decide_eq_false (yX _)) rep
  rw[show{v with ready:=.ref RL}=v by rw[←dF]]at hact
  generalize hw:ak w0 fb fc=w at*;refine d7 rfl rfl λA s R hT hP hR=>?_;have hn:RL∉aE z v:=hP.eL (.head _);have L0:Lies (kt w.params) s.heap ([(false,z.S,bY z.d),(false,z.d,bH w z v)]++([(true,RL,ai [] rep)]++[(true,loc,di w sl z.S aI t RO k1 k2 k3 fr)])):=by
   have z1:Lies (kt w.params) s.heap ([(true,RL,ai [] rep),(true,loc,di w sl z.S aI t RO k1 k2 k3 fr)]++([(true,RO,ai (aT outs) bC)]++bI outs)):=hP.right;refine(m7 hP.left).join z1.left λb hb hc=>hP.eL (a:=b) ?_ ?_
   ·apply bJ hc
    ·exact .head _
    ·exact .tail _ (.head _)
   ·apply bJ hb
    ·exact bL.1
    ·exact bL.2.1
  refine⟨_,L0,aq (dec 84238258139562974360419700934) (.cut 96 _ [(0,false,z.S,bY z.d),(1,false,z.d,bH w z v),(2,false,RL,ai [] rep)] Unit _ (λaf=>[]) (λaf=>[]) λaf af af=>
   aq (dec 0) (.done (.ok .next) [(3,loc,di w sl z.S aI t RO k1 k2 k3 fr)] [])),au (ay hact λaf af af=>au (bu λhp t' K T hu af af af=>?fin)),?run⟩
  case fin=>
   have K:Keeps [RL,loc] s.heap hp:=K;have z1:Lies (kt w.params) s.heap ([(true,RL,ai [] rep),(true,loc,di w sl z.S aI t RO k1 k2 k3 fr)]++([(true,RO,ai (aT outs) bC)]++bI outs)):=hP.right;refine hR ([],bC,fr) hp t' T ⟨?_,K.mono λa ha=>inr ?_,rfl,λaf h=>nomatch h⟩
   ·rw[dZ];exact(Lies.one (m:=true) (hu (loc,di w sl z.S aI t RO k1 k2 k3 fr) (.head _)) (z1.off (true,loc,di w sl z.S aI t RO k1 k2 k3 fr) (.tail _ (.head _)) rfl) T).join (z1.right.keep T K λp hp m=>z1.apart (a:=p.2.1) m (mD hp)) λb hb hc=>z1.apart (a:=b) (by rw[sA hb];exact .tail _ (.head _)) hc
   ·apply bJ ha
    ·exact .head _
    ·exact .tail _ (.head _)
  case run=>
   clear hP L0 hR hT hact hn hfl nd ho;(apply tH hw dF fr;kernel_rfl!)
 |@turn g abL b rs h1 h2 h3 hD _ ih=>
  intro v aH rep fr outs bC nd hrd hnp hfl ho;obtain⟨rfl,rfl⟩:v.g=g∧aH.map (·.1)=abL:=⟨congrArg Prod.fst hfl,congrArg Prod.snd hfl⟩;cases aH with
  |nil=>exact absurd rfl h1
  |cons p0 r0=>
  have hl:(p0::r0).length≤6:=by simpa using h2
  have hm:∀p∈p0::r0,p.1∈names v:=λp hp=>Fd v▸h3 p.1 (c7 hp);rw[bl]at hD;rw[n7]at ho;have ih':∀(v':SV) (m9:List (Int×Nat)) (Aq:Nat) (cQ:Option WF) (tV:bF) (Ar:Nat),(names v').Nodup→v'.ready=.ref RL→v'.nf=v'.np→flat (v'.g,m9)=b→tV.length=outs.length+1→aE z v'=aE z v→_:=λv' m9 Aq cQ tV Ar a1 a2 a3 a4 a5 af=>ih v' m9 Aq cQ tV Ar a1 a2 a3 a4 (VH ho a5);rcases Nat.eq_zero_or_pos (jo aI (p0::r0).length)with c|c
  ·exact abH w0 fb fc sl z aI t RO k1 k2 k3 RL loc v p0 r0 rep fr outs bC b rs nd hrd hnp (Ck ho) hl hm _ rfl c hD ih'
  ·rcases mH (jo aI (p0::r0).length) (p0::r0).length with c'|c'
   ·exact abG w0 fb fc sl z aI t RO k1 k2 k3 RL loc v p0 r0 rep fr outs bC b rs nd hrd hnp (Ck ho) hl hm _ rfl ⟨c,c'⟩ hD ih'
   ·exact abI w0 fb fc sl z aI t RO k1 k2 k3 RL loc v p0 r0 rep fr outs bC b rs nd hrd hnp (Ck ho) hl hm _ rfl (Nat.le_antisymm ((Am aI (p0::r0).length).2) c') hD ih'
noncomputable def cG(T:String)(src:aj)(i n ep:Nat):Obj:=⟨.type T,none,.fields #[src,.int i 0,.int n 0,.int ep 0],#[]⟩
theorem LK(w:ao)(it d i ep:Nat)(es:List bx)(e:bx)(he:es[i]?=some e):
  Spec w 119 (.builtin "dict_valueiterator.__next__" ⟨[.ref it],[]⟩) [(false,d,cu es ep),(true,it,cG "dict_valueiterator" (.ref d) i es.length ep)] Unit
  (λaf=>.ok (.ret e.val)) (λaf=>[(it,cG "dict_valueiterator" (.ref d) (i+1) es.length ep)]) (λaf=>[]):=by
 intro A s R hA hT hP _ _ hR;have hod:s.heap.get? d=some (cu es ep):=hP (d,_) (.head _);have ho:s.heap.get? it=some (cG "dict_valueiterator" (.ref d) i es.length ep):=hP (it,_) (.tail _ (.head _));have hty:s.TypeIs (.ref it) "dict_valueiterator":=⟨_,ho,rfl⟩;refine cN J6 ?_;rw[gO (by decide+kernel) _]
 refine av (aJ ?_);refine av ?_;refine av ?_;first|refine av (y9 hty (aJ ?_))|refine av (zb hty (aJ ?_))
 refine av (sF ho rfl ?_);rw[show vP "dict_valueiterator"=false from by decide]
 show wpAny _ _ (if(bg d==dz)=true then _ else _) _ _ s
 refine c9 (decide_eq_false (show ¬((bg d==dz)=true)from mJ)) ?_;refine av (aJ ?_);refine av (vG hod rfl ?_);refine c9 (decide_eq_false (by rw[(rfl:(⟨es⟩:Array bx).size=es.length)];simp)) ?_
 refine av (aJ ?_);refine av (vH hod rfl ?_);rw[if_neg (by simp)]
 refine aJ ?_;dsimp only;rw[if_neg (show ¬((i:Int)<0)from E8),oh,show(⟨es⟩:Array bx)[i]?=some e by simpa using he]
 dsimp only;refine av ?_;first|refine av (y9 hty (aJ ?_))|refine av (zb hty (aJ ?_))
 refine av (Dr hty ?_);show wpAny _ _ (setField (.ref it) 1 (cW ((i:Int)+1))>>=_) _ _ s;refine av (kG ho rfl (by simp) ?_)
 have LN:Shared.TypeIs {s with heap:=s.heap.update it (eG (·.setIfInBounds 1 (cW ((i:Int)+1))))} (.ref it) "dict_valueiterator":=⟨_,iW _ ho rfl,rfl⟩
 refine av (jX ?_);refine av (Dr LN ?_);refine av (Dr LN ?_);show wpAny _ _ (pure e.val) _ _ _;refine aJ (aJ ?_);exact m6 hR () _ ho rfl rfl
theorem abM(w:ao)(it d i ep:Nat)(es:List bx)(he:es[i]?=none):
  Spec w 110 (.builtin "dict_valueiterator.__next__" ⟨[.ref it],[]⟩) [(false,d,cu es ep),(true,it,cG "dict_valueiterator" (.ref d) i es.length ep)] Nat
  (λx=>.error (.ref (x+1))) (λaf=>[(it,cG "dict_valueiterator" .none i es.length ep)]) (λx=>[(x,aK []),(x+1,gf x)]):=by
 intro A s R hA hT hP _ _ hR;have hod:s.heap.get? d=some (cu es ep):=hP (d,_) (.head _);have ho:s.heap.get? it=some (cG "dict_valueiterator" (.ref d) i es.length ep):=hP (it,_) (.tail _ (.head _));have hty:s.TypeIs (.ref it) "dict_valueiterator":=⟨_,ho,rfl⟩;refine cN J6 ?_;refine av (aJ ?_);refine av ?_;refine av ?_;first|refine av (y9 hty (aJ ?_))|refine av (zb hty (aJ ?_))
 refine av (sF ho rfl ?_);rw[show vP "dict_valueiterator"=false from by decide]
 show wpAny _ _ (if(bg d==dz)=true then _ else _) _ _ s
 refine c9 (decide_eq_false (show ¬((bg d==dz)=true)from mJ)) ?_;refine av (aJ ?_);refine av (vG hod rfl ?_);refine c9 (decide_eq_false (by rw[(rfl:(⟨es⟩:Array bx).size=es.length)];simp)) ?_
 refine av (aJ ?_);refine av (vH hod rfl ?_);rw[if_neg (by simp)]
 refine aJ ?_;dsimp only;rw[if_neg (show ¬((i:Int)<0)from E8),oh,show(⟨es⟩:Array bx)[i]?=none by simpa using he]
 dsimp only;refine av ?_;first|refine av (y9 hty (aJ ?_))|refine av (zb hty (aJ ?_))
 show wpAny _ _ (setField (.ref it) 0 .none>>=_) _ _ s;refine av (kG ho rfl (jT _) ?_);show wpAny _ _ (j3 (.type "StopIteration") []>>=_) _ _ _;refine av ?_;dsimp only[j3,newTuple];refine av (gu ?_ (by size_fits))
 refine av (m:=jW _ _) (kH (a:=dz) (by first|rfl|((delta jW;dsimp only);rfl)) ?_)
 refine gu ?_ (by size_fits)
 (delta sR;dsimp only)
 refine av (sH ?_);rw[show(A.under _).handled=none from hA.hd (bk _)];refine av (aJ (sJ ?_));have hz:(s.heap.update it (eG (·.setIfInBounds 0 .none))).objs.size=s.heap.objs.size:=jA ..;show R (.error (.ref ((s.heap.update it (eG (·.setIfInBounds 0 .none))).push _).objs.size)) _;rw[(λo=>by rw[iH,hz]:∀o,((s.heap.update it (eG (·.setIfInBounds 0 .none))).push o).objs.size=s.heap.objs.size+1)]
 rw[hz];exact(wu (o1:=aK []) (o2:=gf s.heap.objs.size) (f:=eG (·.setIfInBounds 0 .none)) s.heap.objs.size (λx h' t' k1 k2 k3 k4 k5=>hR s.heap.objs.size h' t' k1 k2 k3 k4 k5) s.toks ho rfl rfl rfl rfl)
theorem LO(w:ao)(it d i ep:Nat)(es:List bx)(e:bx)(he:es[i]?=some e):
  Spec w 119 (.builtin "dict_keyiterator.__next__" ⟨[.ref it],[]⟩) [(false,d,cu es ep),(true,it,cG "dict_keyiterator" (.ref d) i es.length ep)] Unit
  (λaf=>.ok (.ret e.key)) (λaf=>[(it,cG "dict_keyiterator" (.ref d) (i+1) es.length ep)]) (λaf=>[]):=by
 intro A s R hA hT hP _ _ hR;have hod:s.heap.get? d=some (cu es ep):=hP (d,_) (.head _);have ho:s.heap.get? it=some (cG "dict_keyiterator" (.ref d) i es.length ep):=hP (it,_) (.tail _ (.head _));have hty:s.TypeIs (.ref it) "dict_keyiterator":=⟨_,ho,rfl⟩;refine cN J8 ?_;rw[gO (by decide+kernel) _]
 refine av (aJ ?_);refine av ?_;refine av ?_;first|refine av (za hty (aJ ?_))|refine av (zc hty (aJ ?_))
 refine av (sF ho rfl ?_);rw[show vP "dict_keyiterator"=false from by decide]
 show wpAny _ _ (if(bg d==dz)=true then _ else _) _ _ s
 refine c9 (decide_eq_false (show ¬((bg d==dz)=true)from mJ)) ?_;refine av (aJ ?_);refine av (vG hod rfl ?_);refine c9 (decide_eq_false (by rw[(rfl:(⟨es⟩:Array bx).size=es.length)];simp)) ?_
 refine av (aJ ?_);refine av (vH hod rfl ?_);rw[if_neg (by simp)]
 refine aJ ?_;dsimp only;rw[if_neg (show ¬((i:Int)<0)from E8),oh,show(⟨es⟩:Array bx)[i]?=some e by simpa using he]
 dsimp only;refine av ?_;first|refine av (za hty (aJ ?_))|refine av (zc hty (aJ ?_))
 refine av (wpAny_isOneOf_keyiter hty ?_);show wpAny _ _ (setField (.ref it) 1 (cW ((i:Int)+1))>>=_) _ _ s;refine av (kG ho rfl (by simp) ?_)
 refine av (jX ?_);refine av (wpAny_isOneOf_keyiter ⟨_,iW _ ho rfl,rfl⟩ ?_);show wpAny _ _ (pure e.key) _ _ _;refine aJ (aJ ?_);exact m6 hR () _ ho rfl rfl
theorem abN(w:ao)(it d i ep:Nat)(es:List bx)(he:es[i]?=none):
  Spec w 110 (.builtin "dict_keyiterator.__next__" ⟨[.ref it],[]⟩) [(false,d,cu es ep),(true,it,cG "dict_keyiterator" (.ref d) i es.length ep)] Nat
  (λx=>.error (.ref (x+1))) (λaf=>[(it,cG "dict_keyiterator" .none i es.length ep)]) (λx=>[(x,aK []),(x+1,gf x)]):=by
 intro A s R hA hT hP _ _ hR;have hod:s.heap.get? d=some (cu es ep):=hP (d,_) (.head _);have ho:s.heap.get? it=some (cG "dict_keyiterator" (.ref d) i es.length ep):=hP (it,_) (.tail _ (.head _));have hty:s.TypeIs (.ref it) "dict_keyiterator":=⟨_,ho,rfl⟩;refine cN J8 ?_;refine av (aJ ?_);refine av ?_;refine av ?_;first|refine av (za hty (aJ ?_))|refine av (zc hty (aJ ?_))
 refine av (sF ho rfl ?_);rw[show vP "dict_keyiterator"=false from by decide]
 show wpAny _ _ (if(bg d==dz)=true then _ else _) _ _ s
 refine c9 (decide_eq_false (show ¬((bg d==dz)=true)from mJ)) ?_;refine av (aJ ?_);refine av (vG hod rfl ?_);refine c9 (decide_eq_false (by rw[(rfl:(⟨es⟩:Array bx).size=es.length)];simp)) ?_
 refine av (aJ ?_);refine av (vH hod rfl ?_);refine c9 (decide_eq_false (by simp)) ?_
 refine aJ ?_;dsimp only;rw[if_neg (show ¬((i:Int)<0)from E8),oh,show(⟨es⟩:Array bx)[i]?=none by simpa using he]
 dsimp only;refine av ?_;first|refine av (za hty (aJ ?_))|refine av (zc hty (aJ ?_))
 show wpAny _ _ (setField (.ref it) 0 .none>>=_) _ _ s;refine av (kG ho rfl (jT _) ?_);show wpAny _ _ (j3 (.type "StopIteration") []>>=_) _ _ _;refine av ?_;dsimp only[j3,newTuple];refine av (gu ?_ (by size_fits))
 refine av (m:=jW _ _) (kH (a:=dz) (by first|rfl|((delta jW;dsimp only);rfl)) ?_)
 refine gu ?_ (by size_fits)
 (delta sR;dsimp only)
 refine av (sH ?_);rw[show(A.under _).handled=none from hA.hd (bk _)];refine av (aJ (sJ ?_));have hz:(s.heap.update it (eG (·.setIfInBounds 0 .none))).objs.size=s.heap.objs.size:=jA ..;show R (.error (.ref ((s.heap.update it (eG (·.setIfInBounds 0 .none))).push _).objs.size)) _;rw[(λo=>by rw[iH,hz]:∀o,((s.heap.update it (eG (·.setIfInBounds 0 .none))).push o).objs.size=s.heap.objs.size+1)]
 rw[hz];exact(wu (o1:=aK []) (o2:=gf s.heap.objs.size) (f:=eG (·.setIfInBounds 0 .none)) s.heap.objs.size (λx h' t' k1 k2 k3 k4 k5=>hR s.heap.objs.size h' t' k1 k2 k3 k4 k5) s.toks ho rfl rfl rfl rfl)
def nj:bR:=sub 3 (st 16)
noncomputable def Fw:Str:=⟨⟨[84,111,112,111,108,111,103,105,99,97,108,83,111,114,116,101,114,46,112,114,101,112,97,114,101,46,60,108,111,99,97,108,115,62,46]⟩⟩
def Av(e:Expr)(qual:Str)(ca aB loc:Nat)(cells:List (Str×Nat)):Env:=⟨oO e,aB,3,cells,qual,none,.ref ca,some loc,0⟩
def Fx(it acc aB loc:Nat):bf:=.compLoop (rhs (sub 1 nj)) 0 (.ref it) (.ref acc) (Av (rhs (sub 1 nj)) Fw 146 aB loc [])
def Aw(it acc aB loc:Nat):bf:=.compStart (rhs (sub 1 nj)) 0 (.ref it) (.ref acc) (Av (rhs (sub 1 nj)) Fw 146 aB loc [])
def bz(w:ao)(s:Str):Option (Nat×aj)→Obj
 |none=>cu [] 0
 |some p=>cu [de w s p.1 p.2] 1
noncomputable def b9(v:SV):List bx:=(v.l.map Node.key).map fj
theorem Ax{v:SV}{i:Nat}{x:Node}{r:List Node}(h:v.l.drop i=x::r):(b9 v)[i]?=some (fj x.key):=by
 have:=congrArg (λl=>l[0]?) h;simp only[nZ,n9,nX]at this;unfold b9;rw[dK,dK,this];rfl
theorem LQ{v:SV}{i:Nat}(h:v.l.drop i=[]):(b9 v)[i]?=none:=by
 unfold b9;simpa using(kE.mp h)
noncomputable def zeros(l:List Node):List (Int×Nat):=(l.filter (λx=>x.q==0)).map λx=>(x.n,x.nt)
theorem LR(x:Node)(l:List Node):zeros (x::l)=(match x.q==0 with|true=>[(x.n,x.nt)]|false=>[])++zeros l:=by
 unfold zeros;rw[mE];cases x.q==0<;>rfl
noncomputable def sI:Str:=⟨⟨[105]⟩⟩
def nk(w:ao)(z:SS)(v:SV)(acc aB it:Nat)(aH:List (Int×Nat))(rep i:Nat)(fr:Option (Nat×aj)):Led:=
 [(true,acc,ai (aH.map iv) rep),(true,aB,bz w sI fr),(true,it,cG "dict_valueiterator" (.ref z.D) i (b9 v).length v.ep)]
theorem abO(w0:ao)(fb fc:Bool)(z:SS)(v:SV)(acc aB loc it:Nat):∀(r:List Node) (i:Nat) (aH:List (Int×Nat)) (rep:Nat) (fr:Option (Nat×aj)),v.l.drop i=r→aH.length+r.length≤1000→
  Wide (ak w0 fb fc) 92 (Fx it acc aB loc) (λh=>Lies (kt (ak w0 fb fc).params) h (aO (ak w0 fb fc) z v++nk (ak w0 fb fc) z v acc aB it aH rep i fr)) (Nat×Option (Nat×aj)) (λaf=>.ok .next)
   (λx h h'=>Lies (kt (ak w0 fb fc).params) h' (aO (ak w0 fb fc) z v++[(true,acc,ai ((aH++zeros r).map iv) x.1),(true,aB,bz (ak w0 fb fc) sI x.2)])∧Keeps [acc,aB,it] h h'∧(fr.isSome=true∨r≠[]→x.2.isSome=true)):=by
 intro r;generalize hw:ak w0 fb fc=w;induction r with
 |nil=>
  intro i aH rep fr hr hl;refine d7 rfl rfl λA s R hT hP hR=>?_;have hn:∀b∈[acc,aB,it],b∉aE z v:=λb hb=>hP.eL hb;have nl:[acc,aB,it].Nodup:=hP.right.nd;have L0:Lies (kt w.params) s.heap ([(false,z.D,cu (b9 v) v.ep)]++nk w z v acc aB it aH rep i fr):=by
   refine Lies.join (hP.left.pick (λp hp=>.inr ?_) (by simp[adr])) hP.right λb hb hc=>hn b hc (sA hb▸bL.2.2)
   rw[sA hp];exact⟨rfl,true,iz.2.2⟩
  refine⟨_,L0,aq (dec 390) (.cut 110 _ [(0,false,z.D,cu (b9 v) v.ep),(3,true,it,cG "dict_valueiterator" (.ref z.D) i (b9 v).length v.ep)] Nat _ (λaf=>[(3,it,cG "dict_valueiterator" .none i (b9 v).length v.ep)]) _
    λx af af=>aq (dec 8) (.done (.ok .next) [(1,acc,ai (aH.map iv) rep),(2,aB,bz w sI fr)] [])),au (ay (abM w it z.D i v.ep (b9 v) (LQ hr)) λx af af=>au (bu λhp t' K T hu af af af=>?_)),?_⟩
  ·have K:Keeps [acc,aB,it] s.heap hp:=K;have O2:=Lies.one (m:=true) (hu (aB,bz w sI fr) (.tail _ (.head _))) (hP.right.off (true,aB,bz w sI fr) (.tail _ (.head _)) rfl) T;refine hR (rep,fr) hp t' T ⟨?_,K,λh=>h.elim id λc=>absurd rfl c⟩;rw[show aH++zeros []=aH from dZ _];refine gg (gy hP.left T K hn) ((Lies.one (m:=true) (hu (acc,ai (aH.map iv) rep) (.head _)) (hP.right.off (true,acc,ai (aH.map iv) rep) (.head _) rfl) T).join O2 λb hb hc=>?_) λb hb=>?_
   ·simp[←(sA hb:b=acc),←(sA hc:b=aB)]at nl
   ·exact hn b (JN [it] hb)
  ·clear hP L0 hR hT nl hn hr hl;(apply cO hw;kernel_rfl!)
 |cons y r ih=>
  intro i aH rep fr hr hl;have hr':v.l.drop (i+1)=r:=by
   rw[←iR,hr];rfl
  have hy:y∈v.l:=by
   have:y∈v.l.drop i:=by rw[hr];exact .head _
   exact CV this
  have hl1:aH.length+1+r.length≤1000:=by
   exact B8 hl
  refine d7 rfl rfl λA s R hT hP hR=>?_;have hn:∀b∈[acc,aB,it],b∉aE z v:=λb hb=>hP.eL hb;have nl:[acc,aB,it].Nodup:=hP.right.nd;have gE:=oW hP.left;refine vm (qH gE hy hy) λa1 a2 a3 a4 b5 b6 b7 a8 a9 iD=>?_;have L0:Lies (kt w.params) s.heap ([(false,z.D,cu (b9 v) v.ep),(false,y.I,y.io)]++nk w z v acc aB it aH rep i fr):=by
   refine Lies.join (hP.left.pick (λp hp=>.inr ?_) ?_) hP.right λb hb hc=>?_
   ·apply bJ hp
    ·exact⟨rfl,true,iz.2.2⟩
    ·exact⟨rfl,true,(mem_objs hy).1⟩
   ·simp only[adr,bP,iS,bA,aM,bO,or_false,not_false_eq_true,gT,and_true];exact a4
   ·refine hn b hc ?_;apply bJ hb
    ·exact bL.2.2
    ·exact(gC hy).1
  cases hq:(y.q==0)with
  |true=>
   refine⟨_,L0,aq (dec 455) (.cut 119 _ [(0,false,z.D,cu (b9 v) v.ep),(4,true,it,cG "dict_valueiterator" (.ref z.D) i (b9 v).length v.ep)] Unit _ (λaf=>[(4,it,cG "dict_valueiterator" (.ref z.D) (i+1) (b9 v).length v.ep)]) (λaf=>[]) λaf af tk0=>
     aq (dec 23481101695123795317715462207726849846968822292870) (.cut 119 _ [] Unit _ (λaf=>[]) (λaf=>[]) λaf af aF=>
     aq (dec 462451952509443244779890636739396756593399042310) (.cut 119 _ [(2,true,acc,ai (aH.map iv) rep)] Unit _ (λaf=>[(2,acc,ai (aH.map iv++[iv (y.n,y.nt)]) (rep+1))]) (λaf=>[]) λaf af af=>aq (dec 0) (.wide 92 _ [(2,true,acc,ai (aH.map iv++[iv (y.n,y.nt)]) (rep+1)),(3,true,aB,bz w sI (some (bE fr tk0,.ref y.I))),(4,true,it,cG "dict_valueiterator" (.ref z.D) (i+1) (b9 v).length v.ep)] (Nat×Option (Nat×aj)) _ (λaf=>[]) λx' h3 af af=>
     .done (.ok .next) [] [])))),
     au (ay (LK w it z.D i v.ep (b9 v) _ (Ax hr)) λaf af tk0=>au (ay (wz w y.q 0 y.qt (tk0+2) true hq) λaf af af=>au (ay (iJ w acc (aH.map iv) rep (iv (y.n,y.nt)) (by rw[bl];exact Tj hl1)) λaf af af=>au (cC (ih (i+1) (aH++[(y.n,y.nt)]) (rep+1) (some (bE fr tk0,.ref y.I)) hr' ?abP) (λh a=>?abQ) (λx h h' a T q=>?abR) λx' h2 h3 af af a2 af q2=>
      bu λhp t' K T af af af af=>?abS)))),?abT⟩
   case abP=>
    first|(simp;assumption)|omega
   case abQ=>
    have J:=gg (gy hP.left a.lies.top a.keeps hn) a.lies hn;rw[(by simp:(aH.map iv++[iv (y.n,y.nt)])=(aH++[(y.n,y.nt)]).map iv)]at J
    exact J
   case abR=>exact Lies.part q.1 (λaf hp=>nomatch hp) (eX _)
   case abS=>
    refine dJ q2 λr1 r2 r3=>?_;have K:Keeps [] h3 hp:=K;refine hR x' hp t' T ⟨?_,(a2.keeps.trans r2).trans K.ext,λaf=>r3 (.inl rfl)⟩;have e:aH++zeros (y::r)=(aH++[(y.n,y.nt)])++zeros r:=by rw[LR,hq];exact(fP _ _ _).symm
    rw[e];exact r1.ext T K
   case abT=>
    clear hP gE L0 hR hT ih nl hn a1 a2 a3 a4 b5 b6 b7 a8 a9 iD hr hr' hy hl hl1 hq;(apply jC hw fr;kernel_rfl!)
  |false=>
   refine⟨_,L0,aq (dec 455) (.cut 119 _ [(0,false,z.D,cu (b9 v) v.ep),(4,true,it,cG "dict_valueiterator" (.ref z.D) i (b9 v).length v.ep)] Unit _ (λaf=>[(4,it,cG "dict_valueiterator" (.ref z.D) (i+1) (b9 v).length v.ep)]) (λaf=>[]) λaf af tk0=>
     aq (dec 23481101695123795317715462207726849846968822292870) (.cut 119 _ [] Unit _ (λaf=>[]) (λaf=>[]) λaf af aF=>
     aq (dec 0) (.wide 92 _ [(2,true,acc,ai (aH.map iv) rep),(3,true,aB,bz w sI (some (bE fr tk0,.ref y.I))),(4,true,it,cG "dict_valueiterator" (.ref z.D) (i+1) (b9 v).length v.ep)] (Nat×Option (Nat×aj)) _ (λaf=>[]) λx' h3 af af=>
     .done (.ok .next) [] []))),
     au (ay (LK w it z.D i v.ep (b9 v) _ (Ax hr)) λaf af tk0=>au (ay (wz w y.q 0 y.qt (tk0+2) false hq) λaf af af=>au (cC (ih (i+1) aH rep (some (bE fr tk0,.ref y.I)) hr' ?abU) (λh a=>?abV) (λx h h' a T q=>?abW) λx' h2 h3 af af a2 af q2=>
      bu λhp t' K T af af af af=>?abX))),?abY⟩
   case abU=>
    first|(simp;omega)|exact Ti hl1
   case abV=>
    have J:=gg (gy hP.left a.lies.top a.keeps hn) a.lies hn;rw[(by rfl:(aH.map iv)=aH.map iv)]at J
    exact J
   case abW=>exact Lies.part q.1 (λaf hp=>nomatch hp) (eX _)
   case abX=>
    refine dJ q2 λr1 r2 r3=>?_;have K:Keeps [] h3 hp:=K;refine hR x' hp t' T ⟨?_,(a2.keeps.trans r2).trans K.ext,λaf=>r3 (.inl rfl)⟩;have e:aH++zeros (y::r)=aH++zeros r:=by rw[LR,hq];rfl
    rw[e];exact r1.ext T K
   case abY=>
    clear hP gE L0 hR hT ih nl hn a1 a2 a3 a4 b5 b6 b7 a8 a9 iD hr hr' hy hl hl1 hq;(apply jC hw fr;kernel_rfl!)
theorem Fy{w:ao}{id:String}{B:eY}{args:Args}{S:PySem.Spec}(pl:qf id=true)(en:oj table id=some B)(g:MeetsIn pw w (B args) S){A:aV}{R:aW→aA→Prop}{s:aA}(h:S A R s):gU (model pw w) A (.builtin id args) R s:=by
 refine cN en ?_;rw[gO pl _];exact g A R s h
noncomputable def fT(w:ao)(o:Obj)(ks:List Int):Prop:=
 ∃(kvs:List (Int×aj)) (es:Array bx) (ep:Nat),o.ExactDict∧o.data=.dict es ep∧KeysOf (jZ pw w) es∧Pairs (jZ pw w) es.toList kvs∧(kvs.map (·.1)).Nodup∧kvs.map (·.1)=ks
theorem fT.dictOf{w:ao}{o:Obj}{ks:List Int}(m:fT w o ks){h:az}{d:Nat}(e:h.get? d=some o):∃kvs,h.DictOf (jZ pw w) d kvs∧kvs.map (·.1)=ks:=by
 refine Jt m λkvs es ep a b c d' f g=>?_;exact⟨kvs,⟨o,es,ep,e,a,b,c,d',f⟩,g⟩
theorem LU{w:ao}{h:az}{d:Nat}{kvs:List (Int×aj)}(m:h.DictOf (jZ pw w) d kvs):∃o,h.get? d=some o∧fT w o (kvs.map (·.1)):=by
 refine Jt m λo es ep e a b c d' f=>?_;exact⟨o,e,kvs,es,ep,a,b,c,d',f,rfl⟩
theorem nq(w:ao)(n:Int)(t:Nat):(jZ pw w).is n (.int n t)=true:=by
 show ow n (.int n t)=true;simp[ow]
noncomputable def cg(p:Array (Int×aj)×Nat×om):Obj:=⟨.type "set",none,.set p.1 p.2.1 p.2.2,#[]⟩
noncomputable def bM(p:List bx×Nat):Obj:=cu p.1 p.2
theorem fT.LV{w:ao}{o:Obj}{ks:List Int}(m:fT w o ks):∃p,o=bM p:=by
 obtain⟨kvs,es,ep,⟨a1,a2,a3⟩,b,af⟩:=m;refine⟨(es.toList,ep),?_⟩;obtain⟨c,d,dt,sl⟩:=o;subst a1 a2 a3 b;rfl
theorem abZ{o:Obj}{S:Int→Bool}{n:Nat}(m:o.IntSetOf S n)(w:ao):∃p,o=cg p:=by
 obtain⟨⟨a1,a2,a3⟩,es,ep,t,b,af⟩:=m.kind pw w;refine⟨(es,ep,t),?_⟩;obtain⟨c,d,dt,sl⟩:=o;subst a1 a2 a3 b;rfl
theorem ab0(w:ao):fT w (cu [] 0) []:=⟨[],#[],0,⟨rfl,rfl,rfl⟩,rfl,λe he=>by simp at he,.nil,.nil,rfl⟩
theorem Fz{s:aA}{X:Type}{res:X→aW}{upd:X→List (Nat×Obj)}{R:aW→aA→Prop}{a:Nat}{h':az}(x:X)(hR:Fin' s X res upd (λaf=>[]) R){o':Obj}(hu:upd x=[(a,o')])(t:Nat)(hs:Heap.SameBut a s.heap h')(e:h'.get? a=some o'):R (res x) ⟨h',s.gens,s.drawn,t,s.os⟩:=by
 refine hR x h' t ?_ ?_ (λaf h=>nomatch h) (λaf h=>nomatch h) .nil
 ·rw[hu];exact⟨qb hs.1.symm,λb o hb e=>(hs.2 b (λq=>hb (by simp[q]))).trans e⟩
 ·rw[hu];intro p hp;rw[sA hp];exact e
theorem LW(w:ao)(d:Nat)(o:Obj)(ks:List Int)(m:fT w o ks)(hd:(d==zl)=false)(n:Int)(t:Nat)(r:Bool)(hr:decide (n∈ks)=r):Spec w 119 (.builtin "dict.__contains__" ⟨[.ref d,.int n t],[]⟩) [(false,d,o)] Unit (λaf=>.ok (.ret (.bool r))) (λaf=>[]) (λaf=>[]):=by
 intro A s R hA hT hP _ _ hR;refine aS (m.dictOf (cL hP)) λkvs hm hk=>?_;refine Fy (by decide+kernel) F.entry_dict_contains (meets_dict_contains (jZ pw w) d (nq w n t) hd) ⟨_,hm.mapOf,?_⟩
 have e:(valueAt kvs n).isSome=r:=by
  rw[←hr,←hk];delta valueAt;cases q:kvs.find? (λkv=>kv.1=n)with
  |none=>
   symm
   simp only[Option.map_none,Option.isSome_none,decide_eq_false_iff_not];intro hm;refine aS (aN.mp hm) λy hy e=>?_;exact(yI.mp q) y hy (by simpa using e)
  |some y=>
   symm
   simp only[vC,Option.isSome_some,decide_eq_true_eq];exact aN.mpr ⟨y,(Jz q),by simpa using(List.find?_some q)⟩
 rw[e];exact fG hR () (s.toks+1)
theorem LX(w:ao)(d:Nat)(o:Obj)(ks:List Int)(m:fT w o ks)(n:Int)(t:Nat)(v:aj)(hn:n∉ks)(hl:ks.length≤1000):Spec w 119 (.builtin "dict.__setitem__" ⟨[.ref d,.int n t,v],[]⟩) [(true,d,o)] {p:List bx×Nat//fT w (bM p) (ks++[n])} (λaf=>.ok (.ret .none)) (λx=>[(d,bM x.1)]) (λaf=>[]):=by
 intro A s R hA hT hP _ _ hR;refine aS (m.dictOf (cL hP)) λkvs hm hk=>?_;refine Fy (by decide+kernel) F.entry_dict_setitem (meets_dict_setitem_pairs (jZ pw w) d (nq w n t) v) ⟨kvs,hm,?_,λh' hm' hs=>?_⟩
 ·rw[fQ,←bl (f:=(·.1)) (as:=kvs),hk];exact pS hl
 ·refine aS (LU hm') λo' e' m'=>?_;have ek:(stored kvs n v).map (·.1)=ks++[n]:=by
   delta stored;rw[if_neg,aL,hk]
   ·rfl
   ·intro q;refine aS (yL.mp q) λy hy e=>?_;exact hn (hk▸aN.mpr ⟨y,hy,by simpa using e⟩)
  rw[ek]at m';refine fC m'.LV λp aG=>?_;subst aG;exact Fz (upd:=λx:{p:List bx×Nat//fT w (bM p) (ks++[n])}=>[(d,bM x.1)]) ⟨p,m'⟩ hR rfl _ hs e'
theorem ab1(w:ao)(d:Nat)(o:Obj)(ks:List Int)(n:Int)(m:fT w o (ks++[n]))(t:Nat)(hn:n∉ks)(hl:ks.length≤1000):Spec w 119 (.builtin "dict.__delitem__" ⟨[.ref d,.int n t],[]⟩) [(true,d,o)] {p:List bx×Nat//fT w (bM p) ks} (λaf=>.ok (.ret .none)) (λx=>[(d,bM x.1)]) (λaf=>[]):=by
 intro A s R hA hT hP _ _ hR;refine aS (m.dictOf (cL hP)) λkvs hm hk=>?_;refine Fy (by decide+kernel) F.entry_dict_delitem (meets_dict_delitem_pairs (jZ pw w) d (nq w n t)) ⟨kvs,hm,?_,?_,λh' hm' hs=>?_⟩
 ·rw[fQ,←bl (f:=(·.1)) (as:=kvs),hk];simp;exact RY hl
 ·delta valueAt;rw[JQ];rw[List.find?_isSome];have:n∈kvs.map (·.1):=by rw[hk];exact inr aY
  refine aS (aN.mp this) λy hy e=>?_;exact⟨y,hy,by simpa using e⟩
 ·refine aS (LU hm') λo' e' m'=>?_;have ek:(without kvs n).map (·.1)=ks:=by
   have z:(without kvs n).map (·.1)=(kvs.map (·.1)).filter (λk=>decide (k≠n)):=by
    delta without;rw[yO];rfl
   rw[z,hk,n6,C0.mpr,mE]
   ·simp
   ·intro a ha;exact decide_eq_true λe=>hn (e▸ha)
  rw[ek]at m';refine fC m'.LV λp aG=>?_;subst aG;exact Fz (upd:=λx:{p:List bx×Nat//fT w (bM p) ks}=>[(d,bM x.1)]) ⟨p,m'⟩ hR rfl _ hs e'
theorem tW(w:ao)(a:Nat)(o:Obj)(S:Int→Bool)(k:Nat)(m:o.IntSetOf S k)(hk:k<1000)(n:Int)(t:Nat)(r:Bool)(hr:S n=r):Spec w 119 (.builtin "set.__contains__" ⟨[.ref a,.int n t],[]⟩) [(false,a,o)] Unit (λaf=>.ok (.ret (.bool r))) (λaf=>[]) (λaf=>[]):=by
 intro A s R hA hT hP _ _ hR;refine jE (by decide+kernel) entry_set_contains ?_
 unfold eY.«frozenset.__contains__» Builtin.Frozenset.oneOther;simp only[List.isEmpty_nil,bind_assoc];delta Builtin.Frozenset.addrOf Builtin.Frozenset.withSetAsKey setContains;refine av (aJ ?_);try dsimp only
 refine av (aJ ?_);try dsimp only
 refine av (Dv ?_);refine jX ?_;refine av ((jZ pw w).pyHash (nq w n t) ?_);refine av (wpAny_setFind_of (s:={s with toks:=s.toks+1}) (nq w n t) rfl ((m.kind pw w).setOf (cL hP) (show k<sP by delta sP;exact Ic hk)) λr' hr'=>?_)
 refine aJ ?_;show wpAny _ _ (ret (Value.bool r'.isSome)) _ _ _;rw[hr',hr];exact aJ ⟨_,rfl,fG hR () _⟩
theorem LY(w:ao)(a:Nat)(o:Obj)(S:Int→Bool)(k:Nat)(m:o.IntSetOf S k)(hk:k<1000)(n:Int)(t:Nat)(hn:S n=false):Spec w 119 (.builtin "set.add" ⟨[.ref a,.int n t],[]⟩) [(true,a,o)] {p:Array (Int×aj)×Nat×om//(cg p).IntSetOf (λj=>S j||decide (j=n)) (k+1)} (λaf=>.ok (.ret .none)) (λx=>[(a,cg x.1)]) (λaf=>[]):=by
 intro A s R hA hT hP _ _ hR;refine jE (by decide+kernel) F.entry_set_add ?_
 unfold eY.«set.add» Builtin.Frozenset.oneOther;simp only[List.isEmpty_nil,bind_assoc];delta Builtin.Frozenset.addrOf setAdd;refine av (aJ ?_);try dsimp only
 refine av (aJ ?_);try dsimp only
 refine av ?_;refine jX ?_;refine av ((jZ pw w).pyHash (nq w n t) ?_);refine wpAny_setAddHashed_of (s:={s with toks:=s.toks+1}) (nq w n t) rfl ((m.kind pw w).setOf (cL hP) (show k<sP by delta sP;exact Ic hk)) (show k+1<sP by delta sP;exact RD hk) λh' hsb hS'=>?_
 show wpAny _ _ (ret dz) _ _ _;rw[hn]at hS';refine aS hS'.objOf λo' e' m'=>?_;have m':=m'.intSetOf;refine fC (abZ m' w) λp aG=>?_;subst aG;exact aJ ⟨_,rfl,Fz (upd:=λx:{p:Array (Int×aj)×Nat×om//(cg p).IntSetOf (λj=>S j||decide (j=n)) (k+1)}=>[(a,cg x.1)]) ⟨p,m'⟩ hR rfl _ hsb e'⟩
theorem L6(w:ao)(l:Nat)(vs:List aj)(y:aj)(ep:Nat)(hl:vs.length≤1000):Spec w 119 (.builtin "list.pop" ⟨[.ref l],[]⟩) [(true,l,ai (vs++[y]) ep)] Unit (λaf=>.ok (.ret y)) (λaf=>[(l,ai vs (ep+1))]) (λaf=>[]):=by
 intro A s R hA hT hP _ _ hR;have hd:s.heap.get? l=some (ai (vs++[y]) ep):=cL hP;have hz:(⟨vs++[y]⟩:Array aj).size=vs.length+1:=by exact fZ
 refine ng (by decide+kernel) F.entry_list_pop (MeetsSeq.list_pop_last l ⟨vs++[y]⟩ ep y (by rw[hz];simp) (by rw[fQ,hz];exact RW hl)) ⟨hd,?_⟩
 refine m6 hR () _ hd ?_ rfl;have e:(⟨vs++[y]⟩:Array aj).eraseIdxIfInBounds ((⟨vs++[y]⟩:Array aj).size-1)=⟨vs⟩:=by
  rw[hz];apply Array.ext';simp;rw[List.eraseIdx_append_of_length_le (bk _)];simp
 show cz _ (ai (vs++[y]) ep)=_;have e2:cz (λxs=>xs.eraseIdxIfInBounds ((⟨vs++[y]⟩:Array aj).size-1)) (ai (vs++[y]) ep)=⟨.type "list",none,.seq ((⟨vs++[y]⟩:Array aj).eraseIdxIfInBounds ((⟨vs++[y]⟩:Array aj).size-1)) (if((⟨vs++[y]⟩:Array aj).eraseIdxIfInBounds ((⟨vs++[y]⟩:Array aj).size-1)).size==(⟨vs++[y]⟩:Array aj).size then ep else ep+1),#[]⟩:=rfl
 rw[e2,e,hz,if_neg (by simp)]
 rfl
theorem nu(w:ao)(l:Nat)(vs:List aj)(ep n:Nat)(hn:vs.length=n)(hl:n≤1000):Spec w 118 (.builtin "len" ⟨[.ref l],[]⟩) [(false,l,ai vs ep)] Nat (λx=>.ok (.ret (.int (yZ n) x))) (λaf=>[]) (λaf=>[]):=by
 intro A s R hA hT hP _ _ hR;have ho:s.heap.get? l=some (ai vs ep):=cL hP;have hl':s.heap.IsList l ⟨vs⟩:=⟨_,ho,rfl,ep,rfl⟩;refine jE plain_len entry_len ?_;unfold eY.«len»;refine av (m:=oneArg "len" _) (aJ ?_);refine av (m:=callSpecial? (.ref l) (gB "__len__")) (Dq (name:=gB "__len__") hl'.typeIs slot_list_len
  (wpAny_call_entry slot_list_len hl'.typeIs entry_list_len ?_ (args_list_len _)))
 show wpAny _ _ (do retInt (←seqSize l)) _ _ s
 unfold seqSize;refine av (av (wpAny_load ho ?_));show wpAny _ _ (pure vs.length) _ _ s;refine aJ (av (qd (aJ ⟨_,rfl,?_⟩)));refine av (jX (aJ ?_));refine av (vL ?_);show wpAny _ _ (if((vs.length:Nat):Int)<0 then _ else _) _ _ _
 refine c9 (decide_eq_false E8) ?_;show wpAny _ _ (if((vs.length:Nat):Int)≥2^63 then _ else _) _ _ _
 refine c9 (decide_eq_false (UK hn hl)) ?_;subst hn;exact av (qd (aJ ⟨_,rfl,fG hR (s.toks+1) (s.toks+1+1)⟩))
theorem FA(w:ao)(l:Nat)(vs:List aj)(y:aj)(ep u:Nat)(hl:vs.length≤1000):Spec w 119 (.builtin "list.__getitem__" ⟨[.ref l,.int (-1) u],[]⟩) [(false,l,ai (vs++[y]) ep)] Unit (λaf=>.ok (.ret y)) (λaf=>[]) (λaf=>[]):=by
 intro A s R hA hT hP _ _ hR;have ho:s.heap.get? l=some (ai (vs++[y]) ep):=cL hP;refine jE (by decide+kernel) Ds ?_
 obtain⟨hp,g,d,tk,os⟩:=s;have f1:=AutoSeq1.idx_int;have hk:seqIndex? (-1) (⟨vs++[y]⟩:Array aj).size=some vs.length:=by
  rw[(by exact fZ:(⟨vs++[y]⟩:Array aj).size=vs.length+1),seqIndex_neg (by decide) QH]
  congr 1
  exact Rt
 have ho:hp.get? l=some {cls:=.type "list",dict:=none,data:=.seq ⟨vs++[y]⟩ ep,slots:=#[]}:=ho;wp_walk using zB ho
 simp only[hk,(by simp:(⟨vs++[y]⟩:Array aj)[vs.length]?=some y),Option.bind_some,vC]
 wp_walk using zB ho
 exact⟨_,rfl,fG hR () tk⟩
def tX:bR:=sub 8 (st 16)
noncomputable def ab3:Str:=⟨⟨[84,111,112,111,108,111,103,105,99,97,108,83,111,114,116,101,114,46,95,102,105,110,100,95,99,121,99,108,101,46,60,108,111,99,97,108,115,62,46]⟩⟩
def cD(loc:Nat):Env:=envOf tX ab3 182 181 loc
def FG:bR:=sub 5 tX
def FH:bR:=sub 1 FG
def nv:bR:=sub 1 FH
def Ay(it loc:Nat):bf:=.forLoop (dg FG) (.ref it) (fBody FG) [] (cD loc)
def jH(loc:Nat):bf:=.whileLoop (dg FH) (fBody FH) [] (cD loc)
def iZ(loc:Nat):bf:=.whileLoop (dg nv) (fBody nv) (DZ nv) (cD loc)
noncomputable def lT(t:Nat):Obj:=⟨.type "method-wrapper",none,.fields #[.builtin "list_iterator.__next__",.ref t],#[]⟩
def ny:bR:=sub 0 nv
noncomputable def hType:List ExceptHandler→Expr
 |.ExceptHandler (some t) _ _ _::_=>t
 |_=>.Name ⟨#[]⟩ default
noncomputable def Ma:List ExceptHandler→List bR
 |.ExceptHandler _ _ b _::_=>b
 |_=>[]
noncomputable def FI:List ExceptHandler→Pos
 |.ExceptHandler _ _ _ p::_=>p
 |_=>default
noncomputable def Az(x tb:Nat):Obj:=⟨.type "StopIteration",none,.fields #[.ref x,.ref tb,.none,.none,.bool false,.none],#[]⟩
noncomputable def lU(a b:aj)(r:List aj):Obj:=⟨.type "traceback",none,.fields ⟨.none::a::.none::b::.none::r⟩,#[]⟩
def Mb(e loc:Nat):bf:=.handlers (.ref e) [.ExceptHandler (some (hType (qn ny))) none [] (FI (qn ny))] (cD loc)
def Mf(e loc:Nat):bf:=.handlers (.ref e) [.ExceptHandler none none (Ma (qn ny)) (FI (qn ny))] (cD loc)
noncomputable def ahM:Str:=⟨⟨[110,111,100,101]⟩⟩
def AA(w:ao)(sl:Array (Option aj))(z:SS)(sa ia se ns k1 k2 k3 k4 k5 k6:Nat)(nd:Option (Nat×aj)):Obj:=
 wK sl ([de w f9 k1 (.ref z.S),de w tC k2 (.ref z.D),de w ⟨⟨[115,116,97,99,107]⟩⟩ k3 (.ref sa),de w ⟨⟨[105,116,115,116,97,99,107]⟩⟩ k4 (.ref ia),de w ⟨⟨[115,101,101,110]⟩⟩ k5 (.ref se),de w ⟨⟨[110,111,100,101,50,115,116,97,99,107,105]⟩⟩ k6 (.ref ns)]++match nd with
  |none=>[]
  |some p=>[de w gW p.1 p.2])
theorem ab4(w:ao)(sl:Array (Option aj))(z:SS)(loc sa ia se ns k1 k2 k3 k4 k5 k6 k7 e x tb:Nat)(n:Int)(t:Nat):
  Spec w 111 (Mb e loc) [(false,loc,AA w sl z sa ia se ns k1 k2 k3 k4 k5 k6 (some (k7,.int n t))),(false,e,Az x tb)] Unit (λaf=>.ok .brk) (λaf=>[]) (λaf=>[]):=by
 refine cX rfl rfl λA s R hR=>?_;refine⟨aq (dec 16449) (.done (.ok .brk) [] []),au (cE hR () rfl rfl rfl rfl),?_⟩;clear hR;kernel_rfl!
theorem ab5(w:ao)(sl:Array (Option aj))(z:SS)(loc sa ia se ns k1 k2 k3 k4 k5 k6 k7 e1 e2 e x tb m:Nat)(mp:List bx×Nat)(n y:Int)(t u:Nat)(vs ws r:List aj)(b:aj)(ks:List Int)(hm:fT w (bM mp) (ks++[y]))(hy:y∉ks)(hk:ks.length≤1000)(hv:vs.length≤1000)(hw:ws.length≤1000):
  Spec w 111 (Mf e loc) [(false,loc,AA w sl z sa ia se ns k1 k2 k3 k4 k5 k6 (some (k7,.int n t))),(false,e,Az x tb),(true,sa,ai (vs++[iV y u]) e1),(true,ia,ai (ws++[bg m]) e2),(true,ns,bM mp),(true,tb,lU (.ref loc) b r)] {p:List bx×Nat//fT w (bM p) ks} (λaf=>.ok .next)
   (λp=>[(sa,ai vs (e1+1)),(ia,ai ws (e2+1)),(ns,bM p.1),(tb,lU (.ref loc) .none r)]) (λaf=>[]):=by
 refine cX rfl rfl λA s R hR=>?_;refine⟨aq (dec 91501706680762884) (.cut 119 _ [(2,true,sa,ai (vs++[iV y u]) e1)] Unit _ (λaf=>[(2,sa,ai vs (e1+1))]) (λaf=>[]) λaf af af=>
  aq (dec 29127) (.cut 119 _ [(4,true,ns,bM mp)] {p:List bx×Nat//fT w (bM p) ks} _ (λp=>[(4,ns,bM p.1)]) (λaf=>[]) λp af af=>
  aq (dec 6544712067) (.cut 119 _ [(3,true,ia,ai (ws++[bg m]) e2)] Unit _ (λaf=>[(3,ia,ai ws (e2+1))]) (λaf=>[]) λaf af af=>
  aq (dec 0) (.done (.ok .next) [(2,sa,ai vs (e1+1)),(3,ia,ai ws (e2+1)),(4,ns,bM p.1),(5,tb,lU (.ref loc) .none r)] [])))),
  au (ay (L6 w sa vs (.int y u) e1 hv) λaf af af=>au (ay (ab1 w ns (bM mp) ks y hm u hy hk) λp af af=>au (ay (L6 w ia ws (.ref m) e2 hw) λaf af af=>
   au (cE hR p rfl rfl rfl rfl)))),?_⟩
 clear hR hm;kernel_rfl!
noncomputable def bw(U F:List Nat)(h h':az):Prop:=h.objs.size≤h'.objs.size∧∀b o,b∉U→h.get? b=some o→(b∉F→h'.get? b=some o)∧∃sl,h'.get? b=some {o with slots:=sl}
theorem Keeps.toF{U:List Nat}{h h':az}(F:List Nat)(k:Keeps U h h'):bw U F h h':=⟨k.1,λb o hb e=>⟨λaf=>k.2 b o hb e,o.slots,k.2 b o hb e⟩⟩
theorem bw.trans{U F:List Nat}{h h' h'':az}(x:bw U F h h')(y:bw U F h' h''):bw U F h h'':=⟨bh x.1 y.1,λb o hb e=>by
 refine jQ (x.2 b o hb e) λa1 sl a2=>?_;refine jQ (y.2 b _ hb a2) λb1 wW b2=>?_;exact⟨λhF=>(y.2 b o hb (a1 hF)).1 hF,wW,b2⟩⟩
theorem bw.mono{U U' F F':List Nat}{h h':az}(x:bw U F h h')(hU:∀a∈U,a∈U')(hF:∀a∈F,a∈F'):bw U' F' h h':=⟨x.1,λb o hb e=>by
 obtain⟨a1,a2⟩:=x.2 b o (λm=>hb (hU b m)) e;exact⟨λtY=>a1 λm=>tY (hF b m),a2⟩⟩
theorem bw.trans'{U U' F:List Nat}{h h' h'':az}(x:bw U F h h')(y:bw U' F h' h'')(s:∀a∈U',a∈U∨h.objs.size≤a):bw U F h h'':=⟨bh x.1 y.1,λb o hb e=>by
 refine jQ (x.2 b o hb e) λa1 sl a2=>?_;have hb':b∉U':=λm=>by
  rcases s b m with q|q
  ·exact hb q
  ·exact E0 (cK e) q
 refine jQ (y.2 b _ hb' a2) λb1 wW b2=>?_;exact⟨λhF=>(y.2 b o hb' (a1 hF)).1 hF,wW,b2⟩⟩
noncomputable def j8:az:=⟨#[],default⟩
theorem tZ(a:Nat):j8.get? a=none:=by
 rfl
theorem bw.frames{U F:List Nat}{h h':az}(k:bw U F h h'){l:List Env}(hl:h.FunFrames j8 l)(hU:∀b∈l.filterMap (·.frame),b∉U):h'.FunFrames j8 l:=by
 induction l with
 |nil=>trivial
 |cons env rest ih=>
  refine CJ hl λhk L o hf hn ho hd hr=>?_;rw[List.filterMap_cons,hf]at hU;refine jQ (k.2 L o (hU L (.head _)) ho) λaf sl e=>?_;exact⟨hk,⟨L,_,hf,hn,e,hd⟩,ih hr λb hb=>hU b (.tail _ hb)⟩
theorem Lies.wX{kt:bZ}{h h':az}{l:Led}{U F:List Nat}(H:Lies kt h l)(T:aR kt h')(K:bw U F h h')(hU:∀p∈l,p.2.1∉U∧p.2.1∉F):Lies kt h' l:=
 ⟨λq hq=>by
  refine aS (aN.mp hq) λp hp aG=>?_;subst aG;exact(K.2 _ _ (hU p hp).1 (H.get hp)).1 (hU p hp).2,H.nd,H.off,T⟩
section
variable{prog:f6}{w:ao}{A:aV}{E:aj→aA→Prop}{s:aA}
theorem ab6{L:Nat}{pl:List aj}:({cls:=.type "traceback",dict:=none,data:=.fields ([dz,.ref L,.none,cW L,.none]++(if pl.isEmpty then C6 6 dz else pl)).toArray}:Obj)=lU (.ref L) (cW L) (if pl.isEmpty then C6 6 dz else pl):=by
 delta lU;congr 1
theorem Mg{h₁:az}{e b:Nat}{o ob:Obj}(f g:Obj→Obj)(AB:b≠e)(hb':h₁.get? b=some ob):(((h₁.push o).update e f).update h₁.objs.size g).get? b=some ob:=by
 rw[qg _ _ (qa (vO hb')),qg _ _ (iU AB)];exact gV _ hb'
theorem ab7{env:Env}{outer:List Env}{L e x:Nat}{Q:Unit→aA→Prop}(hfr:A.frames=some (env::outer))(hf:env.frame=some L)(hl:s.heap.FunFrames j8 (env::outer))(he:s.heap.get? e=some (gf x))
  (h:∀h' tb r,bw [e] ((env::outer).filterMap (·.frame)) s.heap h'→h'.get? e=some (Az x tb)→h'.get? tb=some (lU (.ref L) .none r)→s.heap.objs.size≤tb→Q () {s with heap:=h'}):
  wpAny (model prog w) A (sQ (.ref e) env) (λaf s₂=>wpAny (model prog w) A (setFlight (.ref e) none) Q E s₂) E s:=by
 have ab8:e∉(env::outer).filterMap (·.frame):=λhm=>by
  refine Jv (hl.mem hm) λaf o ho hnf=>?_;rw[he]at ho;injection ho with ho;subst ho;exact hnf _ rfl
 delta sQ;rw[hf];refine av (gM he rfl (x:=.none) rfl ?_);refine c9 (decide_eq_false (by decide)) ?_
 refine av (wpAny_frameOf_fun hfr hl hf λh₁ hs₁=>?_);refine av (wpAny_entryPlaceOf λpl hpl=>?_);delta EntryCells.newEntry newFields;refine av (gu ?_ (hpl.sizeOk5 _ _ _ _ _));have Mh:h₁.get? e=some (gf x):=(hs₁.2.1 e ab8).trans he;rw[ab6];generalize (if pl.isEmpty then C6 6 dz else pl)=r
 have Mi:=gV (h:=h₁) (lU (.ref L) (cW L) r) Mh;refine kG Mi rfl (by simp) ?_
 have Mj:h₁.objs.size≠e:=qa (vO Mh);have Mk:((h₁.push (lU (.ref L) (cW L) r)).update e (eG (·.setIfInBounds 1 (bg h₁.objs.size)))).get? e=some (Az x h₁.objs.size):=iW (eG (·.setIfInBounds 1 (bg h₁.objs.size))) Mi rfl;have Ml:=(qg (h₁.push (lU (.ref L) (cW L) r)) (eG (·.setIfInBounds 1 (bg h₁.objs.size))) (iU Mj)).trans (jg h₁ rfl);delta setFlight;refine av (gM Mk rfl (x:=.ref h₁.objs.size) rfl ?_);refine mQ (decide_eq_true (show(bg h₁.objs.size !=dz)=true from by rfl)) ?_
 refine kG Ml rfl (by simp[lU]) (h _ h₁.objs.size r ?_ ?_ ?_ (qb hs₁.1.symm))
 ·refine⟨by rw[jA,jA,iH,hs₁.1];exact E2,λb o hb Mm=>?_⟩
  have AB:b≠e:=λq=>hb (by simp[q])
  obtain⟨sl,hsl⟩:=hs₁.2.2 b o Mm;exact⟨λhF=>Mg _ _ AB ((hs₁.2.1 b hF).trans Mm),sl,Mg _ _ AB hsl⟩
 ·rw[qg _ _ Mj];exact Mk
 ·exact iW _ Ml rfl
theorem ab9{V:VV}{h:az}{b:Nat}{t:Sem Bool}{Q:Bool→aA→Prop}{l:List (Bool×Nat×Obj)}{tk:Nat}(cert:Cert)(G:Good V cert ⟨h,l.length,muts l⟩)(S:Lies V.kt h l)(hA:bK b A)(hQ:∀f s,V.R₀ (.ok (.ret (.bool f))) s→Q f s)(hE:∀e s,V.R₀ (.error e) s→E e s)
  (e:fR V 1000000000 .base A A (b+1) (t.bind λf=>.pure (.done (.ret (.bool f)))) (dB l) h.objs.size tk l.length cert=fS cert (l.map (·.2.1)) h.objs.size) (hb:fD b 120=true):
  wpAny (model V.prog V.w) A t Q E ⟨h,V.gens,V.d,tk,V.os⟩:=by
 have z':wpAny (model V.prog V.w) A t (λf s=>V.R₀ (.ok (.ret (.bool f))) s) (λe s=>V.R₀ (.error e) s) ⟨h,V.gens,V.d,tk,V.os⟩:=λΓ p hΓ=>by
  have b:Sem.wp (model V.prog V.w) Γ (t>>=λf=>(.pure (.done (.ret (.bool f))):Sem Fin)) _ _ _ _:=((sim_sound V 1000000000 .base _ _ _ _ _ _ _ ⟨h,l.length,muts l⟩ _ _ (e.mpr (tB cert _ _)) G S.rep ⟨hA.le (jU b),λc h=>hA.under h,ig (iE hb),hA⟩ trivial) Γ p hΓ);rw[Sem.wp_bind']at b;exact b
 exact jY z' hQ hE
end
theorem acd:fBody nv=[.Try (fBody ny) [.ExceptHandler (some (hType (qn ny))) none (Ma (qn ny)) (FI (qn ny))] [] [] (Stmt.pos ny)]:=by
 kernel_rfl!
structure FQ where
 loc:Nat
 sa:Nat
 ia:Nat
 se:Nat
 ns:Nat
 k1:Nat
 k2:Nat
 k3:Nat
 k4:Nat
 k5:Nat
 k6:Nat
structure SF where
 n:Int
 t:Nat
 m:Nat
 tt:Nat
 x:Node
 j:Nat
structure FD where
 sl:Array (Option aj)
 e1:Nat
 e2:Nat
 sp:Array (Int×aj)×Nat×om
 mp:List bx×Nat
 k7:Nat
 p:Int×Nat
def fF(w:ao)(z:SS)(q:FQ)(d:FD):Obj:=AA w d.sl z q.sa q.ia q.se q.ns q.k1 q.k2 q.k3 q.k4 q.k5 q.k6 (some (d.k7,iv d.p))
noncomputable def sV(f:SF):aj:=.int f.n f.t
noncomputable def sM(f:SF):aj:=.ref f.m
def ua(f:SF):Led:=[(true,f.m,lT f.tt),(true,f.tt,aC "list_iterator" (.ref f.x.SL) f.j)]
def FJ(w:ao)(z:SS)(q:FQ)(d:FD)(stk:List SF):Led:=
 [(true,q.loc,fF w z q d),(true,q.sa,ai (stk.map sV) d.e1),(true,q.ia,ai (stk.map sM) d.e2),(true,q.se,cg d.sp),(true,q.ns,bM d.mp)]
def jI(w:ao)(z:SS)(q:FQ)(d:FD)(stk:List SF):Led:=FJ w z q d stk++stk.flatMap ua
noncomputable abbrev i6(q:FQ):List Nat:=[q.loc,q.sa,q.ia,q.se,q.ns]
noncomputable def bN(q:FQ)(stk:List SF):List Nat:=i6 q++stk.flatMap λf=>[f.m,f.tt]
theorem gZ(w:ao)(z:SS)(q:FQ)(d:FD)(stk:List SF):adr (jI w z q d stk)=bN q stk:=by
 delta adr jI bN;rw[aL,C2];rfl
noncomputable def frs(l:List Env):List Nat:=l.filterMap (·.frame)
theorem ace{w:ao}{z:SS}{q:FQ}{d:FD}{stk:List SF}{p:Bool×Nat×Obj}(hp:p∈jI w z q d stk):p.1=true:=by
 rcases mA hp with hp|hp
 ·apply jz hp<;>rfl
 ·refine aS (eF.mp hp) λf af hp=>?_;apply bJ hp<;>rfl
theorem uc{w:ao}{z:SS}{q:FQ}{d:FD}{stk:List SF}{kt:bZ}{h:az}(H:Lies kt h (jI w z q d stk)){a:Nat}(ha:a∈bN q stk):kt.get a=none:=by
 rw[←gZ w z q d stk]at ha;refine aS (aN.mp ha) λp hp aG=>?_;subst aG;exact H.off p hp (ace hp)
theorem AD{q:FQ}{stk:List SF}{f:SF}{a:Nat}(ha:a∈bN q stk):a∈bN q (stk++[f]):=by
 unfold bN at*;rw[iQ,←fP];exact inl ha
theorem AF{w:ao}{z:SS}{q:FQ}{d:FD}{stk:List SF}{kt:bZ}{h:az}(T:aR kt h)(nd:(bN q stk).Nodup)(off:∀a∈bN q stk,kt.get a=none)(h1:h.get? q.loc=some (fF w z q d))(h2:h.get? q.sa=some (ai (stk.map sV) d.e1))(h3:h.get? q.ia=some (ai (stk.map sM) d.e2))
  (h4:h.get? q.se=some (cg d.sp)) (h5:h.get? q.ns=some (bM d.mp)) (h6:∀f∈stk,∀p∈ua f,h.get? p.2.1=some p.2.2):Lies kt h (jI w z q d stk):=by
 refine⟨λr hr=>?_,?_,λp hp af=>off _ ?_,T⟩
 ·refine aS (aN.mp hr) λp hp aG=>?_;subst aG;rcases mA hp with hp|hp
  ·apply jz hp
   ·exact h1
   ·exact h2
   ·exact h3
   ·exact h4
   ·exact h5
  ·refine aS (eF.mp hp) λf hf hp=>?_;exact h6 f hf p hp
 ·have e:(jI w z q d stk).map (·.2.1)=bN q stk:=gZ w z q d stk;rw[e];exact nd
 ·rw[←gZ w z q d stk];exact mD hp
theorem acf{w:ao}{z:SS}{q:FQ}{d:FD}(sl:Array (Option aj)):({fF w z q d with slots:=sl}:Obj)=fF w z q {d with sl:=sl}:=rfl
theorem aR.wX{kt:bZ}{h h':az}{U F:List Nat}(T:aR kt h)(K:bw U F h h')(hU:∀a,a∈U∨a∈F→kt.get a=none):aR kt h':=λa o e=>by
 have hn:¬(a∈U∨a∈F):=λm=>by rw[hU a m]at e;cases e
 exact(K.2 a o (λm=>hn (.inl m)) (T a o e)).1 λm=>hn (.inr m)
theorem gR{kt:bZ}{h:az}(T:aR kt h){a:Nat}(ha:h.objs.size≤a):kt.get a=none:=by
 cases q:kt.get a with
 |none=>rfl
 |some o=>have:=cK (T a o q);omega
structure cM(w:ao)(z:SS)(v:SV)(q:FQ)(outer:List Env)(d:FD)(stk:List SF)(h:az):Prop where
 lies:Lies (kt w.params) h (aO w z v++jI w z q d stk)
 fr:h.FunFrames j8 (cD q.loc::outer)
 apart:∀b∈frs outer,b∉aE z v∧b∉bN q stk∧(kt w.params).get b=none
structure dW(w:ao)(v:SV)(d:FD)(seen:List Int)(stk:List SF):Prop where
 mp:fT w (bM d.mp) (stk.map (·.n))
 sp:(cg d.sp).IntSetOf (λk=>decide (k∈seen)) seen.length
 nd:(stk.map (·.n)).Nodup
 node:∀f∈stk,f.x∈v.l∧f.x.n=f.n
 small:stk.length≤900∧seen.length≤900
noncomputable def RK(s:aA)(r₀:aW)(P:az→Prop):aW→aA→Prop:=λr s'=>∃hp t',s'=⟨hp,s.gens,s.drawn,t',s.os⟩∧r=r₀∧P hp
theorem Mp(w0:ao)(fb fc:Bool)(z:SS)(v:SV)(q:FQ)(outer:List Env)(d:FD)(seen:List Int)(stk:List SF)(f:SF)(ok:dW (ak w0 fb fc) v d seen (stk++[f]))(hend:f.x.vs.drop f.j=[])
  (U:List Nat) (hU:∀b∈[q.sa,q.ia,q.ns,f.tt],b∈U) (X:Type) (res:X→aW) (Q:X→az→Prop)
  (ih:∀d':FD,d'.sp=d.sp→d'.p=d.p→d'.k7=d.k7→fT (ak w0 fb fc) (bM d'.mp) (stk.map (·.n))→
   cT (ak w0 fb fc) (some (cD q.loc::outer)) 83 (iZ q.loc) (cM (ak w0 fb fc) z v q outer d' stk) X res (λx h h'=>Q x h'∧bw U (q.loc::frs outer) h h')):
  cT (ak w0 fb fc) (some (cD q.loc::outer)) 83 (iZ q.loc) (cM (ak w0 fb fc) z v q outer d (stk++[f])) X res (λx h h'=>Q x h'∧bw U (q.loc::frs outer) h h'):=by
 generalize hw:ak w0 fb fc=w at*;intro A s R hA hF hT hP hR;have dc:bK 84 (A.under (iZ q.loc)):=hA.under rfl;have tY:(A.under (iZ q.loc)).frames=some (cD q.loc::outer):=by
  show pushEnvs (iZ q.loc).envs A.frames=_;rw[vM,hF];rfl
 refine zh ?_;generalize A.under (iZ q.loc)=A' at dc tY⊢;show wpAny (model pw w) A' ((whileTurn (dg nv) (fBody nv) (DZ nv) (cD q.loc)).onRaise λx=>do sQ x (cD q.loc);zg x) _ _ s
 refine zj ?_;delta whileTurn;obtain⟨hp0,AG,kK⟩:=hP;obtain⟨h0,g0,d0,t0,o0⟩:=s;have hL:=hp0.right;have els:(stk++[f]).map sV=stk.map sV++[sV f]:=by exact aL
 have qR:(stk++[f]).map sM=stk.map sM++[sM f]:=by exact aL
 have len:(stk.map sV++[sV f]).length=stk.length+1:=by simp
 have hsm:stk.length+1≤900:=by simpa using ok.small.1
 have L1:Lies (kt w.params) h0 [(false,q.loc,fF w z q d),(false,q.sa,ai (stk.map sV++[sV f]) d.e1)]:=by
  refine hL.part (λp hp=>?_) ?_
  ·apply bJ hp
   ·exact .inr ⟨rfl,true,.head _⟩
   ·exact .inr ⟨rfl,true,by rw[←els];exact .tail _ (.head _)⟩
  ·rw[gZ];exact .cons_cons _ (.cons_cons _ (eX _))
 refine av (ab9 (V:=bD w ⟨h0,g0,d0,t0,o0⟩ (RK ⟨h0,g0,d0,t0,o0⟩ (.ok (.ret (.bool true))) λhp=>Keeps [] h0 hp∧aR (kt w.params) hp)) (b:=84) (l:=[(false,q.loc,fF w z q d),(false,q.sa,ai (stk.map sV++[sV f]) d.e1)])
  (aq (dec 16643) (.cut 118 _ [(1,false,q.sa,ai (stk.map sV++[sV f]) d.e1)] Nat _ (λaf=>[]) (λaf=>[]) λaf af af=>aq (dec 0) (.done (.ok (.ret (.bool true))) [] [])))
  (au (ay (nu w q.sa (stk.map sV++[sV f]) d.e1 (stk.length+1) len (Ry hsm)) λaf af af=>au (bu λhp t' K T af af af af=>⟨hp,t',rfl,rfl,K,T⟩))) L1 dc ?q1 ?e1 ?FL rfl)
 case FL=>
  clear hp0 AG kK hL L1 hR hT ih ok hend hU dc tY hsm els qR len;(apply cO hw;kernel_rfl!)
 case e1=>
  rintro e s' ⟨_,_,_,h,_⟩
  cases h
 case q1=>
  rintro bb s' ⟨h1,t1,rfl,hb,K1,T1⟩
  cases hb
  show wpAny (model pw w) A' (execs (fBody nv) (cD q.loc)>>=_) _ _ _;rw[acd];have ap:∀b∈bN q (stk++[f]),b∉aE z v:=λb hb=>hp0.eL (by rw[gZ];exact hb)
  have AH:f.tt∈bN q (stk++[f]):=inr (eF.mpr ⟨f,by exact inr aY,by exact in1⟩)
  have Mq:f.m∈bN q (stk++[f]):=inr (eF.mpr ⟨f,by exact inr aY,by exact aY⟩)
  have hfx:=ok.node f (inr aY);have dG:=hL.nd;have dG:(bN q (stk++[f])).Nodup:=by
   have e:(jI w z q d (stk++[f])).map (·.2.1)=bN q (stk++[f]):=gZ w z q d _;rw[e]at dG;exact dG
  have FN:∀p∈ua f,p∈jI w z q d (stk++[f]):=λp hp=>inr (eF.mpr ⟨f,by exact inr aY,hp⟩)
  have jn:[q.loc,q.ia,f.m,f.tt].Nodup:=by
   have s1:[q.loc,q.ia,f.m,f.tt].Sublist (bN q (stk++[f])):=by
    delta bN i6;refine .cons_cons _ (.cons _ (.cons_cons _ (.cons _ (.cons _ ?_))));show[f.m,f.tt].Sublist (List.flatMap (λf=>[f.m,f.tt]) (stk++[f]));rw[iQ];exact pU _ _
   exact dG.sublist s1
  have L2:Lies (kt w.params) h1 [(false,q.loc,fF w z q d),(false,q.ia,ai (stk.map sM++[sM f]) d.e2),(false,f.x.SL,f.x.lo),(false,f.m,lT f.tt),(true,f.tt,aC "list_iterator" (.ref f.x.SL) f.j)]:=by
   refine Lies.ext (Lies.pick hp0 (λp hp=>?_) ?_) T1 K1
   ·apply jz hp
    ·exact .inr ⟨rfl,true,inr (.head _)⟩
    ·exact .inr ⟨rfl,true,inr (by rw[←qR];exact .tail _ (.tail _ (.head _)))⟩
    ·exact .inr ⟨rfl,true,inl (mem_objs hfx.1).2⟩
    ·exact .inr ⟨rfl,true,inr (FN _ (.head _))⟩
    ·exact .inl (inr (FN _ (.tail _ (.head _))))
   ·have n1:∀b∈[q.loc,q.ia,f.m,f.tt],b≠f.x.SL:=λb hb e=>ap b (by
     apply fX hb
     ·exact .head _
     ·exact .tail _ (.tail _ (.head _))
     ·exact Mq
     ·exact AH) (e▸((gC (z:=z) hfx.1).2))
    have jn:=CH jn;simp only[adr,bP,iS,bA,aM,bO,or_false,not_or,not_false_eq_true,gT,and_true];exact⟨⟨jn.1.1,(n1 q.loc aY),jn.1.2.1,jn.1.2.2⟩,⟨(n1 q.ia in1),jn.2.1.1,jn.2.1.2⟩,⟨iU (n1 f.m bT),iU (n1 f.tt eW)⟩,jn.2.2⟩
  refine av (zf (wpAny_Try_except (Kv (V:=bD w ⟨h1,g0,d0,t1,o0⟩ (λr s'=>∃x hp t',s'=⟨hp,g0,d0,t',o0⟩∧r=.error (.ref (x+1))∧Keeps [f.tt] h1 hp∧aR (kt w.params) hp∧hp.get? (x+1)=some (gf x)∧h1.objs.size≤x)) (b:=84) (l:=[(false,q.loc,fF w z q d),(false,q.ia,ai (stk.map sM++[sM f]) d.e2),(false,f.x.SL,f.x.lo),(false,f.m,lT f.tt),(true,f.tt,aC "list_iterator" (.ref f.x.SL) f.j)])
   (aq (dec 68174083) (.cut 119 _ [(1,false,q.ia,ai (stk.map sM++[sM f]) d.e2)] Unit _ (λaf=>[]) (λaf=>[]) λaf af aF=>
    aq (dec 24966) (.cut 110 _ [(2,false,f.x.SL,f.x.lo),(4,true,f.tt,aC "list_iterator" (.ref f.x.SL) f.j)] Nat _ (λaf=>[(4,f.tt,aC "list_iterator" .none f.j)]) (λx=>[(x,aK []),(x+1,gf x)]) λx af af=>
    aq (dec 0) (.done (.error (.ref (x+1))) [] [(5,x,aK []),(6,x+1,gf x)]))))
   (au (ay (FA w q.ia (stk.map sM) (sM f) d.e2 (t1+1) (by rw[bl];exact yr hsm)) λaf af aF=>au (ay (oQ w f.tt f.x.SL f.j (f.x.vs.map iv) f.x.ep (by simpa using(kE.mp hend))) λx af af=>au (bu λhp t' K T af hn hf af=>⟨x,hp,t',rfl,rfl,K,T,hn (x+1,gf x) in1,hf (5,x,aK []) aY⟩)))) L2 dc ?q2 ?e2 ?FO rfl)))
  case FO=>
   clear L2 FN jn dG ap AH Mq hfx hp0 AG kK hL L1 hR hT ih ok hend hU dc tY hsm els qR len K1 T1;(apply cO hw;kernel_rfl!)
  case q2=>
   rintro fl s' ⟨_,_,_,_,h,_⟩
   cases h
  case e2=>
   rintro e s' ⟨x,h2,t2,rfl,he,K2,T2,hx,hf2⟩
   cases he
   have o7:∀a∈bN q (stk++[f]),(kt w.params).get a=none:=λa ha=>uc hL ha;have kM:q.loc∈bN q (stk++[f]):=.head _;have wY:q.sa∈bN q (stk++[f]):=.tail _ (.head _);have wZ:q.ia∈bN q (stk++[f]):=.tail _ (.tail _ (.head _));have Mr:q.se∈bN q (stk++[f]):=.tail _ (.tail _ (.tail _ (.head _)));have w4:q.ns∈bN q (stk++[f]):=.tail _ (.tail _ (.tail _ (.tail _ (.head _))));have j9:∀a∈bN q (stk++[f]),a<h0.objs.size:=λa ha=>hL.lt (by rw[gZ];exact ha)
   have ud:h0.objs.size≤h1.objs.size:=K1.1;have KA:bw [f.tt] (q.loc::frs outer) h0 h2:=((K1.toF _).mono (λaf h=>nomatch h) (λaf h=>h)).trans (K2.toF _);have Ms:∀b∈frs (cD q.loc::outer),b∉[f.tt]:=λb hb m=>by
    obtain rfl:b=f.tt:=sA m;rcases aM.mp hb with e|hb
    ·simp only[bA,aM,bO,or_false,not_or]at jn;exact jn.1.2.2 e.symm
    ·exact(kK _ hb).2.1 AH
   refine ab7 tY rfl (KA.frames AG Ms) hx λh3 tb r K3 Mt ht3 g7=>?_;have K3:bw [x+1] (q.loc::frs outer) h2 h3:=K3;have o8:h0.objs.size≤h2.objs.size:=KA.1;have T3:aR (kt w.params) h3:=T2.wX K3 λa ha=>by
    rcases ha with ha|ha
    ·apply cV ha;exact gR T1 (yx hf2)
    ·rcases aM.mp ha with rfl|ha
     ·exact o7 _ kM
     ·exact(kK _ ha).2.2
   have KB:bw [f.tt] (q.loc::frs outer) h0 h3:=KA.trans' K3 λa ha=>.inr (by
    apply cV ha;exact WM ud hf2)
   refine jQ (KB.2 q.loc _ (λm=>Ms _ (.head _) m) (hL.get (p:=(true,q.loc,fF w z q d)) (.head _))) λaf sl hloc=>?_;rw[acf]at hloc;refine wpAny_handleBy_cons ?_ (λh=>nomatch h);show gU _ _ (Mb (x+1) q.loc) _ _;have Mu:bK 111 (A'.mark (some (.ref (x+1)))):=dc.mark (by decide) _
   refine ab4 w sl z q.loc q.sa q.ia q.se q.ns q.k1 q.k2 q.k3 q.k4 q.k5 q.k6 d.k7 (x+1) x tb d.p.1 d.p.2 _ _ _ Mu T3 ?ach ?dS (λp hp hm=>?aci) λaf h4 t4 k4 af af af af=>?acj;case ach=>
    intro p hp;apply bJ hp
    ·exact hloc
    ·exact Mt
   case dS=>
    simp only[bP,iS,bA,aM,bO,or_false,not_false_eq_true,gT,and_true];exact Jm (j9 _ kM) ud hf2
   case aci=>
    have hp:=b3 hp;rcases hp with rfl|rfl<;>cases hm
   case acj=>
    have k4:Keeps [] h3 h4:=k4;have T4:=T3.keep k4 λaf h=>nomatch h;have KC:bw [f.tt] (q.loc::frs outer) h0 h4:=KB.trans ((k4.toF _).mono (λaf h=>nomatch h) λaf h=>h);have AI:∀a∈bN q (stk++[f]),a≠q.loc→a≠f.tt→∀o,h0.get? a=some o→h4.get? a=some o:=λa ha h1 h2 o e=>(KC.2 a o (by simpa using h2) e).1 (λm=>by
     rcases aM.mp m with m|m
     ·exact h1 m
     ·exact(kK _ m).2.1 ha)
    show gU _ _ (Mf (x+1) q.loc) _ _;have hmp:=ok.mp;have hnd:=ok.nd;rw[(by exact aL:(stk++[f]).map (·.n)=stk.map (·.n)++[f.n])]at hmp hnd
    have dP:[q.loc,q.sa,q.ia,q.se,q.ns].Nodup:=(cJ.mp dG).1;have lW:∀a∈[q.loc,q.sa,q.ia,q.se,q.ns],a≠f.tt:=λa ha e=>(cJ.mp dG).2.2 a ha f.tt (eF.mpr ⟨f,by exact inr aY,by exact in1⟩) e
    simp only[bA,aM,bO,or_false,not_or]at dP;have o1:=j9 _ kM;have o2:=j9 _ wY;have o3:=j9 _ wZ;have o4:=j9 _ w4;refine ab5 w sl z q.loc q.sa q.ia q.se q.ns q.k1 q.k2 q.k3 q.k4 q.k5 q.k6 d.k7 d.e1 d.e2 (x+1) x tb f.m d.mp d.p.1 f.n d.p.2 f.t (stk.map sV) (stk.map sM) r .none (stk.map (·.n)) hmp (λm=>(cJ.mp hnd).2.2 f.n m f.n (.head _) rfl) (by rw[bl];exact yr hsm) (by rw[bl];exact yr hsm) (by rw[bl];exact yr hsm) _ _ _ Mu T4 ?ack ?CH (λp hp hm=>?acm) λp h5 t5 k5 hu af af af=>?acn
    case ack=>
     intro p hp;apply nV hp
     ·exact k4.2 _ _ (λh=>nomatch h) hloc
     ·exact k4.2 _ _ (λh=>nomatch h) Mt
     ·exact(AI _ wY (iU dP.1.1) (lW _ in1) _ (by rw[←els];exact hL.get (p:=(true,q.sa,ai ((stk++[f]).map sV) d.e1)) (.tail _ (.head _))):h4.get? q.sa=some (ai (stk.map sV++[sV f]) d.e1))
     ·exact(AI _ wZ (iU dP.1.2.1) (lW _ bT) _ (by rw[←qR];exact hL.get (p:=(true,q.ia,ai ((stk++[f]).map sM) d.e2)) (.tail _ (.tail _ (.head _)))):h4.get? q.ia=some (ai (stk.map sM++[sM f]) d.e2))
     ·exact(AI _ w4 (iU dP.1.2.2.2) (lW _ in4) _ (hL.get (p:=(true,q.ns,bM d.mp)) (.tail _ (.tail _ (.tail _ (.tail _ (.head _)))))))
     ·exact k4.2 _ _ (λh=>nomatch h) ht3
    case CH=>
     have g7:h2.objs.size≤tb:=g7;simp only[bP,iS,bA,aM,bO,or_false,not_or,not_false_eq_true,gT,and_true];refine⟨⟨?_,dP.1.1,dP.1.2.1,dP.1.2.2.2,?_⟩,⟨?_,?_,?_,?_⟩,⟨dP.2.1.1,dP.2.1.2.2,?_⟩,⟨dP.2.2.1.2,?_⟩,?_⟩<;>(first|exact Jm o1 ud hf2|exact yC o1 o8 g7|exact CC o2 ud hf2|exact CC o3 ud hf2|exact CC o4 ud hf2|exact VR (cK hx) g7|exact yC o2 o8 g7|exact yC o3 o8 g7|exact yC o4 o8 g7)
    case acm=>
     revert hm;apply nV hp<;>intro hm
     ·cases hm
     ·cases hm
     ·exact o7 _ wY
     ·exact o7 _ wZ
     ·exact o7 _ w4
     ·exact gR T2 g7
    case acn=>
     have k5:Keeps [q.sa,q.ia,q.ns,tb] h4 h5:=k5;have T5:=T4.keep k5 λa ha=>by
      apply fX ha
      ·exact o7 _ wY
      ·exact o7 _ wZ
      ·exact o7 _ w4
      ·exact gR T2 g7
     have KD:bw U (q.loc::frs outer) h0 h5:=(KC.mono (λa ha=>by
       apply cV ha;exact hU _ eW) λaf h=>h).trans' (k5.toF _) λa ha=>by
      apply fX ha
      ·exact .inl (hU _ aY)
      ·exact .inl (hU _ in1)
      ·exact .inl (hU _ bT)
      ·exact .inr (E5 o8 g7)
     have KE:bw [f.tt,q.sa,q.ia,q.ns] (q.loc::frs outer) h0 h5:=(KC.mono (λa ha=>by
       apply cV ha;exact .head _) λaf h=>h).trans' (k5.toF _) λa ha=>by
      apply fX ha
      ·exact .inl in1
      ·exact .inl bT
      ·exact .inl eW
      ·exact .inr (E5 o8 g7)
     have g7:h2.objs.size≤tb:=g7;have mS:∀b∈[f.tt,q.sa,q.ia,q.ns],b∈bN q (stk++[f]):=λb hb=>by
      apply fX hb
      ·exact AH
      ·exact wY
      ·exact wZ
      ·exact w4
     show wpAny (model pw w) A' (execs [] (cD q.loc)) _ _ _;refine aJ ?_;show wpAny (model pw w) A' (again (iZ q.loc)) _ _ _;refine aJ ⟨rfl,?_⟩;refine ih {d with sl:=sl,e1:=d.e1+1,e2:=d.e2+1,mp:=p.1} rfl rfl rfl p.2 A ⟨h5,g0,d0,t5,o0⟩ R hA hF T5 ⟨?lies,?fr,?ap⟩ λx' h' t' T' hq=>hR x' h' t' T' ⟨hq.1,KD.trans hq.2⟩
     case fr=>
      refine KE.frames AG λb hb m=>?_;rcases aM.mp hb with e|hb
      ·rw[e]at m;have m:=jO m;refine dw m (λm=>?_) λm=>dw m (λm=>?_) λm=>dw m (λm=>?_) λm=>?_
       ·exact lW q.loc aY m
       ·exact dP.1.1 m
       ·exact dP.1.2.1 m
       ·exact dP.1.2.2.2 m
      ·exact(kK b hb).2.1 (mS b m)
     case ap=>
      exact λb hb=>⟨(kK b hb).1,λm=>(kK b hb).2.1 (AD m),(kK b hb).2.2⟩
     case lies=>
      have S5:Lies (kt w.params) h5 (aO w z v):=hp0.left.wX T5 KE λp hp=>by
       have m':p.2.1∈aE z v:=cP w z v▸mD hp;refine⟨λm=>ap _ (mS _ m) m',λm=>?_⟩;rcases aM.mp m with m|m
       ·exact ap q.loc kM (m▸m')
       ·exact(kK _ m).1 m'
      have Mv:(bN q stk).Nodup:=by
       have e:bN q (stk++[f])=bN q stk++[f.m,f.tt]:=by
        delta bN;rw[iQ,←fP];rfl
       rw[e]at dG;exact(cJ.mp dG).1
      have rest:∀a∈bN q stk,a∉[q.loc,q.sa,q.ia,q.se,q.ns]→∀o,h0.get? a=some o→h5.get? a=some o:=λa ha hn o e=>by
       have nn:a≠f.tt:=λe=>by
        have e2:bN q (stk++[f])=bN q stk++[f.m,f.tt]:=by
         delta bN;rw[iQ,←fP];rfl
        rw[e2]at dG;exact(cJ.mp dG).2.2 a ha f.tt in1 e
       simp only[aM,bO,or_false,not_or]at hn;refine(KE.2 a o (by simp only[aM,bO,or_false,not_or];exact⟨nn,hn.2.1,hn.2.2.1,hn.2.2.2.2⟩) e).1 λm=>?_
       rcases aM.mp m with m|m
       ·exact hn.1 m
       ·exact(kK _ m).2.1 (AD ha)
      refine gg S5 (AF T5 Mv (λa ha=>o7 a (AD ha)) ?_ ?_ ?_ ?_ ?_ ?_) λb hb=>?_
      ·refine k5.2 _ _ (λm=>?_) (k4.2 _ _ (λh=>nomatch h) hloc);have m:=jO m;refine dw m (λm=>?_) λm=>dw m (λm=>?_) λm=>dw m (λm=>?_) λm=>?_
       ·exact dP.1.1 m
       ·exact dP.1.2.1 m
       ·exact dP.1.2.2.2 m
       ·exact B7 o1 m o8 g7
      ·exact hu (q.sa,ai (stk.map sV) (d.e1+1)) (.head _)
      ·exact hu (q.ia,ai (stk.map sM) (d.e2+1)) (.tail _ (.head _))
      ·refine k5.2 _ _ (λm=>?_) (AI _ Mr (iU dP.1.2.2.1) (lW _ eW) _ (hL.get (p:=(true,q.se,cg d.sp)) (.tail _ (.tail _ (.tail _ (.head _))))));have m:=jO m;refine dw m (λm=>?_) λm=>dw m (λm=>?_) λm=>dw m (λm=>?_) λm=>?_
       ·exact dP.2.1.2.1 m.symm
       ·exact dP.2.2.1.1 m.symm
       ·exact dP.2.2.2.1 m
       ·exact B7 (j9 _ Mr) m o8 g7
      ·exact hu (q.ns,bM p.1) (.tail _ (.tail _ (.head _)))
      ·intro g hg p hp;have mp:p.2.1∈stk.flatMap λf=>[f.m,f.tt]:=eF.mpr ⟨g,hg,by
        apply bJ hp<;>(first|exact aY|exact in1)⟩
       refine rest p.2.1 (inr mp) (λm=>(cJ.mp Mv).2.2 p.2.1 m p.2.1 mp rfl) _ (hL.get (inr (eF.mpr ⟨g,by exact inl hg,hp⟩)))
      ·rw[gZ]at hb;exact ap b (AD hb)
noncomputable def fU(q:FQ)(stk:List SF):List Nat:=i6 q++stk.map (·.tt)
noncomputable def nextOf(f:SF):SF:={f with j:=f.j+1}
theorem AJ(q:FQ)(rest:List SF)(f:SF):bN q (rest++[nextOf f])=bN q (rest++[f]):=by
 unfold bN;rw[iQ,iQ];rfl
theorem kc(q:FQ)(stk:List SF)(f:SF):bN q (stk++[f])=bN q stk++[f.m,f.tt]:=by
 unfold bN;rw[iQ,←fP];rfl
theorem FP{w:ao}{z:SS}{q:FQ}{d:FD}{stk:List SF}{kt:bZ}{h:az}(H:Lies kt h (jI w z q d stk)):(bN q stk).Nodup:=by
 have:=H.nd;have e:(jI w z q d stk).map (·.2.1)=bN q stk:=gZ w z q d stk;rw[e]at this;exact this
theorem uf{w:ao}{z:SS}{q:FQ}{d:FD}{stk:List SF}{f:SF}(hf:f∈stk){p:Bool×Nat×Obj}(hp:p∈ua f):p∈jI w z q d stk:=inr (eF.mpr ⟨f,hf,hp⟩)
theorem AK{w:ao}{z:SS}{q:FQ}{outer:List Env}{d':FD}{h h':az}{U F:List Nat}(hl:h.FunFrames j8 (cD q.loc::outer))(K:bw U F h h')(hU:∀b∈frs outer,b∉U)(e:h'.get? q.loc=some (fF w z q d')):h'.FunFrames j8 (cD q.loc::outer):=
 ⟨hl.1,⟨q.loc,_,rfl,tZ _,e,λvs h=>by cases h⟩,K.frames hl.2.2 hU⟩
theorem cM.ap{w:ao}{z:SS}{v:SV}{q:FQ}{outer:List Env}{d:FD}{stk:List SF}{h:az}(P:cM w z v q outer d stk h):∀b∈bN q stk,b∉aE z v:=λb hb=>P.lies.eL (by rw[gZ];exact hb)
theorem aco(w0:ao)(fb fc:Bool)(z:SS)(v:SV)(q:FQ)(outer:List Env)(d:FD):
  cT (ak w0 fb fc) (some (cD q.loc::outer)) 83 (iZ q.loc) (cM (ak w0 fb fc) z v q outer d []) Unit (λaf=>.ok .brk) (λaf h h'=>cM (ak w0 fb fc) z v q outer d [] h'∧Keeps [] h h'):=by
 generalize hw:ak w0 fb fc=w;refine j5 rfl rfl λA s R hF hT hP hR=>?_;have hL:=hP.lies.right;have L1:Lies (kt w.params) s.heap [(false,q.loc,fF w z q d),(false,q.sa,ai [] d.e1)]:=by
  refine hL.part (λp hp=>?_) ?_
  ·apply bJ hp
   ·exact .inr ⟨rfl,true,.head _⟩
   ·exact .inr ⟨rfl,true,.tail _ (.head _)⟩
  ·rw[gZ];exact .cons_cons _ (.cons_cons _ (eX _))
 refine⟨_,L1,aq (dec 16643) (.cut 118 _ [(1,false,q.sa,ai [] d.e1)] Nat _ (λaf=>[]) (λaf=>[]) λaf af af=>aq (dec 0) (.done (.ok .brk) [] [])),
  au (ay (nu w q.sa [] d.e1 0 rfl (by decide)) λaf af af=>au (bu λhp t' K T af af af af=>?fin)),?run⟩
 case fin=>
  have K:Keeps [] s.heap hp:=K;exact hR () hp t' T ⟨⟨hP.lies.ext T K,(K.toF []).frames hP.fr (λaf af h=>nomatch h),hP.apart⟩,K⟩
 case run=>
  clear hP hL L1 hR hT hF;(apply cO hw;kernel_rfl!)
theorem acp(w0:ao)(fb fc:Bool)(z:SS)(v:SV)(q:FQ)(outer:List Env)(d:FD)(stk:List SF)(f:SF)(hfx:f.x∈v.l)(hsm:stk.length≤900)(p:Int×Nat)(r:List (Int×Nat))(hp:f.x.vs.drop f.j=p::r):
  cT (ak w0 fb fc) (some (cD q.loc::outer)) 83 (iZ q.loc) (cM (ak w0 fb fc) z v q outer d (stk++[f])) Unit (λaf=>.ok .next) (λaf h h'=>cM (ak w0 fb fc) z v q outer {d with p:=p} (stk++[nextOf f]) h'∧Keeps [q.loc,f.tt] h h'):=by
 generalize hw:ak w0 fb fc=w;have hv:(f.x.vs.map iv)[f.j]?=some (iv p):=by
  have:=congrArg (λl=>l[0]?) hp;simp only[nZ,n9,nX]at this;rw[dK,this];rfl
 refine j5 rfl rfl λA s R hF hT hP hR=>?_;have hL:=hP.lies.right;have els:(stk++[f]).map sV=stk.map sV++[sV f]:=by exact aL
 have qR:(stk++[f]).map sM=stk.map sM++[sM f]:=by exact aL
 have len:(stk.map sV++[sV f]).length=stk.length+1:=by simp
 have dG:=FP hL;have ap:=hP.ap;have mf:f∈stk++[f]:=by exact inr aY
 have hs:=(gC (z:=z) hfx).2;have dS:[q.loc,q.sa,q.ia,f.m,f.tt].Nodup:=dG.sublist (by
  rw[kc];exact .cons_cons _ (.cons_cons _ (.cons_cons _ (.cons _ (.cons _ (pU _ _))))))
 have cB:∀b∈[q.loc,q.sa,q.ia,f.m,f.tt],b∈bN q (stk++[f]):=λb hb=>by
  rw[kc];apply jz hb
  ·exact .head _
  ·exact .tail _ (.head _)
  ·exact .tail _ (.tail _ (.head _))
  ·exact inr (.head _)
  ·exact inr (.tail _ (.head _))
 have n1:∀b∈[q.loc,q.sa,q.ia,f.m,f.tt],b≠f.x.SL:=λb hb e=>ap b (cB b hb) (e▸hs);have L1:Lies (kt w.params) s.heap [(true,q.loc,fF w z q d),(false,q.sa,ai (stk.map sV++[sV f]) d.e1),(false,q.ia,ai (stk.map sM++[sM f]) d.e2),(false,f.x.SL,f.x.lo),(false,f.m,lT f.tt),(true,f.tt,aC "list_iterator" (.ref f.x.SL) f.j)]:=by
  refine hP.lies.pick (λp hp=>?_) ?_
  ·apply nV hp
   ·exact .inl (inr (.head _))
   ·exact .inr ⟨rfl,true,inr (by rw[←els];exact .tail _ (.head _))⟩
   ·exact .inr ⟨rfl,true,inr (by rw[←qR];exact .tail _ (.tail _ (.head _)))⟩
   ·exact .inr ⟨rfl,true,inl (mem_objs hfx).2⟩
   ·exact .inr ⟨rfl,true,inr (uf mf (.head _))⟩
   ·exact .inl (inr (uf mf (.tail _ (.head _))))
  ·have dS:=dP dS;simp only[adr,bP,iS,bA,aM,bO,or_false,not_or,not_false_eq_true,gT,and_true];exact⟨⟨dS.1.1,dS.1.2.1,(n1 q.loc aY),dS.1.2.2⟩,⟨dS.2.1.1,(n1 q.sa in1),dS.2.1.2⟩,⟨(n1 q.ia bT),dS.2.2.1⟩,⟨iU (n1 f.m eW),iU (n1 f.tt in4)⟩,dS.2.2.2⟩
 refine⟨_,L1,aq (dec 16643) (.cut 118 _ [(1,false,q.sa,ai (stk.map sV++[sV f]) d.e1)] Nat _ (λaf=>[]) (λaf=>[]) λaf af tk0=>
  aq (dec 85217603) (.cut 119 _ [(2,false,q.ia,ai (stk.map sM++[sM f]) d.e2)] Unit _ (λaf=>[]) (λaf=>[]) λaf af af=>
  aq (dec 29127) (.cut 119 _ [(3,false,f.x.SL,f.x.lo),(5,true,f.tt,aC "list_iterator" (.ref f.x.SL) f.j)] Unit _ (λaf=>[(5,f.tt,aC "list_iterator" (.ref f.x.SL) (f.j+1))]) (λaf=>[]) λaf af af=>
  aq (dec 195) (.done (.ok .next) [(0,q.loc,fF w z q {d with p:=p}),(5,f.tt,aC "list_iterator" (.ref f.x.SL) (f.j+1))] [])))),
  au (ay (nu w q.sa (stk.map sV++[sV f]) d.e1 (stk.length+1) len (Sn hsm)) λaf af tk0=>au (ay (FA w q.ia (stk.map sM) (sM f) d.e2 (tk0+1) (by rw[bl];exact E4 hsm)) λaf af af=>
   au (ay (lG w f.tt f.x.SL f.j (f.x.vs.map iv) f.x.ep _ hv) λaf af af=>au (bu λhp t' K T hu af af af=>?fin)))),?run⟩
 case fin=>
  have K:Keeps [q.loc,f.tt] s.heap hp:=K;have mU:∀b∈[q.loc,f.tt],b∈bN q (stk++[f]):=λb hb=>cB b (by
   apply bJ hb<;>(first|exact aY|exact in4))
  have h1:=hu (q.loc,fF w z q {d with p:=p}) aY
  have rest:∀a∈bN q (stk++[f]),a≠q.loc→a≠f.tt→∀o,s.heap.get? a=some o→hp.get? a=some o:=λa af n1 n2 o e=>K.2 a o (by simp[n1,n2]) e
  have dP:[q.loc,q.sa,q.ia,q.se,q.ns].Nodup:=(cJ.mp dG).1;have lW:∀a∈[q.loc,q.sa,q.ia,q.se,q.ns],a≠f.tt:=λa ha e=>(cJ.mp dG).2.2 a ha f.tt (eF.mpr ⟨f,mf,by exact in1⟩) e
  simp only[bA,aM,bO,or_false,not_or]at dP;refine hR () hp t' T ⟨⟨?lies,AK hP.fr (K.toF []) (λb hb m=>(hP.apart b hb).2.1 (mU b m)) h1,λb hb=>⟨(hP.apart b hb).1,?_,(hP.apart b hb).2.2⟩⟩,K⟩
  ·refine gg (gy hP.lies.left T K λb hb=>ap b (mU b hb)) (AF T ?_ ?_ h1 ?_ ?_ ?_ ?_ ?_) λb hb=>?_
   ·rw[AJ];exact dG
   ·rw[AJ];exact λa ha=>uc hL ha
   ·rw[(by simp[nextOf,sV]:(stk++[nextOf f]).map sV=(stk++[f]).map sV)]
    exact rest q.sa (cB _ in1) (iU dP.1.1) (lW _ in1) _ (hL.get (p:=(true,q.sa,ai ((stk++[f]).map sV) d.e1)) (.tail _ (.head _)))
   ·rw[(by simp[nextOf,sM]:(stk++[nextOf f]).map sM=(stk++[f]).map sM)]
    exact rest q.ia (cB _ bT) (iU dP.1.2.1) (lW _ bT) _ (hL.get (p:=(true,q.ia,ai ((stk++[f]).map sM) d.e2)) (.tail _ (.tail _ (.head _))))
   ·exact rest q.se (.tail _ (.tail _ (.tail _ (.head _)))) (iU dP.1.2.2.1) (lW _ eW) _ (hL.get (p:=(true,q.se,cg d.sp)) (.tail _ (.tail _ (.tail _ (.head _)))))
   ·exact rest q.ns (.tail _ (.tail _ (.tail _ (.tail _ (.head _))))) (iU dP.1.2.2.2) (lW _ in4) _ (hL.get (p:=(true,q.ns,bM d.mp)) (.tail _ (.tail _ (.tail _ (.tail _ (.head _))))))
   ·intro g hg p hp;rcases mA hg with hg|hg
    ·have mp:p.2.1∈stk.flatMap λf=>[f.m,f.tt]:=eF.mpr ⟨g,hg,by
      apply bJ hp<;>(first|exact aY|exact in1)⟩
     have FT:=dG;rw[kc]at FT;refine rest p.2.1 ?_ (λe=>?_) (λe=>?_) _ (hL.get (uf (inl hg) hp))
     ·rw[kc];exact inl (inr mp)
     ·exact(cJ.mp (cJ.mp FT).1).2.2 q.loc (.head _) p.2.1 mp e.symm
     ·exact(cJ.mp FT).2.2 p.2.1 (inr mp) f.tt in1 e
    ·obtain rfl:=sA hg;apply bJ hp
     ·exact rest f.m (cB _ eW) (λe=>by simp[e]at dS) (λe=>by simp[e]at dS) _ (hL.get (uf mf (.head _)))
     ·exact(hu (f.tt,aC "list_iterator" (.ref f.x.SL) (f.j+1)) in1)
   ·rw[gZ,AJ]at hb;exact ap b hb
  ·rw[AJ];exact(hP.apart b hb).2.1
 case run=>
  clear hP hL L1 hR hT hF hv dS n1 cB hs mf ap dG hsm hfx els qR len;(apply cO hw;kernel_rfl!)
theorem cM.ext{w:ao}{z:SS}{v:SV}{q:FQ}{outer:List Env}{d:FD}{stk:List SF}{h h':az}(P:cM w z v q outer d stk h)(T:aR (kt w.params) h')(K:Keeps [] h h'):cM w z v q outer d stk h':=
 ⟨P.lies.ext T K,(K.toF []).frames P.fr (λaf af h=>nomatch h),P.apart⟩
theorem cT.weak{w:ao}{f:Option (List Env)}{b:Nat}{c:bf}{Pre:az→Prop}{X Y:Type}{res:X→aW}{res':Y→aW}{Post:X→az→az→Prop}{w5:Y→az→az→Prop}(W:cT w f b c Pre X res Post)
  (g:∀x h h',Pre h→Post x h h'→∃y,res' y=res x∧w5 y h h'):cT w f b c Pre Y res' w5:=λA s R hA hF hT hP hR=>W A s R hA hF hT hP λx h' t' T q=>by
 refine aS (g x s.heap h' hP q) λy e p=>?_;rw[←e];exact hR y h' t' T p
theorem Mw(q:FQ)(stk:List SF)(f:SF):∀a∈fU q stk,a∈fU q (stk++[f]):=λa ha=>by
 unfold fU at*;rw[aL,←fP];exact inl ha
noncomputable def FU(f:SF):Prop:=f.x.vs.drop f.j=[]
theorem dW.pop{w:ao}{v:SV}{d d':FD}{seen:List Int}{stk:List SF}{f:SF}(ok:dW w v d seen (stk++[f]))(hs:d'.sp=d.sp)(hm:fT w (bM d'.mp) (stk.map (·.n))):dW w v d' seen stk:=
 ⟨hm,hs▸ok.sp,by
  have:=ok.nd;rw[aL]at this;exact(cJ.mp this).1,λg hg=>ok.node g (inl hg),by
  have:=ok.small;simp at this;exact U8 this.1 this.2⟩
theorem Mx(w0:ao)(fb fc:Bool)(z:SS)(v:SV)(q:FQ)(outer:List Env)(seen:List Int):∀(n:Nat) (stk:List SF),stk.length=n→(∀f∈stk,FU f)→∀d:FD,dW (ak w0 fb fc) v d seen stk→
  cT (ak w0 fb fc) (some (cD q.loc::outer)) 83 (iZ q.loc) (cM (ak w0 fb fc) z v q outer d stk) FD (λaf=>.ok .brk)
   (λd' h h'=>(cM (ak w0 fb fc) z v q outer d' [] h'∧dW (ak w0 fb fc) v d' seen [])∧bw (fU q stk) (q.loc::frs outer) h h'):=by
 intro n;induction n with
 |zero=>
  intro stk hn hs d ok;obtain rfl:=JD.mp hn;exact(aco w0 fb fc z v q outer d).weak λaf h h' af p=>⟨d,rfl,⟨p.1,ok⟩,(p.2.toF _).mono (λaf h=>nomatch h) λaf h=>h⟩
 |succ n ih=>
  intro stk hn hs d ok;rcases JK stk with rfl|⟨rest,f,rfl⟩
  ·cases hn
  ·rw[JL]at*;refine Mp w0 fb fc z v q outer d seen rest f ok (hs f (inr aY)) (fU q (rest++[f])) (λb hb=>?_) FD (λaf=>.ok .brk) (λd' h'=>cM (ak w0 fb fc) z v q outer d' [] h'∧dW (ak w0 fb fc) v d' seen []) λd' e1 e2 e3 hm=>?_
   ·have hb:=jO hb;unfold fU;rcases hb with rfl|rfl|rfl|rfl<;>simp
   ·exact(ih rest (by simpa using hn) (λg hg=>hs g (inl hg)) d' (ok.pop e1 hm)).weak λx h h' af p=>⟨x,rfl,p.1,p.2.mono (Mw q rest f) λaf h=>h⟩
theorem My(w0:ao)(fb fc:Bool)(z:SS)(v:SV)(q:FQ)(outer:List Env)(seen:List Int)(rest:List SF)(f:SF)(p:Int×Nat)(r:List (Int×Nat))(hp:f.x.vs.drop f.j=p::r):∀(n:Nat) (ex:List SF),ex.length=n→(∀f∈ex,FU f)→∀d:FD,dW (ak w0 fb fc) v d seen (rest++[f]++ex)→
  cT (ak w0 fb fc) (some (cD q.loc::outer)) 83 (iZ q.loc) (cM (ak w0 fb fc) z v q outer d (rest++[f]++ex)) FD (λaf=>.ok .next)
   (λd' h h'=>(cM (ak w0 fb fc) z v q outer d' (rest++[nextOf f]) h'∧dW (ak w0 fb fc) v d' seen (rest++[nextOf f])∧d'.p=p)∧bw (fU q (rest++[f]++ex)) (q.loc::frs outer) h h'):=by
 intro n;induction n with
 |zero=>
  intro ex hn hs d ok;obtain rfl:=JD.mp hn;rw[dZ]at*;refine(acp w0 fb fc z v q outer d rest f (ok.node f (inr aY)).1 (by have:=ok.small.1;simp at this;exact Si this) p r hp).weak λaf h h' af k=>⟨{d with p:=p},rfl,⟨k.1,⟨?_,ok.sp,?_,λg hg=>?_,?_⟩,rfl⟩,(k.2.toF _).mono (λa ha=>?_) λaf h=>h⟩
  ·simpa[nextOf]using ok.mp
  ·simpa[nextOf]using ok.nd
  ·rcases mA hg with hg|hg
   ·exact ok.node g (inl hg)
   ·obtain rfl:=sA hg;exact ok.node f (inr aY)
  ·simpa using ok.small
  ·have ha:=b3 ha;unfold fU;rcases ha with rfl|rfl<;>simp
 |succ n ih=>
  intro ex hn hs d ok;rcases JK ex with rfl|⟨ex',g,rfl⟩
  ·cases hn
  ·rw[JL]at*;rw[←fP]at*;refine Mp w0 fb fc z v q outer d seen (rest++[f]++ex') g ok (hs g (inr aY)) (fU q (rest++[f]++ex'++[g])) (λb hb=>?_) FD (λaf=>.ok .next) (λd' h'=>cM (ak w0 fb fc) z v q outer d' (rest++[nextOf f]) h'∧dW (ak w0 fb fc) v d' seen (rest++[nextOf f])∧d'.p=p) λd' e1 e2 e3 hm=>?_
   ·have hb:=jO hb;unfold fU;rcases hb with rfl|rfl|rfl|rfl<;>simp
   ·exact(ih ex' (by simpa using hn) (λg hg=>hs g (inl hg)) d' (ok.pop e1 hm)).weak λx h h' af p=>⟨x,rfl,p.1,p.2.mono (Mw q _ g) λaf h=>h⟩
theorem Mz{o:Obj}{S S':Int→Bool}{n n':Nat}(h:o.IntSetOf S n)(e:∀k,S k=S' k)(en:n=n'):o.IntSetOf S' n':=by
 have:S=S':=funext e;subst this;subst en;exact h
theorem newOk{w:ao}{v:SV}{d:FD}{seen:List Int}{stk:List SF}(ok:dW w v d seen stk){x:Node}(hx:x∈v.l)(hxn:x.n=d.p.1)(hns:d.p.1∉seen)(hnk:d.p.1∉stk.map (·.n))(hsm:stk.length<900∧seen.length<900){sp:Array (Int×aj)×Nat×om}(hs:(cg sp).IntSetOf (λj=>decide (j∈seen)||decide (j=d.p.1)) (seen.length+1)){mp:List bx×Nat}(hm:fT w (bM mp) (stk.map (·.n)++[d.p.1])){tt:Nat}{e1 e2:Nat}:
  dW w v {d with e1:=e1,e2:=e2,sp:=sp,mp:=mp} (seen++[d.p.1]) (stk++[⟨d.p.1,d.p.2,tt+1,tt,x,0⟩]):=by
 refine⟨?_,Mz hs (λk=>?_) (by simp),?_,λg hg=>?_,?_⟩
 ·rw[aL];exact hm
 ·simp[Bool.decide_or]
 ·rw[aL,cJ];refine⟨ok.nd,by simp,λa ha b hb e=>?_⟩
  exact hnk ((sA hb:b=d.p.1)▸e▸ha)
 ·rcases mA hg with hg|hg
  ·exact ok.node g hg
  ·obtain rfl:=sA hg;exact⟨hx,hxn⟩
 ·simp;exact Ub hsm.1 hsm.2
theorem AO{A:aV}{f:Option (List Env)}(h:A.frames=f)(loc:Nat):(A.under (jH loc)).frames=f:=by
 show pushEnvs (jH loc).envs A.frames=_;rw[vM,h];cases f<;>rfl
theorem MA{w:ao}{h:az}(T:aR (kt w.params) h){a:Nat}(off:(kt w.params).get a=none):(a==zl)=false:=by
 cases q:a==zl with
 |false=>rfl
 |true=>
  rw[eq_of_beq q]at off;have:∃o,(kt w.params).get zl=some o:=⟨_,rfl⟩;refine fC this λo ho=>?_;rw[ho]at off;cases off
noncomputable def g8(p:Int×Nat)(x:Node)(tt:Nat):SF:=⟨p.1,p.2,tt+1,tt,x,0⟩
theorem acq(w0:ao)(fb fc:Bool)(z:SS)(v:SV)(q:FQ)(outer:List Env)(d:FD)(seen:List Int)(stk:List SF)(ok:dW (ak w0 fb fc) v d seen stk)(x:Node)(hx:x∈v.l)(hxn:x.n=d.p.1)(nd:(names v).Nodup)(hns:d.p.1∉seen)(hnk:d.p.1∉stk.map (·.n))(hsm:stk.length<900∧seen.length<900)
  (J:Nat→FD→az→Prop) (O:FD→az→Prop) (hJ:∀tt d2 h h',aR (kt (ak w0 fb fc).params) h'→J tt d2 h→Keeps [] h h'→J tt d2 h') (hO:∀d2 h h',aR (kt (ak w0 fb fc).params) h'→O d2 h→Keeps [] h h'→O d2 h')
  (inner:∀d1 tt,dW (ak w0 fb fc) v d1 (seen++[d.p.1]) (stk++[g8 d.p x tt])→cT (ak w0 fb fc) (some (cD q.loc::outer)) 83 (iZ q.loc) (cM (ak w0 fb fc) z v q outer d1 (stk++[g8 d.p x tt])) FD (λaf=>.ok .next) (λd2 h h'=>J tt d2 h'∧bw (fU q (stk++[g8 d.p x tt])) (q.loc::frs outer) h h'))
  (ih:∀d2 tt,cT (ak w0 fb fc) (some (cD q.loc::outer)) 81 (jH q.loc) (J tt d2) FD (λaf=>.ok .next) (λd' h h'=>O d' h'∧bw (fU q (stk++[g8 d.p x tt])) (q.loc::frs outer) h h')):
  cT (ak w0 fb fc) (some (cD q.loc::outer)) 81 (jH q.loc) (cM (ak w0 fb fc) z v q outer d stk) FD (λaf=>.ok .next) (λd' h h'=>O d' h'∧bw (fU q stk) (q.loc::frs outer) h h'):=by
 generalize hw:ak w0 fb fc=w at*;refine j5 rfl rfl λA s R hF hT hP hR=>?_;have fH:=AO hF q.loc;have hL:=hP.lies.right;have dG:=FP hL;have ap:=hP.ap;have old:=lM hP.lies.left;have j9:∀a∈bN q stk,a<s.heap.objs.size:=λa ha=>hL.lt (by rw[gZ];exact ha)
 refine vm (qH (oW hP.lies.left) hx hx) λa1 a2 a3 a4 b5 b6 b7 a8 a9 iD=>?_;have L1:Lies (kt w.params) s.heap ([(false,z.D,bU (v.l.map Node.key) v.ep),(false,x.I,x.io),(false,x.SL,x.lo)]++FJ w z q d stk):=by
  refine Lies.join (hP.lies.left.pick (λp hp=>.inr ?_) ?_) (hL.left (l':=stk.flatMap ua)) λb hb hc=>?_
  ·apply cB hp
   ·exact⟨rfl,true,iz.2.2⟩
   ·exact⟨rfl,true,(mem_objs hx).1⟩
   ·exact⟨rfl,true,(mem_objs hx).2⟩
  ·simp only[adr,bP,iS,bA,aM,bO,or_false,not_or,not_false_eq_true,gT,and_true];exact⟨⟨a4,b7⟩,a1⟩
  ·have hc:b∈i6 q:=hc;refine ap b (inl hc) ?_;apply cB hb
   ·exact bL.2.2
   ·exact(gC hx).1
   ·exact(gC hx).2
 refine⟨_,L1,aq (dec 153391494) (.cut 119 _ [(6,false,q.se,cg d.sp)] Unit _ (λaf=>[]) (λaf=>[]) λaf af af=>
  aq (dec 625071133254) (.cut 119 _ [(6,true,q.se,cg d.sp)] {p:Array (Int×aj)×Nat×om//(cg p).IntSetOf (λj=>decide (j∈seen)||decide (j=d.p.1)) (seen.length+1)} _ (λp=>[(6,q.se,cg p.1)]) (λaf=>[]) λsp af af=>
  aq (dec 14391974900510868144646) (.cut 119 _ [(0,false,z.D,bU (v.l.map Node.key) v.ep)] Unit _ (λaf=>[]) (λaf=>[]) λaf aQ af=>
  aq (dec 54148905778088456100331825410170390867872851383479052044604631420996) (.cut 119 _ [(5,true,q.ia,ai (stk.map sM) d.e2)] Unit _ (λaf=>[(5,q.ia,ai (stk.map sM++[bg (aQ+1)]) (d.e2+1))]) (λaf=>[]) λaf af af=>
  aq (dec 24641) (.cut 118 _ [(4,false,q.sa,ai (stk.map sV) d.e1)] Nat _ (λaf=>[]) (λaf=>[]) λlt af af=>
  aq (dec 170434950) (.cut 119 _ [(7,true,q.ns,bM d.mp)] {p:List bx×Nat//fT w (bM p) (stk.map (·.n)++[d.p.1])} _ (λp=>[(7,q.ns,bM p.1)]) (λaf=>[]) λmp af af=>
  aq (dec 487598092742) (.cut 119 _ [(4,true,q.sa,ai (stk.map sV) d.e1)] Unit _ (λaf=>[(4,q.sa,ai (stk.map sV++[iv d.p]) (d.e1+1))]) (λaf=>[]) λaf af af=>
  aq (dec 0) (.eH (A.under (jH q.loc)).frames 83 _ [(3,true,q.loc,fF w z q d),(4,true,q.sa,ai (stk.map sV++[iv d.p]) (d.e1+1)),(5,true,q.ia,ai (stk.map sM++[bg (aQ+1)]) (d.e2+1)),(6,true,q.se,cg sp.1),(7,true,q.ns,bM mp.1),(8,true,aQ,aC "list_iterator" (.ref x.SL) 0),(9,true,aQ+1,lT aQ)] FD _ (λaf=>[]) λd2 h3 af af=>aq (dec 0) (.eH A.frames 81 _ [] FD _ (λaf=>[]) λd' h5 af af=>aq (dec 0) (.done (.ok .next) [] [])))))))))),
  au (ay (tW w q.se (cg d.sp) _ _ ok.sp (rM hsm.2) d.p.1 d.p.2 false (by simpa using hns)) λaf af af=>au (ay (LY w q.se (cg d.sp) _ _ ok.sp (rM hsm.2) d.p.1 d.p.2 (by simpa using hns)) λsp af af=>
   au (ay (wo w z.D (v.l.map Node.key) v.ep d.p.1 d.p.2 x.key (EX nd hx hxn)) λaf aQ af=>au (ay (iJ w q.ia (stk.map sM) d.e2 (bg (aQ+1)) (by rw[bl];exact nU hsm.1)) λaf af af=>
   au (ay (nu w q.sa (stk.map sV) d.e1 stk.length (bl _) (nU hsm.1)) λlt af af=>au (ay (LX w q.ns (bM d.mp) _ ok.mp d.p.1 d.p.2 (.int (yZ stk.length) lt) hnk (by rw[bl];exact nU hsm.1)) λmp af af=>
   au (ay (iJ w q.sa (stk.map sV) d.e1 (iv d.p) (by rw[bl];exact nU hsm.1)) λaf af af=>
   au (jl (fH.symm▸inner {d with e1:=d.e1+1,e2:=d.e2+1,sp:=sp.1,mp:=mp.1} aQ (newOk ok hx hxn hns hnk hsm sp.2 mp.2)) (λh a=>?pre) (λaf af h' af T af=>⟨(λaf h=>nomatch h),.nil,(λaf h=>nomatch h),T⟩) λd2 h2 h3 af af a2 T2 q2=>au (jl (hF.symm▸ih d2 aQ) (λh a=>hJ _ _ _ _ a.lies.top q2.1 a.keeps) (λaf af h' af T af=>⟨(λaf h=>nomatch h),.nil,(λaf h=>nomatch h),T⟩) λd' h4 h5 af af a4 T4 q4=>au (bu λhp t' K T af af af af=>?fin)))))))))),?run⟩
 case pre=>
  have K:Keeps [q.loc,q.sa,q.ia,q.se,q.ns] s.heap h:=a.keeps;have T:=a.lies.top;have cZ:s.heap.objs.size≤aQ:=a.fresh (8,true,aQ,aC "list_iterator" (.ref x.SL) 0) kB (show 8≤8 by decide)
  have hh:∀p∈[(3,true,q.loc,fF w z q d),(4,true,q.sa,ai (stk.map sV++[iv d.p]) (d.e1+1)),(5,true,q.ia,ai (stk.map sM++[bg (aQ+1)]) (d.e2+1)),(6,true,q.se,cg sp.1),(7,true,q.ns,bM mp.1),(8,true,aQ,aC "list_iterator" (.ref x.SL) 0),(9,true,aQ+1,lT aQ)],h.get? p.2.2.1=some p.2.2.2:=λp hp=>a.lies.get (p:=p.2) (c7 (f:=λp:Nat×Bool×Nat×Obj=>p.2) hp);have mU:∀b∈[q.loc,q.sa,q.ia,q.se,q.ns],b∈bN q stk:=λb hb=>inl hb;have FW:(bN q (stk++[g8 d.p x aQ])).Nodup:=by
   rw[kc,cJ];refine⟨dG,by simp[g8],λb hb c hc e=>?_⟩
   have:=j9 b hb;have hc:c=aQ+1∨c=aQ:=b3 hc;exact Jl this e cZ hc
  refine⟨gg (gy hP.lies.left T K λb hb=>ap b (mU b hb)) (AF T FW (λb hb=>?_) ?_ ?_ ?_ ?_ ?_ ?_) λb hb=>?_,AK hP.fr (K.toF []) (λb hb m=>(hP.apart b hb).2.1 (mU b m)) (hh (3,true,q.loc,fF w z q d) aY),λb hb=>⟨(hP.apart b hb).1,λm=>?_,(hP.apart b hb).2.2⟩⟩
  ·rw[kc]at hb;rcases mA hb with hb|hb
   ·exact uc hL hb
   ·have hb:b=aQ+1∨b=aQ:=b3 hb;exact gR hT (Jg hb cZ)
  ·exact hh (3,true,q.loc,fF w z q d) aY
  ·have e:(stk++[g8 d.p x aQ]).map sV=stk.map sV++[iv d.p]:=by exact aL
   rw[e];exact hh (4,true,q.sa,ai (stk.map sV++[iv d.p]) (d.e1+1)) in1
  ·have e:(stk++[g8 d.p x aQ]).map sM=stk.map sM++[bg (aQ+1)]:=by exact aL
   rw[e];exact hh (5,true,q.ia,ai (stk.map sM++[bg (aQ+1)]) (d.e2+1)) bT
  ·exact hh (6,true,q.se,cg sp.1) eW
  ·exact hh (7,true,q.ns,bM mp.1) in4
  ·intro g hg p hp;rcases mA hg with hg|hg
   ·have mp:p.2.1∈stk.flatMap λf=>[f.m,f.tt]:=eF.mpr ⟨g,hg,by
     apply bJ hp<;>(first|exact aY|exact in1)⟩
    exact K.2 p.2.1 _ (λm=>(cJ.mp dG).2.2 p.2.1 m p.2.1 mp rfl) (hL.get (uf hg hp))
   ·obtain rfl:=sA hg;apply bJ hp
    ·exact hh (9,true,aQ+1,lT aQ) CG
    ·exact hh (8,true,aQ,aC "list_iterator" (.ref x.SL) 0) kB
  ·rw[gZ,kc]at hb;rcases mA hb with hb|hb
   ·exact ap b hb
   ·have hb:b=aQ+1∨b=aQ:=b3 hb;intro m;have:=old b m;exact yz this hb cZ
  ·rw[kc]at m;rcases mA m with m|m
   ·exact(hP.apart b hb).2.1 m
   ·obtain⟨o,ho⟩:∃o,s.heap.get? b=some o:=(hP.fr.2.2.mem hb).2.imp λaf h=>h.1;have:=cK ho;have m:b=aQ+1∨b=aQ:=b3 m;exact yz this m cZ
 case fin=>
  refine dY q2 λj1 j2=>?_;refine dY q4 λo1 o2=>?_;have cZ:s.heap.objs.size≤aQ:=a2.fresh (8,true,aQ,aC "list_iterator" (.ref x.SL) 0) kB (show 8≤8 by decide)
  have K2:Keeps [q.loc,q.sa,q.ia,q.se,q.ns] s.heap h2:=a2.keeps;have K3:Keeps [] h3 h4:=a4.keeps;have K:Keeps [] h5 hp:=K;have KK:bw (fU q stk) (q.loc::frs outer) s.heap h5:=((K2.toF _).mono (λa ha=>inl ha) λaf h=>h).trans' ((j2.trans ((K3.toF _).mono (λaf h=>nomatch h) λaf h=>h)).trans o2) λa ha=>by
   unfold fU at*;rw[aL,←fP]at ha;rcases mA ha with ha|ha
   ·exact .inl ha
   ·have ha:a=aQ:=jN ha;exact .inr (Ji ha cZ)
  exact hR d' hp t' T ⟨hO _ _ _ T o1 K,KK.trans ((K.toF _).mono (λaf h=>nomatch h) λaf h=>h)⟩
 case run=>
  clear hP hL L1 hR hT hF fH dG ap old j9 a1 a2 a3 a4 b5 b6 b7 a8 a9 iD inner ok hx hxn nd hns hnk hsm hO ih hJ;(apply cO hw;kernel_rfl!)
theorem acr(w0:ao)(fb fc:Bool)(z:SS)(v:SV)(q:FQ)(outer:List Env)(d:FD)(seen:List Int)(stk:List SF)(ok:dW (ak w0 fb fc) v d seen stk)(x:Node)(hx:x∈v.l)(hxn:x.n=d.p.1)(nd:(names v).Nodup)(hns:d.p.1∉seen)(hnk:d.p.1∉stk.map (·.n))(hsm:stk.length<900∧seen.length<900)
  (J:Nat→FD→az→Prop) (O:FD→az→Prop) (w6:∀tt d2 h,J tt d2 h→O d2 h) (hO:∀d2 h h',aR (kt (ak w0 fb fc).params) h'→O d2 h→Keeps [] h h'→O d2 h')
  (inner:∀d1 tt,dW (ak w0 fb fc) v d1 (seen++[d.p.1]) (stk++[g8 d.p x tt])→cT (ak w0 fb fc) (some (cD q.loc::outer)) 83 (iZ q.loc) (cM (ak w0 fb fc) z v q outer d1 (stk++[g8 d.p x tt])) FD (λaf=>.ok .brk) (λd2 h h'=>J tt d2 h'∧bw (fU q (stk++[g8 d.p x tt])) (q.loc::frs outer) h h'))
   :
  cT (ak w0 fb fc) (some (cD q.loc::outer)) 81 (jH q.loc) (cM (ak w0 fb fc) z v q outer d stk) FD (λaf=>.ok .next) (λd' h h'=>O d' h'∧bw (fU q stk) (q.loc::frs outer) h h'):=by
 generalize hw:ak w0 fb fc=w at*;refine j5 rfl rfl λA s R hF hT hP hR=>?_;have fH:=AO hF q.loc;have hL:=hP.lies.right;have dG:=FP hL;have ap:=hP.ap;have old:=lM hP.lies.left;have j9:∀a∈bN q stk,a<s.heap.objs.size:=λa ha=>hL.lt (by rw[gZ];exact ha)
 refine vm (qH (oW hP.lies.left) hx hx) λa1 a2 a3 a4 b5 b6 b7 a8 a9 iD=>?_;have L1:Lies (kt w.params) s.heap ([(false,z.D,bU (v.l.map Node.key) v.ep),(false,x.I,x.io),(false,x.SL,x.lo)]++FJ w z q d stk):=by
  refine Lies.join (hP.lies.left.pick (λp hp=>.inr ?_) ?_) (hL.left (l':=stk.flatMap ua)) λb hb hc=>?_
  ·apply cB hp
   ·exact⟨rfl,true,iz.2.2⟩
   ·exact⟨rfl,true,(mem_objs hx).1⟩
   ·exact⟨rfl,true,(mem_objs hx).2⟩
  ·simp only[adr,bP,iS,bA,aM,bO,or_false,not_or,not_false_eq_true,gT,and_true];exact⟨⟨a4,b7⟩,a1⟩
  ·have hc:b∈i6 q:=hc;refine ap b (inl hc) ?_;apply cB hb
   ·exact bL.2.2
   ·exact(gC hx).1
   ·exact(gC hx).2
 refine⟨_,L1,aq (dec 153391494) (.cut 119 _ [(6,false,q.se,cg d.sp)] Unit _ (λaf=>[]) (λaf=>[]) λaf af af=>
  aq (dec 625071133254) (.cut 119 _ [(6,true,q.se,cg d.sp)] {p:Array (Int×aj)×Nat×om//(cg p).IntSetOf (λj=>decide (j∈seen)||decide (j=d.p.1)) (seen.length+1)} _ (λp=>[(6,q.se,cg p.1)]) (λaf=>[]) λsp af af=>
  aq (dec 14391974900510868144646) (.cut 119 _ [(0,false,z.D,bU (v.l.map Node.key) v.ep)] Unit _ (λaf=>[]) (λaf=>[]) λaf aQ af=>
  aq (dec 54148905778088456100331825410170390867872851383479052044604631420996) (.cut 119 _ [(5,true,q.ia,ai (stk.map sM) d.e2)] Unit _ (λaf=>[(5,q.ia,ai (stk.map sM++[bg (aQ+1)]) (d.e2+1))]) (λaf=>[]) λaf af af=>
  aq (dec 24641) (.cut 118 _ [(4,false,q.sa,ai (stk.map sV) d.e1)] Nat _ (λaf=>[]) (λaf=>[]) λlt af af=>
  aq (dec 170434950) (.cut 119 _ [(7,true,q.ns,bM d.mp)] {p:List bx×Nat//fT w (bM p) (stk.map (·.n)++[d.p.1])} _ (λp=>[(7,q.ns,bM p.1)]) (λaf=>[]) λmp af af=>
  aq (dec 487598092742) (.cut 119 _ [(4,true,q.sa,ai (stk.map sV) d.e1)] Unit _ (λaf=>[(4,q.sa,ai (stk.map sV++[iv d.p]) (d.e1+1))]) (λaf=>[]) λaf af af=>
  aq (dec 0) (.eH (A.under (jH q.loc)).frames 83 _ [(3,true,q.loc,fF w z q d),(4,true,q.sa,ai (stk.map sV++[iv d.p]) (d.e1+1)),(5,true,q.ia,ai (stk.map sM++[bg (aQ+1)]) (d.e2+1)),(6,true,q.se,cg sp.1),(7,true,q.ns,bM mp.1),(8,true,aQ,aC "list_iterator" (.ref x.SL) 0),(9,true,aQ+1,lT aQ)] FD _ (λaf=>[]) λd2 h3 af af=>aq (dec 0) (.done (.ok .next) [] []))))))))),
  au (ay (tW w q.se (cg d.sp) _ _ ok.sp (rM hsm.2) d.p.1 d.p.2 false (by simpa using hns)) λaf af af=>au (ay (LY w q.se (cg d.sp) _ _ ok.sp (rM hsm.2) d.p.1 d.p.2 (by simpa using hns)) λsp af af=>
   au (ay (wo w z.D (v.l.map Node.key) v.ep d.p.1 d.p.2 x.key (EX nd hx hxn)) λaf aQ af=>au (ay (iJ w q.ia (stk.map sM) d.e2 (bg (aQ+1)) (by rw[bl];exact nU hsm.1)) λaf af af=>
   au (ay (nu w q.sa (stk.map sV) d.e1 stk.length (bl _) (nU hsm.1)) λlt af af=>au (ay (LX w q.ns (bM d.mp) _ ok.mp d.p.1 d.p.2 (.int (yZ stk.length) lt) hnk (by rw[bl];exact nU hsm.1)) λmp af af=>
   au (ay (iJ w q.sa (stk.map sV) d.e1 (iv d.p) (by rw[bl];exact nU hsm.1)) λaf af af=>
   au (jl (fH.symm▸inner {d with e1:=d.e1+1,e2:=d.e2+1,sp:=sp.1,mp:=mp.1} aQ (newOk ok hx hxn hns hnk hsm sp.2 mp.2)) (λh a=>?pre) (λaf af h' af T af=>⟨(λaf h=>nomatch h),.nil,(λaf h=>nomatch h),T⟩) λd2 h2 h3 af af a2 T2 q2=>au (bu λhp t' K T af af af af=>?fin))))))))),?run⟩
 case pre=>
  have K:Keeps [q.loc,q.sa,q.ia,q.se,q.ns] s.heap h:=a.keeps;have T:=a.lies.top;have cZ:s.heap.objs.size≤aQ:=a.fresh (8,true,aQ,aC "list_iterator" (.ref x.SL) 0) kB (show 8≤8 by decide)
  have hh:∀p∈[(3,true,q.loc,fF w z q d),(4,true,q.sa,ai (stk.map sV++[iv d.p]) (d.e1+1)),(5,true,q.ia,ai (stk.map sM++[bg (aQ+1)]) (d.e2+1)),(6,true,q.se,cg sp.1),(7,true,q.ns,bM mp.1),(8,true,aQ,aC "list_iterator" (.ref x.SL) 0),(9,true,aQ+1,lT aQ)],h.get? p.2.2.1=some p.2.2.2:=λp hp=>a.lies.get (p:=p.2) (c7 (f:=λp:Nat×Bool×Nat×Obj=>p.2) hp);have mU:∀b∈[q.loc,q.sa,q.ia,q.se,q.ns],b∈bN q stk:=λb hb=>inl hb;have FW:(bN q (stk++[g8 d.p x aQ])).Nodup:=by
   rw[kc,cJ];refine⟨dG,by simp[g8],λb hb c hc e=>?_⟩
   have:=j9 b hb;have hc:c=aQ+1∨c=aQ:=b3 hc;exact Jl this e cZ hc
  refine⟨gg (gy hP.lies.left T K λb hb=>ap b (mU b hb)) (AF T FW (λb hb=>?_) ?_ ?_ ?_ ?_ ?_ ?_) λb hb=>?_,AK hP.fr (K.toF []) (λb hb m=>(hP.apart b hb).2.1 (mU b m)) (hh (3,true,q.loc,fF w z q d) aY),λb hb=>⟨(hP.apart b hb).1,λm=>?_,(hP.apart b hb).2.2⟩⟩
  ·rw[kc]at hb;rcases mA hb with hb|hb
   ·exact uc hL hb
   ·have hb:b=aQ+1∨b=aQ:=b3 hb;exact gR hT (Jg hb cZ)
  ·exact hh (3,true,q.loc,fF w z q d) aY
  ·have e:(stk++[g8 d.p x aQ]).map sV=stk.map sV++[iv d.p]:=by exact aL
   rw[e];exact hh (4,true,q.sa,ai (stk.map sV++[iv d.p]) (d.e1+1)) in1
  ·have e:(stk++[g8 d.p x aQ]).map sM=stk.map sM++[bg (aQ+1)]:=by exact aL
   rw[e];exact hh (5,true,q.ia,ai (stk.map sM++[bg (aQ+1)]) (d.e2+1)) bT
  ·exact hh (6,true,q.se,cg sp.1) eW
  ·exact hh (7,true,q.ns,bM mp.1) in4
  ·intro g hg p hp;rcases mA hg with hg|hg
   ·have mp:p.2.1∈stk.flatMap λf=>[f.m,f.tt]:=eF.mpr ⟨g,hg,by
     apply bJ hp<;>(first|exact aY|exact in1)⟩
    exact K.2 p.2.1 _ (λm=>(cJ.mp dG).2.2 p.2.1 m p.2.1 mp rfl) (hL.get (uf hg hp))
   ·obtain rfl:=sA hg;apply bJ hp
    ·exact hh (9,true,aQ+1,lT aQ) CG
    ·exact hh (8,true,aQ,aC "list_iterator" (.ref x.SL) 0) kB
  ·rw[gZ,kc]at hb;rcases mA hb with hb|hb
   ·exact ap b hb
   ·have hb:b=aQ+1∨b=aQ:=b3 hb;intro m;have:=old b m;exact yz this hb cZ
  ·rw[kc]at m;rcases mA m with m|m
   ·exact(hP.apart b hb).2.1 m
   ·obtain⟨o,ho⟩:∃o,s.heap.get? b=some o:=(hP.fr.2.2.mem hb).2.imp λaf h=>h.1;have:=cK ho;have m:b=aQ+1∨b=aQ:=b3 m;exact yz this m cZ
 case fin=>
  refine dY q2 λj1 j2=>?_;have cZ:s.heap.objs.size≤aQ:=a2.fresh (8,true,aQ,aC "list_iterator" (.ref x.SL) 0) kB (show 8≤8 by decide)
  have K2:Keeps [q.loc,q.sa,q.ia,q.se,q.ns] s.heap h2:=a2.keeps;have K:Keeps [] h3 hp:=K;have KK:bw (fU q stk) (q.loc::frs outer) s.heap h3:=((K2.toF _).mono (λa ha=>inl ha) λaf h=>h).trans' j2 λa ha=>by
   unfold fU at*;rw[aL,←fP]at ha;rcases mA ha with ha|ha
   ·exact .inl ha
   ·have ha:a=aQ:=jN ha;exact .inr (Ji ha cZ)
  exact hR d2 hp t' T ⟨hO _ _ _ T (w6 _ _ _ j1) K,KK.trans ((K.toF _).mono (λaf h=>nomatch h) λaf h=>h)⟩
 case run=>
  clear hP hL L1 hR hT hF fH dG ap old j9 a1 a2 a3 a4 b5 b6 b7 a8 a9 iD inner ok hx hxn nd hns hnk hsm hO w6;(apply cO hw;kernel_rfl!)
theorem acs(w0:ao)(fb fc:Bool)(z:SS)(v:SV)(q:FQ)(outer:List Env)(d:FD)(seen:List Int)(stk:List SF)(ok:dW (ak w0 fb fc) v d seen stk)(hns:d.p.1∈seen)(hnk:d.p.1∉stk.map (·.n))(hsm:seen.length<900)
  (J:FD→az→Prop) (O:FD→az→Prop) (hJ:∀d2 h h',aR (kt (ak w0 fb fc).params) h'→J d2 h→Keeps [] h h'→J d2 h') (hO:∀d2 h h',aR (kt (ak w0 fb fc).params) h'→O d2 h→Keeps [] h h'→O d2 h')
  (inner:cT (ak w0 fb fc) (some (cD q.loc::outer)) 83 (iZ q.loc) (cM (ak w0 fb fc) z v q outer d stk) FD (λaf=>.ok .next) (λd2 h h'=>J d2 h'∧bw (fU q stk) (q.loc::frs outer) h h'))
  (ih:∀d2,cT (ak w0 fb fc) (some (cD q.loc::outer)) 81 (jH q.loc) (J d2) FD (λaf=>.ok .next) (λd' h h'=>O d' h'∧bw (fU q stk) (q.loc::frs outer) h h')):
  cT (ak w0 fb fc) (some (cD q.loc::outer)) 81 (jH q.loc) (cM (ak w0 fb fc) z v q outer d stk) FD (λaf=>.ok .next) (λd' h h'=>O d' h'∧bw (fU q stk) (q.loc::frs outer) h h'):=by
 generalize hw:ak w0 fb fc=w at*;refine j5 rfl rfl λA s R hF hT hP hR=>?_;have fH:=AO hF q.loc;have hL:=hP.lies.right;have L1:Lies (kt w.params) s.heap [(false,q.loc,fF w z q d),(false,q.se,cg d.sp),(false,q.ns,bM d.mp)]:=by
  refine hL.part (λp hp=>.inr ?_) ?_
  ·apply cB hp
   ·exact⟨rfl,true,.head _⟩
   ·exact⟨rfl,true,.tail _ (.tail _ (.tail _ (.head _)))⟩
   ·exact⟨rfl,true,.tail _ (.tail _ (.tail _ (.tail _ (.head _))))⟩
  ·rw[gZ];exact .cons_cons _ (.cons _ (.cons _ (.cons_cons _ (.cons_cons _ (eX _)))))
 have hsys:=MA hT (uc hL (a:=q.ns) (.tail _ (.tail _ (.tail _ (.tail _ (.head _))))));refine⟨_,L1,aq (dec 68174019) (.cut 119 _ [(1,false,q.se,cg d.sp)] Unit _ (λaf=>[]) (λaf=>[]) λaf af af=>
  aq (dec 85217475) (.cut 119 _ [(2,false,q.ns,bM d.mp)] Unit _ (λaf=>[]) (λaf=>[]) λaf af af=>
  aq (dec 0) (.eH (A.under (jH q.loc)).frames 83 _ [] FD _ (λaf=>[]) λd2 h3 af af=>aq (dec 0) (.eH A.frames 81 _ [] FD _ (λaf=>[]) λd' h5 af af=>aq (dec 0) (.done (.ok .next) [] []))))),
  au (ay (tW w q.se (cg d.sp) _ _ ok.sp (rM hsm) d.p.1 d.p.2 true (by simpa using hns)) λaf af af=>au (ay (LW w q.ns (bM d.mp) _ ok.mp hsys d.p.1 d.p.2 false (by simpa using hnk)) λaf af af=>
   au (jl (fH.symm▸inner) (λh a=>hP.ext a.lies.top a.keeps) (λaf af h' af T af=>⟨(λaf h=>nomatch h),.nil,(λaf h=>nomatch h),T⟩) λd2 h2 h3 af af a2 T2 q2=>au (jl (hF.symm▸ih d2) (λh a=>hJ _ _ _ a.lies.top q2.1 a.keeps) (λaf af h' af T af=>⟨(λaf h=>nomatch h),.nil,(λaf h=>nomatch h),T⟩) λd' h4 h5 af af a4 T4 q4=>au (bu λhp t' K T af af af af=>?fin))))),?run⟩
 case fin=>
  refine dY q2 λj1 j2=>?_;refine dY q4 λo1 o2=>?_;have K2:Keeps [] s.heap h2:=a2.keeps;have K3:Keeps [] h3 h4:=a4.keeps;have K:Keeps [] h5 hp:=K;exact hR d' hp t' T ⟨hO _ _ _ T o1 K,((((K2.toF _).mono (λaf h=>nomatch h) λaf h=>h).trans (j2.trans ((K3.toF _).mono (λaf h=>nomatch h) λaf h=>h))).trans o2).trans ((K.toF _).mono (λaf h=>nomatch h) λaf h=>h)⟩
 case run=>
  clear hP hL L1 hR hT hF fH hsys inner ok hns hnk hsm hO ih hJ;(apply cO hw;kernel_rfl!)
theorem acu(w0:ao)(fb fc:Bool)(z:SS)(v:SV)(q:FQ)(outer:List Env)(d:FD)(seen:List Int)(stk:List SF)(ok:dW (ak w0 fb fc) v d seen stk)(hns:d.p.1∈seen)(hnk:d.p.1∉stk.map (·.n))(hsm:seen.length<900)
  (J:FD→az→Prop) (O:FD→az→Prop) (w6:∀d2 h,J d2 h→O d2 h) (hO:∀d2 h h',aR (kt (ak w0 fb fc).params) h'→O d2 h→Keeps [] h h'→O d2 h')
  (inner:cT (ak w0 fb fc) (some (cD q.loc::outer)) 83 (iZ q.loc) (cM (ak w0 fb fc) z v q outer d stk) FD (λaf=>.ok .brk) (λd2 h h'=>J d2 h'∧bw (fU q stk) (q.loc::frs outer) h h'))
   :
  cT (ak w0 fb fc) (some (cD q.loc::outer)) 81 (jH q.loc) (cM (ak w0 fb fc) z v q outer d stk) FD (λaf=>.ok .next) (λd' h h'=>O d' h'∧bw (fU q stk) (q.loc::frs outer) h h'):=by
 generalize hw:ak w0 fb fc=w at*;refine j5 rfl rfl λA s R hF hT hP hR=>?_;have fH:=AO hF q.loc;have hL:=hP.lies.right;have L1:Lies (kt w.params) s.heap [(false,q.loc,fF w z q d),(false,q.se,cg d.sp),(false,q.ns,bM d.mp)]:=by
  refine hL.part (λp hp=>.inr ?_) ?_
  ·apply cB hp
   ·exact⟨rfl,true,.head _⟩
   ·exact⟨rfl,true,.tail _ (.tail _ (.tail _ (.head _)))⟩
   ·exact⟨rfl,true,.tail _ (.tail _ (.tail _ (.tail _ (.head _))))⟩
  ·rw[gZ];exact .cons_cons _ (.cons _ (.cons _ (.cons_cons _ (.cons_cons _ (eX _)))))
 have hsys:=MA hT (uc hL (a:=q.ns) (.tail _ (.tail _ (.tail _ (.tail _ (.head _))))));refine⟨_,L1,aq (dec 68174019) (.cut 119 _ [(1,false,q.se,cg d.sp)] Unit _ (λaf=>[]) (λaf=>[]) λaf af af=>
  aq (dec 85217475) (.cut 119 _ [(2,false,q.ns,bM d.mp)] Unit _ (λaf=>[]) (λaf=>[]) λaf af af=>
  aq (dec 0) (.eH (A.under (jH q.loc)).frames 83 _ [] FD _ (λaf=>[]) λd2 h3 af af=>aq (dec 0) (.done (.ok .next) [] [])))),
  au (ay (tW w q.se (cg d.sp) _ _ ok.sp (rM hsm) d.p.1 d.p.2 true (by simpa using hns)) λaf af af=>au (ay (LW w q.ns (bM d.mp) _ ok.mp hsys d.p.1 d.p.2 false (by simpa using hnk)) λaf af af=>
   au (jl (fH.symm▸inner) (λh a=>hP.ext a.lies.top a.keeps) (λaf af h' af T af=>⟨(λaf h=>nomatch h),.nil,(λaf h=>nomatch h),T⟩) λd2 h2 h3 af af a2 T2 q2=>au (bu λhp t' K T af af af af=>?fin)))),?run⟩
 case fin=>
  refine dY q2 λj1 j2=>?_;have K2:Keeps [] s.heap h2:=a2.keeps;have K:Keeps [] h3 hp:=K;exact hR d2 hp t' T ⟨hO _ _ _ T (w6 _ _ j1) K,(((K2.toF _).mono (λaf h=>nomatch h) λaf h=>h).trans j2).trans ((K.toF _).mono (λaf h=>nomatch h) λaf h=>h)⟩
 case run=>
  clear hP hL L1 hR hT hF fH hsys inner ok hns hnk hsm hO w6;(apply cO hw;kernel_rfl!)
inductive nA(g:G):List Int→List (Int×List Int)→Int→List Int→Prop
 |MB {seen:List Int} {stk rest ex:List (Int×List Int)} {node n s q:Int} {vs ss out:List Int}:node∉seen→node∉stk.map (·.1)→stk.length<900∧seen.length<900→(node,q,vs)∈g→stk++[(node,vs)]=rest++[(n,s::ss)]++ex→(∀e∈ex,e.2=[])→
   nA g (seen++[node]) (rest++[(n,ss)]) s out→nA g seen stk node out
 |MC {seen:List Int} {stk:List (Int×List Int)} {node q:Int} {vs:List Int}:node∉seen→node∉stk.map (·.1)→stk.length<900∧seen.length<900→(node,q,vs)∈g→(∀e∈stk++[(node,vs)],e.2=[])→nA g seen stk node (seen++[node])
 |MD {seen:List Int} {stk rest ex:List (Int×List Int)} {node n s:Int} {ss out:List Int}:node∈seen→node∉stk.map (·.1)→seen.length<900→stk=rest++[(n,s::ss)]++ex→(∀e∈ex,e.2=[])→
   nA g seen (rest++[(n,ss)]) s out→nA g seen stk node out
 |ME {seen:List Int} {stk:List (Int×List Int)} {node:Int}:node∈seen→node∉stk.map (·.1)→seen.length<900→(∀e∈stk,e.2=[])→nA g seen stk node seen
noncomputable def i7(f:SF):Int×List Int:=(f.n,(f.x.vs.drop f.j).map (·.1))
theorem AP(stk:List SF):(stk.map i7).map (·.1)=stk.map (·.n):=by
 rw[bQ];rfl
theorem AQ{f:SF}(h:(i7 f).2=[]):FU f:=vp.mp h
theorem MF{stk:List SF}{rest ex:List (Int×List Int)}{n s:Int}{ss:List Int}(h:stk.map i7=rest++[(n,s::ss)]++ex):
  ∃R f E p r,stk=R++[f]++E∧R.map i7=rest∧E.map i7=ex∧f.n=n∧f.x.vs.drop f.j=p::r∧p.1=s∧r.map (·.1)=ss:=by
 refine yD (JF.mp h) λRF E aG h1 h2=>?_;subst aG;refine yD (JF.mp h1) λR F aG h3 h4=>?_;subst aG;obtain⟨f,rfl,h5⟩:∃f,F=[f]∧i7 f=(n,s::ss):=by
  cases F with
  |nil=>cases h4
  |cons f F'=>
   rw[bP]at h4;injection h4 with h5 h6
   exact⟨f,by rw[vp.mp h6],h5⟩
 have h7:(f.x.vs.drop f.j).map (·.1)=s::ss:=congrArg Prod.snd h5;cases q:f.x.vs.drop f.j with
 |nil=>rw[q]at h7;cases h7
 |cons p r=>
  rw[q,bP]at h7;injection h7 with h8 h9
  exact⟨R,f,E,p,r,rfl,h3,h2,(congrArg Prod.fst h5),q,h8,h9⟩
theorem MG{f:SF}{p:Int×Nat}{r:List (Int×Nat)}(h:f.x.vs.drop f.j=p::r):i7 (nextOf f)=(f.n,r.map (·.1)):=by
 delta i7 nextOf;have:f.x.vs.drop (f.j+1)=r:=by
  rw[←iR,h];rfl
 show(f.n,(f.x.vs.drop (f.j+1)).map (·.1))=_;rw[this]
theorem MH{q:FQ}{R E:List SF}{f:SF}:∀a∈fU q (R++[nextOf f]),a∈fU q (R++[f]++E):=λa ha=>by
 unfold fU at*;rw[aL]at ha;rw[aL,aL];rcases mA ha with ha|ha
 ·exact inl ha
 ·rw[n8];right
  exact inl ha
theorem acv(w0:ao)(fb fc:Bool)(z:SS)(v:SV)(q:FQ)(outer:List Env)(nd:(names v).Nodup){seen:List Int}{st:List (Int×List Int)}{node:Int}{out:List Int}(D:nA v.g seen st node out):∀(d:FD) (stk:List SF),stk.map i7=st→d.p.1=node→dW (ak w0 fb fc) v d seen stk→
  cT (ak w0 fb fc) (some (cD q.loc::outer)) 81 (jH q.loc) (cM (ak w0 fb fc) z v q outer d stk) FD (λaf=>.ok .next) (λd' h h'=>(cM (ak w0 fb fc) z v q outer d' [] h'∧dW (ak w0 fb fc) v d' out [])∧bw (fU q stk) (q.loc::frs outer) h h'):=by
 induction D with
 |@MB seen st rest ex node n s qq vs ss out h1 h2 h3 h4 h5 h6 _ ih=>
  intro d stk e1 e2 ok;subst e1;subst e2;rw[AP]at h2;rw[bl]at h3;refine ly (Fe h4) λx hx hxn af hxv=>?_;have habs:∀tt,(stk++[g8 d.p x tt]).map i7=rest++[(n,s::ss)]++ex:=λtt=>by
   rw[←h5,aL,←hxv];rfl
  refine acq w0 fb fc z v q outer d seen stk ok x hx hxn nd h1 h2 h3
   (λtt d2 h=>∃R f E p r,stk++[g8 d.p x tt]=R++[f]++E∧R.map i7=rest∧f.n=n∧f.x.vs.drop f.j=p::r∧r.map (·.1)=ss∧cM (ak w0 fb fc) z v q outer d2 (R++[nextOf f]) h∧dW (ak w0 fb fc) v d2 (seen++[d.p.1]) (R++[nextOf f])∧d2.p.1=s)
   (λd' h=>cM (ak w0 fb fc) z v q outer d' [] h∧dW (ak w0 fb fc) v d' out []) ?_ ?_ ?_ ?_
  ·rintro tt d2 h h' T ⟨R,f,E,p,r,a1,a2,a3,a4,a5,a6,a7⟩ K
   exact⟨R,f,E,p,r,a1,a2,a3,a4,a5,a6.ext T K,a7⟩
  ·rintro d2 h h' T ⟨a,b⟩ K
   exact⟨a.ext T K,b⟩
  ·intro d1 tt qS;refine Ju (MF (habs tt)) λR f E p r a1 a2 a3 a4 a5 a6 a7=>?_;rw[a1]at qS⊢;exact(My w0 fb fc z v q outer (seen++[d.p.1]) R f p r a5 E.length E rfl (λg hg=>AQ (h6 _ (a3▸c7 hg))) d1 qS).weak λd2 h h' af k=>⟨d2,rfl,⟨R,f,E,p,r,rfl,a2,a4,a5,a7,k.1.1,k.1.2.1,k.1.2.2▸a6⟩,k.2⟩
  ·intro d2 tt A s' Rr hA hF hT hP hR;obtain⟨R,f,E,p,r,a1,a2,a3,a4,a5,a6,a7,a8⟩:=hP;refine ih d2 (R++[nextOf f]) ?_ a8 a7 A s' Rr hA hF hT a6 λd' h' t' T k=>hR d' h' t' T ⟨k.1,k.2.mono (λa ha=>?_) λaf h=>h⟩
   ·rw[aL,a2];show rest++[i7 (nextOf f)]=_;rw[MG a4,a3,a5]
   ·rw[a1];exact MH a ha
 |@MC seen st node qq vs h1 h2 h3 h4 h5=>
  intro d stk e1 e2 ok;subst e1;subst e2;rw[AP]at h2;rw[bl]at h3;refine ly (Fe h4) λx hx hxn af hxv=>?_;have habs:∀tt,(stk++[g8 d.p x tt]).map i7=stk.map i7++[(d.p.1,vs)]:=λtt=>by
   rw[aL,←hxv];rfl
  refine acr w0 fb fc z v q outer d seen stk ok x hx hxn nd h1 h2 h3
   (λtt d' h=>cM (ak w0 fb fc) z v q outer d' [] h∧dW (ak w0 fb fc) v d' (seen++[d.p.1]) [])
   (λd' h=>cM (ak w0 fb fc) z v q outer d' [] h∧dW (ak w0 fb fc) v d' (seen++[d.p.1]) []) (λaf af af h=>h) ?_ ?_
  ·rintro d2 h h' T ⟨a,b⟩ K
   exact⟨a.ext T K,b⟩
  ·intro d1 tt qS;exact Mx w0 fb fc z v q outer (seen++[d.p.1]) _ _ rfl (λg hg=>AQ (h5 _ (habs tt▸c7 hg))) d1 qS
 |@MD seen st rest ex node n s ss out h1 h2 h3 h5 h6 _ ih=>
  intro d stk e1 e2 ok;subst e1;subst e2;rw[AP]at h2;refine Ju (MF h5) λR f E p r a1 a2 a3 a4 a5 a6 a7=>?_;subst a1;refine acs w0 fb fc z v q outer d seen (R++[f]++E) ok h1 h2 h3
   (λd2 h=>cM (ak w0 fb fc) z v q outer d2 (R++[nextOf f]) h∧dW (ak w0 fb fc) v d2 seen (R++[nextOf f])∧d2.p.1=s)
   (λd' h=>cM (ak w0 fb fc) z v q outer d' [] h∧dW (ak w0 fb fc) v d' out []) ?_ ?_ ?_ ?_
  ·rintro d2 h h' T ⟨a6,a7⟩ K
   exact⟨a6.ext T K,a7⟩
  ·rintro d2 h h' T ⟨a,b⟩ K
   exact⟨a.ext T K,b⟩
  ·exact(My w0 fb fc z v q outer seen R f p r a5 E.length E rfl (λg hg=>AQ (h6 _ (a3▸c7 hg))) d ok).weak λd2 h h' af k=>⟨d2,rfl,⟨k.1.1,k.1.2.1,k.1.2.2▸a6⟩,k.2⟩
  ·intro d2 A s' Rr hA hF hT hP hR;refine dJ hP λb6 b7 b8=>?_;refine ih d2 (R++[nextOf f]) ?_ b8 b7 A s' Rr hA hF hT b6 λd' h' t' T k=>hR d' h' t' T ⟨k.1,k.2.mono (λa ha=>MH a ha) λaf h=>h⟩;rw[aL,a2];show rest++[i7 (nextOf f)]=_;rw[MG a5,a4,a7]
 |@ME seen st node h1 h2 h3 h5=>
  intro d stk e1 e2 ok;subst e1;subst e2;rw[AP]at h2;refine acu w0 fb fc z v q outer d seen stk ok h1 h2 h3
   (λd' h=>cM (ak w0 fb fc) z v q outer d' [] h∧dW (ak w0 fb fc) v d' seen [])
   (λd' h=>cM (ak w0 fb fc) z v q outer d' [] h∧dW (ak w0 fb fc) v d' seen []) (λaf af h=>h) ?_ ?_
  ·rintro d2 h h' T ⟨a,b⟩ K
   exact⟨a.ext T K,b⟩
  ·exact Mx w0 fb fc z v q outer seen _ _ rfl (λg hg=>AQ (h5 _ (c7 hg))) d ok
inductive kP(g:G):List Int→List Int→Prop
 |nil (seen:List Int):kP g [] seen
 |skip {n:Int} {r seen:List Int}:n∈seen→seen.length≤800→kP g r seen→kP g (n::r) seen
 |go {n:Int} {r seen out:List Int}:n∉seen→seen.length≤800→nA g seen [] n out→kP g r out→kP g (n::r) seen
structure FE where
 sl:Array (Option aj)
 e1:Nat
 e2:Nat
 sp:Array (Int×aj)×Nat×om
 mp:List bx×Nat
 fr:Option (Nat×aj)
def qT(w:ao)(z:SS)(q:FQ)(d:FE):Obj:=AA w d.sl z q.sa q.ia q.se q.ns q.k1 q.k2 q.k3 q.k4 q.k5 q.k6 d.fr
def AR(w:ao)(z:SS)(q:FQ)(d:FE):Led:=
 [(true,q.loc,qT w z q d),(true,q.sa,ai [] d.e1),(true,q.ia,ai [] d.e2),(true,q.se,cg d.sp),(true,q.ns,bM d.mp)]
def w7(z:SS)(v:SV)(it i:Nat):Led:=[(true,it,cG "dict_keyiterator" (.ref z.D) i (b9 v).length v.ep)]
structure acw(w:ao)(z:SS)(v:SV)(q:FQ)(outer:List Env)(it i:Nat)(d:FE)(h:az):Prop where
 lies:Lies (kt w.params) h (aO w z v++(AR w z q d++w7 z v it i))
 fr:h.FunFrames j8 (cD q.loc::outer)
 apart:∀b∈frs outer,b∉aE z v∧b∉i6 q++[it]∧(kt w.params).get b=none
theorem acy{w:ao}{z:SS}{q:FQ}{outer:List Env}{d':FE}{h h':az}{U F:List Nat}(hl:h.FunFrames j8 (cD q.loc::outer))(K:bw U F h h')(hU:∀b∈frs outer,b∉U)(e:h'.get? q.loc=some (qT w z q d')):h'.FunFrames j8 (cD q.loc::outer):=
 ⟨hl.1,⟨q.loc,_,rfl,tZ _,e,λvs h=>by cases h⟩,K.frames hl.2.2 hU⟩
theorem acz{A:aV}{f:Option (List Env)}(h:A.frames=f)(it loc:Nat):(A.under (Ay it loc)).frames=f:=by
 show pushEnvs (Ay it loc).envs A.frames=_;rw[vM,h];cases f<;>rfl
theorem acA(w0:ao)(fb fc:Bool)(z:SS)(v:SV)(q:FQ)(outer:List Env)(it:Nat)(nd:(names v).Nodup):∀(r:List Node) (i:Nat) (d:FE) (seen:List Int),v.l.drop i=r→kP v.g (r.map (·.n)) seen→fT (ak w0 fb fc) (bM d.mp) []→(cg d.sp).IntSetOf (λk=>decide (k∈seen)) seen.length→
  cT (ak w0 fb fc) (some (cD q.loc::outer)) 79 (Ay it q.loc) (acw (ak w0 fb fc) z v q outer it i d) Unit (λaf=>.ok .next) (λaf h h'=>bw (i6 q++[it]) (q.loc::frs outer) h h'):=by
 intro r;have AU:=λ{seen st node out} D d stk e1 e2 ok=>acv w0 fb fc z v q outer nd (seen:=seen) (st:=st) (node:=node) (out:=out) D d stk e1 e2 ok;generalize hw:ak w0 fb fc=w at*;induction r with
 |nil=>
  intro i d seen hr hD hmp o9;refine j5 rfl rfl λA s R hF hT hP hR=>?_;have ap:∀b∈i6 q++[it],b∉aE z v:=λb hb=>hP.lies.eL hb;have L0:Lies (kt w.params) s.heap ([(false,z.D,cu (b9 v) v.ep)]++w7 z v it i):=by
   refine Lies.join (hP.lies.left.pick (λp hp=>.inr ?_) (by simp[adr])) (hP.lies.right.right (l:=AR w z q d)) λb hb hc=>ap b (inr hc) (sA hb▸bL.2.2)
   rw[sA hp];exact⟨rfl,true,iz.2.2⟩
  refine⟨_,L0,aq (dec 260) (.cut 110 _ [(0,false,z.D,cu (b9 v) v.ep),(1,true,it,cG "dict_keyiterator" (.ref z.D) i (b9 v).length v.ep)] Nat _ (λaf=>[(1,it,cG "dict_keyiterator" .none i (b9 v).length v.ep)]) _
    λx af af=>aq (dec 6) (.done (.ok .next) [] [])),au (ay (abN w it z.D i v.ep (b9 v) (LQ hr)) λx af af=>au (bu λhp t' K T hu af af af=>?_)),?_⟩
  ·exact hR () hp t' T ((K.toF _).mono (λa ha=>inr ha) λaf h=>h)
  ·clear hP L0 hR hT hr hD hmp o9 hF ap AU;(apply cO hw;kernel_rfl!)
 |cons y r ih=>
  intro i d seen hr hD hmp o9;have hr':v.l.drop (i+1)=r:=by
   rw[←iR,hr];rfl
  have hy:y∈v.l:=by
   have:y∈v.l.drop i:=by rw[hr];exact .head _
   exact CV this
  rw[bP]at hD;refine j5 rfl rfl λA s R hF hT hP hR=>?_;have fH:=acz hF it q.loc;have ap:∀b∈i6 q++[it],b∉aE z v:=λb hb=>hP.lies.eL hb;have FY:(i6 q++[it]).Nodup:=hP.lies.right.nd;have L0:Lies (kt w.params) s.heap ([(false,z.D,cu (b9 v) v.ep)]++(AR w z q d++w7 z v it i)):=by
   refine Lies.join (hP.lies.left.pick (λp hp=>.inr ?_) (by simp[adr])) hP.lies.right λb hb hc=>ap b hc (sA hb▸bL.2.2)
   rw[sA hp];exact⟨rfl,true,iz.2.2⟩
  cases hD with
  |skip h1 h2 h3=>
   refine⟨_,L0,aq (dec 585) (.cut 119 _ [(0,false,z.D,cu (b9 v) v.ep),(6,true,it,cG "dict_keyiterator" (.ref z.D) i (b9 v).length v.ep)] Unit _ (λaf=>[(6,it,cG "dict_keyiterator" (.ref z.D) (i+1) (b9 v).length v.ep)]) (λaf=>[]) λaf af tk0=>
    aq (dec 488671035652) (.cut 119 _ [(4,false,q.se,cg d.sp)] Unit _ (λaf=>[]) (λaf=>[]) λaf af af=>
    aq (dec 0) (.eH A.frames 79 _ [(1,true,q.loc,qT w z q {d with fr:=some (bE d.fr tk0,.int y.n y.t)}),(2,true,q.sa,ai [] d.e1),(3,true,q.ia,ai [] d.e2),(4,true,q.se,cg d.sp),(5,true,q.ns,bM d.mp),(6,true,it,cG "dict_keyiterator" (.ref z.D) (i+1) (b9 v).length v.ep)] Unit _ (λaf=>[]) λaf h3 af af=>aq (dec 0) (.done (.ok .next) [] [])))),
    au (ay (LO w it z.D i v.ep (b9 v) _ (Ax hr)) λaf af tk0=>au (ay (tW w q.se (cg d.sp) _ _ o9 (Ip h2) y.n y.t true (by simpa using h1)) λaf af af=>
     au (jl (hF.symm▸ih (i+1) {d with fr:=some (bE d.fr tk0,.int y.n y.t)} seen hr' h3 hmp o9) (λh a=>?qJ) (λaf af h' af T af=>⟨(λaf h=>nomatch h),.nil,(λaf h=>nomatch h),T⟩) λaf h2 h3 af af a2 T2 q2=>au (bu λhp t' K T af af af af=>?wH)))),?wI⟩
   case qJ=>
    have K:Keeps [q.loc,q.sa,q.ia,q.se,q.ns,it] s.heap h:=a.keeps;exact⟨gg (gy hP.lies.left a.lies.top K ap) a.lies ap,acy hP.fr (K.toF []) (λb hb m=>(hP.apart b hb).2.1 m) (d':={d with fr:=some (bE d.fr tk0,.int y.n y.t)}) (a.lies.get (p:=(true,q.loc,qT w z q {d with fr:=some (bE d.fr tk0,.int y.n y.t)})) (.head _)),hP.apart⟩
   case wH=>
    exact hR () hp t' T (((a2.keeps.toF _).trans q2).trans ((K.toF _).mono (λaf h=>nomatch h) λaf h=>h))
   case wI=>
    clear hP L0 hR hT hr hr' hmp o9 hF ap AU ih fH FY hy h1 h2 h3;subst hw;obtain⟨sl,e1,e2,sp,mp,fr⟩:=d;(apply iw (fb:=fb) fr;kernel_rfl!)
  |go h1 h2 hg h3=>
   rename_i out
   refine⟨_,L0,aq (dec 585) (.cut 119 _ [(0,false,z.D,cu (b9 v) v.ep),(6,true,it,cG "dict_keyiterator" (.ref z.D) i (b9 v).length v.ep)] Unit _ (λaf=>[(6,it,cG "dict_keyiterator" (.ref z.D) (i+1) (b9 v).length v.ep)]) (λaf=>[]) λaf af tk0=>
    aq (dec 488671035652) (.cut 119 _ [(4,false,q.se,cg d.sp)] Unit _ (λaf=>[]) (λaf=>[]) λaf af af=>
    aq (dec 0) (.eH (A.under (Ay it q.loc)).frames 81 _ [(1,true,q.loc,qT w z q {d with fr:=some (bE d.fr tk0,.int y.n y.t)}),(2,true,q.sa,ai [] d.e1),(3,true,q.ia,ai [] d.e2),(4,true,q.se,cg d.sp),(5,true,q.ns,bM d.mp),(6,true,it,cG "dict_keyiterator" (.ref z.D) (i+1) (b9 v).length v.ep)] FD _ (λaf=>[]) λd' h3 af af=>
    aq (dec 0) (.eH A.frames 79 _ [] Unit _ (λaf=>[]) λaf h5 af af=>aq (dec 0) (.done (.ok .next) [] []))))),
    au (ay (LO w it z.D i v.ep (b9 v) _ (Ax hr)) λaf af tk0=>au (ay (tW w q.se (cg d.sp) _ _ o9 (Ip h2) y.n y.t false (by simpa using h1)) λaf af af=>
     au (jl (fH.symm▸AU hg ⟨d.sl,d.e1,d.e2,d.sp,d.mp,bE d.fr tk0,(y.n,y.t)⟩ [] rfl rfl ⟨hmp,o9,.nil,(λaf h=>nomatch h),⟨by trivial,by exact Sh h2⟩⟩) (λh a=>?Fj) (λaf af h' af T af=>⟨(λaf h=>nomatch h),.nil,(λaf h=>nomatch h),T⟩) λd' h2 hh3 af af a2 T2 q2=>
     au (jl (hF.symm▸ih (i+1) ⟨d'.sl,d'.e1,d'.e2,d'.sp,d'.mp,some (d'.k7,iv d'.p)⟩ out hr' h3 q2.1.2.mp q2.1.2.sp) (λh a=>?EK) (λaf af h' af T af=>⟨(λaf h=>nomatch h),.nil,(λaf h=>nomatch h),T⟩) λaf h4 h5 af af a4 T4 q4=>au (bu λhp t' K T af af af af=>?acB))))),?acC⟩
   case Fj=>
    have K:Keeps [q.loc,q.sa,q.ia,q.se,q.ns,it] s.heap h:=a.keeps;have O:Lies (kt w.params) h (jI w z q ⟨d.sl,d.e1,d.e2,d.sp,d.mp,bE d.fr tk0,(y.n,y.t)⟩ []):=Lies.left (l':=w7 z v it (i+1)) a.lies;exact⟨gg (gy hP.lies.left a.lies.top K ap) O λb hb=>ap b (inl hb),AK hP.fr (K.toF []) (λb hb m=>(hP.apart b hb).2.1 m) (d':=⟨d.sl,d.e1,d.e2,d.sp,d.mp,bE d.fr tk0,(y.n,y.t)⟩) (O.get (p:=(true,q.loc,fF w z q ⟨d.sl,d.e1,d.e2,d.sp,d.mp,bE d.fr tk0,(y.n,y.t)⟩)) (.head _)),
     λb hb=>⟨(hP.apart b hb).1,λm=>(hP.apart b hb).2.1 (inl m),(hP.apart b hb).2.2⟩⟩
   case EK=>
    have P:=q2.1.1.ext a.lies.top a.keeps;have F0:it∉fU q []∧it∉q.loc::frs outer:=by
     have h1:=(cJ.mp FY).2.2;refine⟨λm=>h1 it m it (.head _) rfl,λm=>?_⟩;rcases aM.mp m with m|m
     ·exact h1 q.loc (.head _) it (.head _) m.symm
     ·exact(hP.apart it m).2.1 (inr (.head _))
    refine⟨?_,P.fr,hP.apart⟩;refine gg P.lies.left (P.lies.right.join (Lies.one (a.keeps.2 it _ (λh=>nomatch h) ((q2.2.2 it _ F0.1 (a2.lies.get (p:=(true,it,cG "dict_keyiterator" (.ref z.D) (i+1) (b9 v).length v.ep)) kB)).1 F0.2)) (hP.lies.right.right.off (true,it,cG "dict_keyiterator" (.ref z.D) i (b9 v).length v.ep) (.head _) rfl) a.lies.top) λb hb hc=>?_) λb hb=>ap b hb;exact F0.1 ((sA hc:b=it)▸hb)
   case acB=>
    refine hR () hp t' T (((((a2.keeps.toF _).trans (q2.2.mono (λa ha=>?_) λaf h=>h)).trans ((a4.keeps.toF _).mono (λaf h=>nomatch h) λaf h=>h)).trans q4).trans ((K.toF _).mono (λaf h=>nomatch h) λaf h=>h));have ha:a∈i6 q++[]:=ha;rw[dZ]at ha;exact JN [it] ha
   case acC=>
    clear hP L0 hR hT hr hr' hmp o9 hF ap AU ih fH FY hy h1 h2 h3 hg;subst hw;obtain⟨sl,e1,e2,sp,mp,fr⟩:=d;(apply iw (fb:=fb) fr;kernel_rfl!)
theorem AV{A:aV}{l:List Env}(h:A.frames=some l)(b:List bR)(env:Env):(A.under (.func b env)).frames=some (env::l):=by
 show pushEnvs (Code.func b env).envs A.frames=_;rw[vM,h];rfl
noncomputable def ug(w:ao):Bool:=match w.params.followText "set-order" with
 |false=>true
 |true=>false
structure pe(w:ao)(z:SS)(v:SV)(outer:List Env)(h:az):Prop where
 fr:h.FunFrames j8 outer
 apart:∀b∈frs outer,b∉aE z v∧(kt w.params).get b=none
theorem FunFrames.lt{h:az}{l:List Env}(hl:h.FunFrames j8 l){b:Nat}(hb:b∈frs l):b<h.objs.size:=by
 refine Jv (hl.mem hb) λaf o ho af=>?_;exact cK ho
theorem acD(loc:Nat):(cD loc).scope.kind≠.module:=by
 show(fScope tX).kind≠.module;have:(fScope tX).kind=.function:=by kernel_rfl!
 rw[this];decide
theorem find_spec(w0:ao)(fb fc:Bool)(z:SS)(hz:236≤z.D)(v:SV)(outer:List Env)(nd:(names v).Nodup)(hD:kP v.g (names v) []):
  cT (ak w0 fb fc) (some outer) 77 (.call (.ref 182) ⟨[.ref z.S],[]⟩) (λh=>Lies (kt (ak w0 fb fc).params) h (aO (ak w0 fb fc) z v)∧pe (ak w0 fb fc) z v outer h) Unit (λaf=>.ok (.ret .none)) (λaf h h'=>bw [] (frs outer) h h'):=by
 obtain⟨zS,zd,zD,uh,um,uo,uq⟩:=z;obtain⟨D0,rfl⟩:∃k,zD=k+236:=⟨zD-236,by have:236≤zD:=hz;exact B9 this⟩
 clear hz;have jq:=λq it d=>acA w0 fb fc ⟨zS,zd,D0+236,uh,um,uo,uq⟩ v q outer it nd v.l 0 d [] rfl hD;generalize F1:(⟨zS,zd,D0+236,uh,um,uo,uq⟩:SS)=z at*;generalize hw:ak w0 fb fc=w at*;refine j5 rfl rfl λA s R hF hT hP hR=>?_;refine dY hP λhL hO=>?_;have old:=lM hL;have L0:Lies (kt w.params) s.heap [(false,z.S,bY z.d),(false,z.d,bH w z v),(false,z.D,bU (v.l.map Node.key) v.ep)]:=hL.part (λp hp=>.inr (by
   apply cB hp
   ·exact⟨rfl,true,iz.1⟩
   ·exact⟨rfl,true,iz.2.1⟩
   ·exact⟨rfl,true,iz.2.2⟩)) (by
  rw[cP];exact .cons_cons _ (.cons_cons _ (.cons_cons _ (eX _))))
 have fH:=AV hF (fBody tX) (cD s.heap.objs.size);refine⟨_,L0,aq (dec 351149675003437245077694344246859825692749712434310557344287992790508149053238329350824001) (.eH (A.under (.func (fBody tX) (cD s.heap.objs.size))).frames 79 _ [(3,true,s.heap.objs.size,qT w z (FQ.mk s.heap.objs.size (s.heap.objs.size+1) (s.heap.objs.size+2) (s.heap.objs.size+3) (s.heap.objs.size+4) s.toks (s.toks+2) (s.toks+3) (s.toks+4) (s.toks+5) (s.toks+6)) (FE.mk #[] 0 0 (#[],0,.fresh 0 0 (ug w)) ([],0) none)),(4,true,s.heap.objs.size+1,ai [] 0),(5,true,s.heap.objs.size+2,ai [] 0),(6,true,s.heap.objs.size+3,cg (#[],0,.fresh 0 0 (ug w))),(7,true,s.heap.objs.size+4,bM ([],0)),(8,true,s.heap.objs.size+5,cG "dict_keyiterator" (.ref z.D) 0 (b9 v).length v.ep)] Unit _ (λaf=>[]) λaf h3 af af=>
  aq (dec 0) (.done (.ok (.ret .none)) [] [])),
  au (jl (fH.symm▸jq (FQ.mk s.heap.objs.size (s.heap.objs.size+1) (s.heap.objs.size+2) (s.heap.objs.size+3) (s.heap.objs.size+4) s.toks (s.toks+2) (s.toks+3) (s.toks+4) (s.toks+5) (s.toks+6)) (s.heap.objs.size+5) (FE.mk #[] 0 0 (#[],0,.fresh 0 0 (ug w)) ([],0) none) (ab0 w) (Mz (intSetOf_fresh (ug w)) (λk=>by rfl) rfl)) (λh a=>?pre) (λaf af h' af T af=>⟨(λaf h=>nomatch h),.nil,(λaf h=>nomatch h),T⟩) λaf h2 h3 af af a2 T2 q2=>au (bu λhp t' K T af af af af=>?fin)),?run⟩
 case pre=>
  have K:Keeps [] s.heap h:=a.keeps;have O:Lies (kt w.params) h (AR w z (FQ.mk s.heap.objs.size (s.heap.objs.size+1) (s.heap.objs.size+2) (s.heap.objs.size+3) (s.heap.objs.size+4) s.toks (s.toks+2) (s.toks+3) (s.toks+4) (s.toks+5) (s.toks+6)) (FE.mk #[] 0 0 (#[],0,.fresh 0 0 (ug w)) ([],0) none)++w7 z v (s.heap.objs.size+5) 0):=a.lies;have hfr:∀b∈frs outer,b<s.heap.objs.size:=λb hb=>FunFrames.lt hO.fr hb;have hq:∀b∈i6 (FQ.mk s.heap.objs.size (s.heap.objs.size+1) (s.heap.objs.size+2) (s.heap.objs.size+3) (s.heap.objs.size+4) s.toks (s.toks+2) (s.toks+3) (s.toks+4) (s.toks+5) (s.toks+6))++[s.heap.objs.size+5],s.heap.objs.size≤b:=λb hb=>by
   have hb:=CF hb;exact I1 hb
  refine⟨gg (hL.ext a.lies.top K) O λb hb m=>?_,⟨acD _,⟨s.heap.objs.size,_,rfl,tZ _,O.get (p:=(true,s.heap.objs.size,qT w z (FQ.mk s.heap.objs.size (s.heap.objs.size+1) (s.heap.objs.size+2) (s.heap.objs.size+3) (s.heap.objs.size+4) s.toks (s.toks+2) (s.toks+3) (s.toks+4) (s.toks+5) (s.toks+6)) (FE.mk #[] 0 0 (#[],0,.fresh 0 0 (ug w)) ([],0) none))) (.head _),λvs h=>by cases h⟩,(K.toF []).frames hO.fr (λaf af h=>nomatch h)⟩,λb hb=>⟨(hO.apart b hb).1,λm=>?_,(hO.apart b hb).2⟩⟩
  ·have:=old b m;exact E0 ‹_› (hq b hb)
  ·have:=hfr b hb;have:=hq b m;exact E0 ‹_› this
 case fin=>
  have K2:Keeps [] s.heap h2:=a2.keeps;have K:Keeps [] h3 hp:=K;refine hR () hp t' T ?_;have hq:∀b∈i6 (FQ.mk s.heap.objs.size (s.heap.objs.size+1) (s.heap.objs.size+2) (s.heap.objs.size+3) (s.heap.objs.size+4) s.toks (s.toks+2) (s.toks+3) (s.toks+4) (s.toks+5) (s.toks+6))++[s.heap.objs.size+5],s.heap.objs.size≤b:=λb hb=>by
   have hb:=CF hb;exact I1 hb
  have K3:bw (i6 (FQ.mk s.heap.objs.size (s.heap.objs.size+1) (s.heap.objs.size+2) (s.heap.objs.size+3) (s.heap.objs.size+4) s.toks (s.toks+2) (s.toks+3) (s.toks+4) (s.toks+5) (s.toks+6))++[s.heap.objs.size+5]) ((FQ.mk s.heap.objs.size (s.heap.objs.size+1) (s.heap.objs.size+2) (s.heap.objs.size+3) (s.heap.objs.size+4) s.toks (s.toks+2) (s.toks+3) (s.toks+4) (s.toks+5) (s.toks+6)).loc::frs outer) s.heap hp:=((K2.toF _).mono (λaf h=>nomatch h) λaf h=>h).trans (q2.trans ((K.toF _).mono (λaf h=>nomatch h) λaf h=>h));exact⟨K3.1,λb o af e=>by
   have hb:=cK e;have n1:b∉i6 (FQ.mk s.heap.objs.size (s.heap.objs.size+1) (s.heap.objs.size+2) (s.heap.objs.size+3) (s.heap.objs.size+4) s.toks (s.toks+2) (s.toks+3) (s.toks+4) (s.toks+5) (s.toks+6))++[s.heap.objs.size+5]:=λm=>by have:=hq b m;exact E0 hb this
   refine dY (K3.2 b o n1 e) λk1 k2=>?_;exact⟨λhF=>k1 λm=>by
    rcases aM.mp m with m|m
    ·exact n1 (m▸.head _)
    ·exact hF m,k2⟩⟩
 case run=>
  clear hL L0 hR hT hO old jq hD nd fH hF;(apply Ew hw F1;kernel_rfl!)
def w9(w:ao)(z:SS)(v:SV)(acc aB loc it:Nat)(es:List Nat):Cert:=
 aq es (.wide 92 (Fx it acc aB loc) [(0,true,acc,ai (([]:List (Int×Nat)).map iv) 0),(1,true,aB,bz w sI none),(2,true,it,cG "dict_valueiterator" (.ref z.D) 0 (b9 v).length v.ep)] (Nat×Option (Nat×aj)) (λaf=>.ok .next) (λaf=>[]) λaf af af af=>.done (.ok .next) [] [])
theorem MI(w:ao)(z:SS)(v:SV)(acc aB loc it:Nat)(es:List Nat)
  (gx:Wide w 92 (Fx it acc aB loc) (λh=>Lies (kt w.params) h (aO w z v++nk w z v acc aB it [] 0 0 none)) (Nat×Option (Nat×aj)) (λaf=>.ok .next)
   (λx h h'=>Lies (kt w.params) h' (aO w z v++[(true,acc,ai (([]++zeros v.l).map iv) x.1),(true,aB,bz w sI x.2)])∧Keeps [acc,aB,it] h h'∧((none:Option (Nat×aj)).isSome=true∨v.l≠[]→x.2.isSome=true)))
  (hv:v.l≠[]) (run:∀(A:aV) (s:aA) (R:aW→aA→Prop),fR (bD w s R) 1000000000 .base A (A.under (Aw it acc aB loc)) (92+1) (dQ (Aw it acc aB loc)) (dB (nk w z v acc aB it [] 0 0 none)) s.heap.objs.size s.toks (nk w z v acc aB it [] 0 0 none).length
    (w9 w z v acc aB loc it es)=
   fS (w9 w z v acc aB loc it es) ((nk w z v acc aB it [] 0 0 none).map (·.2.1)) s.heap.objs.size):
  Wide w 92 (Aw it acc aB loc) (λh=>Lies (kt w.params) h (aO w z v++nk w z v acc aB it [] 0 0 none)) (Nat×Nat×aj) (λaf=>.ok .next)
   (λx h h'=>Lies (kt w.params) h' (aO w z v++[(true,acc,ai ((zeros v.l).map iv) x.1),(true,aB,bz w sI (some x.2))])∧Keeps [acc,aB,it] h h'):=by
 refine d7 rfl rfl λA s R hT hP hR=>?_;refine⟨_,hP.right,w9 w z v acc aB loc it es,au (cC gx (λh a=>?pre) (λaf af h' af T af=>⟨(λaf h=>nomatch h),.nil,(λaf h=>nomatch h),T⟩) λx h2 h3 af af a2 T2 q2=>bu λhp t' K T af af af af=>?fin),run A s R⟩;case pre=>
  exact gg (gy hP.left a.lies.top a.keeps λb hb=>hP.eL hb) a.lies λb hb=>hP.eL hb
 case fin=>
  refine dJ q2 λq1 q2 q3=>?_;obtain⟨p,hp2⟩:=sD.mp (q3 (.inr hv));have K:Keeps [] h3 hp:=K;rw[hp2]at q1;exact hR (x.1,p) hp t' T ⟨q1.ext T K,(a2.keeps.trans q2).trans K.ext⟩
theorem acE(w0:ao)(fb fc:Bool)(z:SS)(v:SV)(acc aB loc it:Nat)(hv:v.l≠[])(hl:v.l.length≤900):
  Wide (ak w0 fb fc) 92 (Aw it acc aB loc) (λh=>Lies (kt (ak w0 fb fc).params) h (aO (ak w0 fb fc) z v++nk (ak w0 fb fc) z v acc aB it [] 0 0 none)) (Nat×Nat×aj) (λaf=>.ok .next)
   (λx h h'=>Lies (kt (ak w0 fb fc).params) h' (aO (ak w0 fb fc) z v++[(true,acc,ai ((zeros v.l).map iv) x.1),(true,aB,bz (ak w0 fb fc) sI (some x.2))])∧Keeps [acc,aB,it] h h'):=by
 have gx:=abO w0 fb fc z v acc aB loc it v.l 0 [] 0 none rfl (by simp;exact E4 hl)
 cases fc
 ·refine MI _ z v acc aB loc it (dec 1331525) gx hv λA s R=>?_;clear gx;unfold w9;(apply ck (fb:=fb);kernel_rfl!)
 ·refine MI _ z v acc aB loc it (dec 0) gx hv λA s R=>?_;clear gx;unfold w9;(apply ck (fb:=fb);kernel_rfl!)
def AW(loc:Nat):Env:=envOf nj Fw 147 146 loc
theorem acF(loc:Nat):(AW loc).scope.kind≠.module:=by
 show(fScope nj).kind≠.module;rw[(by kernel_rfl!:(fScope nj).kind=.function)]
 decide
theorem acG{w:ao}{f:Option (List Env)}{b:Nat}{c:bf}{z:SS}{v:SV}{env:Env}{outer:List Env}{L:Nat}{P:az→Prop}{res:Unit→aW}(W:cT w f b c (λh=>P h∧pe w z v (env::outer) h) Unit res (λaf h h'=>bw [] (frs (env::outer)) h h'))(hL:env.frame=some L):
  cT w f b c (λh=>P h∧pe w z v (env::outer) h) (Array (Option aj)) (λaf=>res ()) (λsl h h'=>bw [] (frs (env::outer)) h h'∧∀o,h.get? L=some o→h'.get? L=some {o with slots:=sl}):=
 W.weak λx h h' hp k=>by
  refine CJ hp.2.fr λaf L' o hf af ho af af=>?_;rw[hL]at hf;obtain rfl:L=L':=vE hf;refine jQ (k.2 L o (λh=>nomatch h) ho) λaf sl e=>?_;exact⟨sl,rfl,k,λo' e'=>by rw[ho]at e';injection e' with e';subst e';exact e⟩
theorem acH{w:ao}{z:SS}{v:SV}{p:Bool×Nat×Obj}(hp:p∈aO w z v):p.2.1∈aE z v:=by
 rw[←cP w z v];exact mD hp
theorem acI(w0:ao)(fb fc:Bool)(z:SS)(hz:236≤z.D)(v:SV)(hr:v.ready=.none)(hv:v.l≠[])(hl:v.l.length≤900)(outer:List Env)(nd:(names v).Nodup)(hD:kP v.g (names v) []):
  cT (ak w0 fb fc) (some outer) 75 (.call (.ref 147) ⟨[.ref z.S],[]⟩) (λh=>Lies (kt (ak w0 fb fc).params) h (aO (ak w0 fb fc) z v)∧pe (ak w0 fb fc) z v outer h) (Nat×Nat) (λaf=>.ok (.ret .none))
   (λx h h'=>Lies (kt (ak w0 fb fc).params) h' (aO (ak w0 fb fc) z {v with ready:=.ref x.1}++[(true,x.1,ai ((zeros v.l).map iv) x.2)])∧bw [z.d] (frs outer) h h'∧h.objs.size≤x.1):=by
 obtain⟨zS,zd,zD,uh,um,uo,uq⟩:=z;obtain⟨D0,rfl⟩:∃k,zD=k+236:=⟨zD-236,by exact B9 hz⟩
 obtain⟨rd,np,nf,u3,u4,cY,vl⟩:=v;obtain rfl:rd=.none:=hr;have hfind:=λRL env=>find_spec w0 fb fc ⟨zS,zd,D0+236,uh,um,uo,uq⟩ hz ⟨.ref RL,np,nf,u3,u4,cY,vl⟩ (env::outer) nd hD;clear hz;have hstart:=λacc aB loc it=>acE w0 fb fc ⟨zS,zd,D0+236,uh,um,uo,uq⟩ ⟨.none,np,nf,u3,u4,cY,vl⟩ acc aB loc it hv hl;generalize F1:(⟨zS,zd,D0+236,uh,um,uo,uq⟩:SS)=z at*;generalize hw:ak w0 fb fc=w at*;refine j5 rfl rfl λA s R hF hT hP hR=>?_;refine dY hP λhL hO=>?_;have old:=lM hL;have L0:Lies (kt w.params) s.heap [(false,z.S,bY z.d),(true,z.d,bH w z ⟨.none,np,nf,u3,u4,cY,vl⟩),(false,z.D,bU (vl.map Node.key) cY)]:=hL.part (λp hp=>by
   apply cB hp
   ·exact .inr ⟨rfl,true,iz.1⟩
   ·exact .inl iz.2.1
   ·exact .inr ⟨rfl,true,iz.2.2⟩) (by
  rw[cP];exact .cons_cons _ (.cons_cons _ (.cons_cons _ (eX _))))
 have fH:=AV hF (fBody nj) (AW s.heap.objs.size);refine⟨_,L0,aq (dec 1011163103259851266903376469480901315538695658427868522960587520266012898128858059382849) (.wide 92 _ [(1,true,z.d,bH w z ⟨.none,np,nf,u3,u4,cY,vl⟩),(3,true,s.heap.objs.size,iK [de w f9 s.toks (.ref z.S)]),(5,true,s.heap.objs.size+2,cG "dict_valueiterator" (.ref z.D) 0 (b9 ⟨.none,np,nf,u3,u4,cY,vl⟩).length cY),(6,true,s.heap.objs.size+3,ai [] 0),(7,true,s.heap.objs.size+4,cu [] 0)] (Nat×Nat×aj) _
   (λx=>[(false,z.S,bY z.d),(true,z.d,bH w z ⟨.none,np,nf,u3,u4,cY,vl⟩),(true,s.heap.objs.size,iK [de w f9 s.toks (.ref z.S)]),(true,s.heap.objs.size+3,ai ((zeros vl).map iv) x.1),(true,s.heap.objs.size+4,bz w sI (some x.2))]) λx h1 af af=>
  aq (dec 7166198466256874784310296870466131626930430523965609668368785502663) (.eH (A.under (.func (fBody nj) (AW s.heap.objs.size))).frames 77 _ [(1,true,z.d,bH w z ⟨.ref (s.heap.objs.size+3),np,nf,u3,u4,cY,vl⟩),(2,true,s.heap.objs.size,iK [de w f9 s.toks (.ref z.S)]),(3,true,s.heap.objs.size+3,ai ((zeros vl).map iv) x.1)] (Array (Option aj)) _ (λsl=>[(true,s.heap.objs.size,wK sl [de w f9 s.toks (.ref z.S)])]) λaf h3 af af=>
  aq (dec 12483) (.done (.ok (.ret .none)) [] []))),
  au (cC (hstart (s.heap.objs.size+3) (s.heap.objs.size+4) s.heap.objs.size (s.heap.objs.size+2)) (λh a=>?pre) (λx h h' a T q=>?led) λx h0 h1 af af a1 T1 q1=>
   au (jl (fH.symm▸acG (hfind (s.heap.objs.size+3) (AW s.heap.objs.size)) rfl) (λh a=>?qF) (λx2 h h' a T q=>?qG) λaf h2 h3 af af a2 T2 q2=>au (bu λhp t' K T af af af af=>?fin))),?run⟩
 case run=>
  clear hL L0 hR hT hO old hfind hstart hD nd fH hF hl hv;(apply Ew hw F1;kernel_rfl!)
 case pre=>
  have O:Lies (kt w.params) h [(true,s.heap.objs.size+3,ai [] 0),(true,s.heap.objs.size+4,cu [] 0),(true,s.heap.objs.size+2,cG "dict_valueiterator" (.ref z.D) 0 (b9 ⟨.none,np,nf,u3,u4,cY,vl⟩).length cY)]:=a.lies.pick (λp hp=>.inl (by
   apply cB hp<;>(first|exact eW|exact in4|exact bT))) (by simp[adr])
  have S1:=wJ (l:=[]) (by rw[dZ];exact hL) a.lies.top a.keeps (a.lies.get (p:=(true,z.d,_)) (.head _)) λb hb=>.inl (sA hb)
  rw[dZ]at S1;refine gg S1 O λb hb m=>?_;exact Ui (old b m) (fB hb)
 case led=>
  refine dY q λq1 q2=>?_;have H2:Lies (kt w.params) h' [(false,z.S,bY z.d),(true,z.d,bH w z ⟨.none,np,nf,u3,u4,cY,vl⟩)]:=q1.left.part (λp hp=>by
   apply bJ hp
   ·exact .inr ⟨rfl,true,iz.1⟩
   ·exact .inl iz.2.1) (by
   rw[cP];exact .cons_cons _ (.cons_cons _ (eX _)))
  have J1:=(lR (a.lies.part (λp hp=>.inl (by rw[sA hp];exact in1)) (.cons _ (.cons_cons _ (eX _)))) T q2 (by simp)).join q1.right λb hb hc=>by
   exact UD (b3 hc) (sA hb)
  refine H2.join J1 λb hb hc=>?_;have hb:b∈[z.S,z.d]:=hb;have hc:b∈[s.heap.objs.size,s.heap.objs.size+3,s.heap.objs.size+4]:=hc;simp only[aM,bO,or_false]at hb hc;exact Xl (old _ bL.1) (old _ bL.2.1) hb hc
 case qF=>
  have K:Keeps [z.d,s.heap.objs.size,s.heap.objs.size+3,s.heap.objs.size+4] h1 h:=a.keeps;have S1:=wJ (l:=[]) (v:=⟨.none,np,nf,u3,u4,cY,vl⟩) (rd:=.ref (s.heap.objs.size+3)) (by rw[dZ];exact q1.1.left) a.lies.top K (a.lies.get (p:=(true,z.d,_)) (.head _)) λb hb=>by
   apply fX hb
   ·exact .inl rfl
   ·exact .inr ⟨λm=>by exact vh (old _ m),λm=>nomatch m⟩
   ·exact .inr ⟨λm=>by exact Cb (old _ m),λm=>nomatch m⟩
   ·exact .inr ⟨λm=>by exact Ia (old _ m),λm=>nomatch m⟩
  rw[dZ]at S1;refine⟨S1,⟨⟨acF _,⟨s.heap.objs.size,_,rfl,tZ _,(a.lies.get (p:=(true,s.heap.objs.size,_)) (.tail _ (.head _))),λvs h=>by cases h⟩,((((a1.keeps.toF []).mono (λa ha=>by simp[(jN ha)]) λaf h=>h).trans ((q1.2.toF []).mono (λa ha=>by simp at ha⊢;exact Ww ha) λaf h=>h)).trans ((K.toF []).mono (λa ha=>by simp at ha⊢;exact WB ha) λaf h=>h):bw [z.d,s.heap.objs.size,s.heap.objs.size+3,s.heap.objs.size+4,s.heap.objs.size+2] [] s.heap h).frames hO.fr λb hb m=>?_⟩,λb hb=>?_⟩⟩
  ·have h1:=FunFrames.lt hO.fr hb;have h2:=(hO.apart b hb).1;have m:=pT m;rcases m with rfl|m|m|m|m
   ·exact h2 bL.2.1
   ·exact E6 h1 m
   ·exact IU h1 m
   ·exact Uj h1 m
   ·exact Uh h1 m
  ·rcases aM.mp hb with hb|hb
   ·have hb:b=s.heap.objs.size:=hb;refine⟨λm=>?_,hb▸gR hT (bk _)⟩;exact E6 (old b m) hb
   ·exact⟨(hO.apart b hb).1,(hO.apart b hb).2⟩
 case qG=>
  exact Lies.one (q.2 _ (a.lies.get (p:=(true,s.heap.objs.size,_)) (.tail _ (.head _)))) (gR hT (bk _)) T
 case fin=>
  have K2:Keeps [z.d,s.heap.objs.size,s.heap.objs.size+3,s.heap.objs.size+4] h1 h2:=a2.keeps;have S1:=wJ (l:=[]) (v:=⟨.none,np,nf,u3,u4,cY,vl⟩) (rd:=.ref (s.heap.objs.size+3)) (by rw[dZ];exact q1.1.left) a2.lies.top K2 (a2.lies.get (p:=(true,z.d,_)) (.head _)) λb hb=>by
   apply fX hb
   ·exact .inl rfl
   ·exact .inr ⟨λm=>by exact vh (old _ m),λm=>nomatch m⟩
   ·exact .inr ⟨λm=>by exact Cb (old _ m),λm=>nomatch m⟩
   ·exact .inr ⟨λm=>by exact Ia (old _ m),λm=>nomatch m⟩
  rw[dZ]at S1;have KF:bw [s.heap.objs.size] (s.heap.objs.size::frs outer) h2 hp:=(q2.1.mono (λaf h=>nomatch h) λaf h=>h).trans (K.toF _);have S2:=S1.wX T KF λp hp=>by
   have m':=acH hp;have lt:=old p.2.1 m';refine⟨λm=>?_,λm=>?_⟩
   ·exact E6 lt (sA m)
   ·rcases aM.mp m with m|m
    ·exact E6 lt m
    ·exact(hO.apart _ m).1 m'
  have nF:s.heap.objs.size+3∉s.heap.objs.size::frs outer:=λm=>by
   rcases aM.mp m with m|m
   ·exact H9 m
   ·exact Cb (FunFrames.lt hO.fr m)
  refine hR (s.heap.objs.size+3,x.1) hp t' T ⟨gg S2 (Lies.one (m:=true) ((KF.2 _ _ (by simp) (a2.lies.get (p:=(true,s.heap.objs.size+3,_)) (.tail _ (.tail _ (.head _))))).1 nF) (gR hT Su) T) λb hb m=>?_,?_,by simp⟩
  ·exact IU (old b m) (sA hb)
  ·have k1:bw [z.d] (frs outer) s.heap h1:=(a1.keeps.toF _).trans' (q1.2.toF _) λa ha=>by
    exact .inr (UE (fB ha))
   have k2:bw [z.d] (frs outer) s.heap h2:=k1.trans' (K2.toF _) λa ha=>by
    have ha:=jO ha;rcases ha with ha|ha
    ·exact .inl (by simp[ha])
    ·exact .inr (UW ha)
   refine⟨bh k2.1 KF.1,λb o hb e=>?_⟩;have lt:=cK e;refine jQ (k2.2 b o hb e) λc1 sl c2=>?_;have nb:b∉[s.heap.objs.size]:=λm=>by exact E6 lt (sA m)
   refine jQ (KF.2 b _ nb c2) λd1 wW d2=>?_;refine⟨λhF=>(KF.2 b o nb (c1 hF)).1 λm=>?_,wW,d2⟩;rcases aM.mp m with m|m
   ·exact E6 lt m
   ·exact hF m
theorem acJ(loc:Nat):(tR loc).scope.kind≠.module:=by
 show(fScope (st 21)).kind≠.module;rw[(by kernel_rfl!:(fScope (st 21)).kind=.function)]
 decide
def MJ(w:ao):Option WF→List bx
 |none=>[]
 |some f=>[de w z9 f.j1 (.ref f.tup),de w Aa f.j2 (.int f.first f.ft),de w m5 f.k f.v]
def MK(w:ao)(sl:Array (Option aj))(S:Nat)(aI:Int)(t RO k1 k2 k3:Nat)(ex:List bx):Obj:=
 wK sl ([de w tD k1 (.ref S),de w Er k2 (.int aI t),de w Es k3 (.ref RO)]++ex)
theorem acK(w:ao)(sl:Array (Option aj))(S:Nat)(aI:Int)(t RO k1 k2 k3:Nat)(fr:Option WF):di w sl S aI t RO k1 k2 k3 fr=MK w sl S aI t RO k1 k2 k3 (MJ w fr):=by
 cases fr<;>rfl
theorem cT.slots{w:ao}{f:Option (List Env)}{b:Nat}{c:bf}{z:SS}{v:SV}{env:Env}{outer:List Env}{L:Nat}{P:az→Prop}{X:Type}{res:X→aW}{U:List Nat}{Q:X→az→az→Prop}(W:cT w f b c (λh=>P h∧pe w z v (env::outer) h) X res (λx h h'=>Q x h h'∧bw U (frs (env::outer)) h h'))(hL:env.frame=some L)(hU:L∉U):
  cT w f b c (λh=>P h∧pe w z v (env::outer) h) (X×Array (Option aj)) (λx=>res x.1) (λx h h'=>(Q x.1 h h'∧bw U (frs (env::outer)) h h')∧∀o,h.get? L=some o→h'.get? L=some {o with slots:=x.2}):=
 W.weak λx h h' hp k=>by
  refine CJ hp.2.fr λaf L' o hf af ho af af=>?_;rw[hL]at hf;obtain rfl:L=L':=vE hf;refine jQ (k.2.2 L o hU ho) λaf sl e=>?_;exact⟨(x,sl),rfl,k,λo' e'=>by rw[ho]at e';injection e' with e';subst e';exact e⟩
theorem acL(w0:ao)(fb fc:Bool)(z:SS)(hz:236≤z.D)(v:SV)(hr:v.ready=.none)(hv:v.l≠[])(hl:v.l.length≤900)(hnp:v.nf=v.np)(outer:List Env)(nd:(names v).Nodup)(hD:kP v.g (names v) [])(aI:Int)(t:Nat)(rs:List (List Int))(MM:qM aI (v.g,(zeros v.l).map (·.1)) rs)(hrs:rs.length≤900):
  cT (ak w0 fb fc) (some outer) 73 (.call (.ref 222) ⟨[.ref z.S,.int aI t],[]⟩) (λh=>Lies (kt (ak w0 fb fc).params) h (aO (ak w0 fb fc) z v)∧pe (ak w0 fb fc) z v outer h) (Nat×bF×Nat) (λx=>.ok (.ret (.ref x.1)))
   (λx h h'=>Lies (kt (ak w0 fb fc).params) h' ([(true,x.1,ai (aT x.2.1) x.2.2)]++bI x.2.1)∧bw (aE z v) (frs outer) h h'∧dM x.2.1=rs∧(∀a∈x.1::x.2.1.map (·.1),h.objs.size≤a)):=by
 have MN:=λenv=>acI w0 fb fc z hz v hr hv hl (env::outer) nd hD;have MO:∀env,cT (ak w0 fb fc) (some (env::outer)) 75 (.call (.ref 147) ⟨[.ref z.S],[]⟩) (λh=>Lies (kt (ak w0 fb fc).params) h (aO (ak w0 fb fc) z v)∧pe (ak w0 fb fc) z v (env::outer) h) (Nat×Nat) (λaf=>.ok (.ret .none))
   (λx h h'=>(Lies (kt (ak w0 fb fc).params) h' (aO (ak w0 fb fc) z {v with ready:=.ref x.1}++[(true,x.1,ai ((zeros v.l).map iv) x.2)])∧h.objs.size≤x.1)∧bw [z.d] (frs (env::outer)) h h'):=λenv=>(MN env).weak λx h h' af k=>⟨x,rfl,⟨k.1,k.2.2⟩,k.2.1⟩
 have gx:=λRL loc RO k1 k2 k3 sl rep=>abJ w0 fb fc sl z aI t RO k1 k2 k3 RL loc _ rs MM {v with ready:=.ref RL} (zeros v.l) rep none [] 0 nd rfl hnp rfl (by simpa using hrs)
 obtain⟨rd,np,nf,u3,u4,cY,vl⟩:=v;obtain rfl:rd=.none:=hr;generalize hw:ak w0 fb fc=w at*;refine j5 rfl rfl λA s R hF hT hP hR=>?_;obtain⟨hL,hO⟩:=hP;have old:=lM hL;have L0:Lies (kt w.params) s.heap [(false,z.S,bY z.d),(false,z.d,bH w z ⟨.none,np,nf,u3,u4,cY,vl⟩)]:=m7 hL;have fH:=AV hF (fBody (st 21)) (tR s.heap.objs.size);refine⟨_,L0,aq (dec 6215686356462394785141100583883665988589620305985) (.eH (A.under (.func (fBody (st 21)) (tR s.heap.objs.size))).frames 75 _ [(2,true,s.heap.objs.size,di w #[] z.S aI t (s.heap.objs.size+1) s.toks (s.toks+1) (s.toks+2) none),(3,true,s.heap.objs.size+1,ai [] 0)] ((Nat×Nat)×Array (Option aj)) _
   (λx=>[(true,s.heap.objs.size,di w x.2 z.S aI t (s.heap.objs.size+1) s.toks (s.toks+1) (s.toks+2) none),(true,s.heap.objs.size+1,ai [] 0)]) λx h1 af af=>
  aq (dec 0) (.wide 84 _ [(0,true,s.heap.objs.size,di w x.2 z.S aI t (s.heap.objs.size+1) s.toks (s.toks+1) (s.toks+2) none),(1,true,s.heap.objs.size+1,ai [] 0)] (bF×Nat×Option WF) _ (λx2=>[(true,s.heap.objs.size,MK w x.2 z.S aI t (s.heap.objs.size+1) s.toks (s.toks+1) (s.toks+2) (MJ w x2.2.2)),(true,s.heap.objs.size+1,ai (aT x2.1) x2.2.1)]) λx2 h3 af af=>
  aq (dec 3) (.done (.ok (.ret (.ref (s.heap.objs.size+1)))) [(1,s.heap.objs.size+1,ai (aT x2.1) x2.2.1)] []))),
  au (jl (fH.symm▸(MO (tR s.heap.objs.size)).slots rfl (λm=>by have:=old _ bL.2.1;exact Un ‹_› (sA m))) (λh a=>?pre) (λx h h' a T q=>?led) λx h0 h1 af af a1 T1 q1=>
   au (cC (gx x.1.1 s.heap.objs.size (s.heap.objs.size+1) s.toks (s.toks+1) (s.toks+2) x.2 x.1.2) (λh a=>?qF) (λx2 h h' a T q=>?qG) λx2 h2 h3 af af a2 T2 q2=>au (bu λhp t' K T hu af af af=>?fin))),?run⟩
 case run=>
  clear hL L0 hR hT hO old gx MO MN hD nd fH hF hl hv MM hrs hnp;(apply cO hw;kernel_rfl!)
 case pre=>
  have K:Keeps [] s.heap h:=a.keeps;refine⟨hL.ext a.lies.top K,⟨⟨acJ _,⟨s.heap.objs.size,_,rfl,tZ _,(a.lies.get (p:=(true,s.heap.objs.size,_)) (.head _)),λvs h=>by cases h⟩,(K.toF []).frames hO.fr (λaf af h=>nomatch h)⟩,λb hb=>?_⟩⟩
  rcases aM.mp hb with hb|hb
  ·have hb:b=s.heap.objs.size:=hb;refine⟨λm=>?_,hb▸gR hT (bk _)⟩;exact E6 (old b m) hb
  ·exact hO.apart b hb
 case led=>
  have g2':=(q.1.2.2 _ _ (λm=>by have:=old _ bL.2.1;exact IE (sA m) ‹_›) (a.lies.get (p:=(true,s.heap.objs.size+1,_)) (.tail _ (.head _)))).1 (λm=>by
   rcases aM.mp m with m|m
   ·exact H6 m
   ·exact vg (FunFrames.lt hO.fr m))
  refine Lies.join (l:=[(true,s.heap.objs.size,_)]) (Lies.one (q.2 _ (a.lies.get (p:=(true,s.heap.objs.size,_)) (.head _))) (gR hT (bk _)) T) (Lies.one g2' (gR hT E2) T) λb hb hc=>?_;exact Ux (sA hc) (sA hb)
 case qF=>
  have K:Keeps [s.heap.objs.size,s.heap.objs.size+1] h1 h:=a.keeps;have aX:s.heap.objs.size+1<h0.objs.size:=cK (a1.lies.get (p:=(true,s.heap.objs.size+1,_)) (.tail _ (.head _)));have hx:=q1.1.1.2;have S1:=gy q1.1.1.1.left a.lies.top K λb hb m=>by
   exact IV (old b m) (b3 hb)
  have O1:=lR q1.1.1.1.right a.lies.top K (λm=>by
   exact VQ aX hx (b3 m))
  have OO:Lies (kt w.params) h (kJ w x.2 z aI t (s.heap.objs.size+1) s.toks (s.toks+1) (s.toks+2) x.1.1 s.heap.objs.size (zeros vl) x.1.2 none [] 0):=O1.join a.lies λb hb hc=>by
   exact W3 aX hx (b3 hc) (sA hb)
  refine gg S1 OO λb hb m=>?_;exact Jk aX hx (old b m) (fB hb)
 case qG=>
  have q1:=q.1.left (l':=bI ([]++x2.1));rw[acK]at q1;exact q1
 case fin=>
  refine kC q2 λr1 r2 r3 r4=>?_;have K0:Keeps [] s.heap h0:=a1.keeps;have K2:Keeps [s.heap.objs.size,s.heap.objs.size+1] h1 h2:=a2.keeps;have K:Keeps [s.heap.objs.size,s.heap.objs.size+1] h3 hp:=K;have kF:=q1.1.2;have aQ:s.heap.objs.size≤h1.objs.size:=bh K0.1 kF.1;have bW:h1.objs.size≤h2.objs.size:=K2.1;rw[pX]at r1;refine hR (s.heap.objs.size+1,x2.1,x2.2.1) hp t' T ⟨(Lies.one (m:=true) (hu (s.heap.objs.size+1,ai (aT x2.1) x2.2.1) (.head _)) (gR hT (by omega)) T).join (r1.right.keep T K λp hp m=>r1.apart (a:=p.2.1) (l:=[(true,s.heap.objs.size,di w x.2 z.S aI t (s.heap.objs.size+1) s.toks (s.toks+1) (s.toks+2) x2.2.2),(true,s.heap.objs.size+1,ai (aT x2.1) x2.2.1)]) m (mD hp)) λb hb hc=>?_,?_,r3,λa ha=>?_⟩
  ·exact r1.apart (a:=b) (l:=[(true,s.heap.objs.size,di w x.2 z.S aI t (s.heap.objs.size+1) s.toks (s.toks+1) (s.toks+2) x2.2.2),(true,s.heap.objs.size+1,ai (aT x2.1) x2.2.1)]) ((sA hb)▸.tail _ (.head _)) hc
  ·refine⟨bh (bh aQ bW) (bh r2.1 K.1),λb o hb e=>?_⟩;have lt:=cK e;refine jQ (kF.2 b o (λm=>hb (sA m▸bL.2.1)) (K0.2 b o (λh=>nomatch h) e)) λc1 sl c2=>?_;have rest:∀o,h1.get? b=some o→hp.get? b=some o:=λo e=>K.2 b o (by simp only[aM,bO,or_false];exact IY lt) (r2.2 b o (λm=>by
    rcases mA m with m|m
    ·exact hb m
    ·exact Jk (cK (a1.lies.get (p:=(true,s.heap.objs.size+1,_)) (.tail _ (.head _)))) q1.1.1.2 lt (fB m)) (K2.2 b o (by simp only[aM,bO,or_false];exact IY lt) e))
   exact⟨λhF=>rest o (c1 λm=>by
    rcases aM.mp m with m|m
    ·exact E6 lt m
    ·exact hF m),sl,rest _ c2⟩
  ·refine lu ha ?_ λha=>?_
   ·exact jU _
   ·refine aS (aN.mp ha) λo ho aG=>?_;subst aG;exact bh (bh aQ bW) (r4 o ho)
theorem F3(w:ao)(l:Nat)(vs:List aj)(ep:Nat)(hl:vs.length≤1000):Spec w 119 (.builtin "proto.collect" ⟨[.ref l],[]⟩) [(false,l,ai vs ep)] Nat (λx=>.ok (.ret (.ref x))) (λaf=>[]) (λx=>[(x,ai vs (bump vs 0))]):=by
 intro A s R hA hT hP _ _ hR;refine cN F.entry_proto_collect ?_;rw[gO F.plain_proto_collect _];show wpAny _ A.in1 (newList []>>=λx=>again (.builtin "list.__iadd__" ⟨[x,.ref l],[]⟩)) _ _ s;refine av (gu ?_);refine aJ ⟨vJ zC _,cN F.entry_list_iadd ?_⟩;rw[gO zC _];show wpAny _ A.in1 (zx (.ref s.heap.objs.size) (.ref l) (.ref s.heap.objs.size)) _ _ _;have hS:(s.heap.push {cls:=.type "list",data:=.seq ([]:List aj).toArray}).get? s.heap.objs.size=some {cls:=.type "list",data:=.seq #[] 0}:=jg _ rfl;refine wpAny_extend_seq (hsz:=by rw[fQ];show vs.length≤_;exact pS hl) (A:=A) (R:=R) (s:={s with heap:=s.heap.push {cls:=.type "list",data:=.seq ([]:List aj).toArray}}) _ l _ 0 (.inl rfl) hS (gV _ (cL hP)) rfl rfl ?_
 refine hR s.heap.objs.size _ s.toks ⟨by rw[jA,iH];exact E2,λb o af e=>?_⟩ (λaf h=>nomatch h) (λp hp=>?_) (λp hp=>?_) (by simp)
 ·exact(qg _ _ (qa (vO e))).trans (gV _ e)
 ·apply cV hp;have e:((#[]:Array aj)++(⟨vs⟩:Array aj))=⟨vs⟩:=by simp
  have e2:cz (·++(⟨vs⟩:Array aj)) ({cls:=.type "list",data:=.seq #[] 0}:Obj)=⟨.type "list",none,.seq (#[]++(⟨vs⟩:Array aj)) (if(#[]++(⟨vs⟩:Array aj)).size==0 then 0 else 1),#[]⟩:=rfl
  rw[e]at e2;refine(iW (cz (·++(⟨vs⟩:Array aj))) hS rfl).trans (congrArg some (e2.trans ?_));cases vs<;>rfl
 ·apply cV hp;exact bk _
noncomputable def nB(own:aj)(d:aj)(i n ep:Nat)(ok ov:aj):Obj:=⟨.type "dict_itemiterator",none,.fields #[own,.bool false,d,.int i 0,.int n 0,.int ep 0,ok,ov],#[]⟩
theorem acN(w:ao)(it d i ep:Nat)(es:List bx)(ok ov:aj)(he:es[i]?=none):
  Spec w 110 (.builtin "dict_itemiterator.__next__" ⟨[.ref it],[]⟩) [(true,it,nB .none (.ref d) i es.length ep ok ov),(false,d,cu es ep)] Nat
  (λx=>.error (.ref (x+1))) (λaf=>[(it,nB .none .none i es.length ep ok ov)]) (λx=>[(x,aK []),(x+1,gf x)]):=by
 intro A s R hA hT hP _ _ hR;have hod:s.heap.get? d=some (cu es ep):=hP (d,_) (.tail _ (.head _));have ho:s.heap.get? it=some (nB .none (.ref d) i es.length ep ok ov):=hP (it,_) (.head _);have hty:s.TypeIs (.ref it) "dict_itemiterator":=⟨_,ho,rfl⟩;refine cN F.entry_dict_itemiterator_next ?_;refine av (aJ ?_);refine av ?_;refine av ?_;first|refine av (JX hty (aJ ?_))|refine av (JY hty (aJ ?_))
 refine av (sF ho rfl ?_);dsimp only[(by decide:vP "dict_itemiterator"=true),if_true]
 show wpAny _ _ (if(bg d==dz)=true then _ else _) _ _ s
 refine c9 (decide_eq_false (show ¬((bg d==dz)=true)from mJ)) ?_;refine av (aJ ?_);refine av (vG hod rfl ?_);refine c9 (decide_eq_false (by rw[(rfl:(⟨es⟩:Array bx).size=es.length)];simp)) ?_
 refine av (aJ ?_);refine av (vH hod rfl ?_);refine c9 (decide_eq_false (by simp)) ?_
 refine aJ ?_;simp only[show ¬((i:Int)<0)from by exact E8,if_false,oh,(by simpa using he:(⟨es⟩:Array bx)[i]?=none)]
 refine av ?_;first|refine av (JX hty (aJ ?_))|refine av (JY hty (aJ ?_))
 show wpAny _ _ (setField (.ref it) 2 .none>>=_) _ _ s;refine av (kG ho rfl (by simp) ?_)
 show wpAny _ _ (j3 (.type "StopIteration") []>>=_) _ _ _;refine av ?_;dsimp only[j3,newTuple];refine av (gu ?_ (by size_fits))
 refine av (m:=jW _ _) (kH (a:=dz) (by first|rfl|((delta jW;dsimp only);rfl)) ?_)
 refine gu ?_ (by size_fits)
 (delta sR;dsimp only)
 refine av (sH ?_);rw[show(A.under _).handled=none from hA.hd (bk _)];refine av (aJ (sJ ?_));have hz:(s.heap.update it (eG (·.setIfInBounds 2 .none))).objs.size=s.heap.objs.size:=jA ..;show R (.error (.ref ((s.heap.update it (eG (·.setIfInBounds 2 .none))).push _).objs.size)) _;rw[(λo=>by rw[iH,hz]:∀o,((s.heap.update it (eG (·.setIfInBounds 2 .none))).push o).objs.size=s.heap.objs.size+1)]
 rw[hz];exact(wu (o1:=aK []) (o2:=gf s.heap.objs.size) (f:=eG (·.setIfInBounds 2 .none)) s.heap.objs.size (λx h' t' k1 k2 k3 k4 k5=>hR s.heap.objs.size h' t' k1 k2 k3 k4 k5) s.toks ho rfl rfl rfl rfl)
noncomputable def AX(R:aW→aA→Prop):aW→aA→Prop:=λr s=>match r with
 |.ok f=>R (.ok f) s
 |.error _=>False
theorem MP{w:ao}{s₀:aA}{R:aW→aA→Prop}{h:az}{b:Nat}{Ac A:aV}{t:Sem Fin}{E:aj→aA→Prop}{l:List (Bool×Nat×Obj)}{tk:Nat}(cert:Cert)(G:Good (bD w s₀ (AX R)) cert ⟨h,l.length,muts l⟩)(S:Lies (kt w.params) h l)(AY:bK b Ac)(hA:bK (b+1) A)
  (e:fR (bD w s₀ (AX R)) 1000000000 .base Ac A (b+1) t (dB l) h.objs.size tk l.length cert=fS cert (l.map (·.2.1)) h.objs.size) (hb:fD b 120=true):
  wpAny (model pw w) A t (λfin s'=>match fin with|.done f=>R (.ok f) s'|.again c'=>c'.quiet=true∧gU (model pw w) Ac c' R s') E ⟨h,s₀.gens,s₀.drawn,tk,s₀.os⟩:=by
 refine jY (sim_sound (bD w s₀ (AX R)) 1000000000 .base _ _ _ _ _ _ _ ⟨h,l.length,muts l⟩ _ _ (e.mpr (tB cert _ _)) G S.rep ⟨hA,λc h=>AY.under h,ig (iE hb),AY⟩ trivial) (λfin s' h=>?_) λe s' h=>h.elim;cases fin with
 |done f=>exact h
 |again c=>exact⟨h.1,codeAny_mono h.2 λr s'' hr=>by
   cases r with
   |ok f=>exact hr
   |error e=>exact hr.elim⟩
structure GE where
 n:Int
 t:Nat
 pl:Nat
 ps:List (Int×Nat)
 e:Nat
noncomputable def GE.key(x:GE):Int×Nat×Nat:=(x.n,x.t,x.pl)
noncomputable def ur(l:List GE):Led:=l.map λx=>(false,x.pl,ai (x.ps.map iv) x.e)
theorem acO{w:ao}{h:az}{d ep:Nat}{l:List (Int×Nat×Nat)}(e:h.get? d=some (bU l ep))(nd:(l.map (·.1)).Nodup):h.DictAt (jZ pw w) d (l.map λx=>(x.1,bg x.2.2)) ep:=by
 refine⟨bU l ep,⟨l.map fj⟩,e,⟨rfl,rfl,rfl⟩,rfl,λa ha=>?_,?_,?_⟩
 ·refine aS (aN.mp (by simpa using ha:a∈l.map fj)) λx af aG=>?_;subst aG
  exact⟨x.1,nq w x.1 x.2.1,rfl⟩
 ·show Pairs (jZ pw w) (l.map fj) _;clear nd e;induction l with
  |nil=>exact .nil
  |cons x r ih=>exact .cons (nq w x.1 x.2.1) rfl ih
 ·rw[bQ];exact nd
def MQ:bR:=sub 0 (st 16)
noncomputable def acP:Str:=⟨⟨[84,111,112,111,108,111,103,105,99,97,108,83,111,114,116,101,114,46,95,95,105,110,105,116,95,95,46,60,108,111,99,97,108,115,62,46]⟩⟩
def pg:bR:=sub 0 (sub 4 MQ)
def F4(loc:Nat):Env:=envOf MQ acP 128 127 loc
def AZ(it loc:Nat):bf:=.forLoop (dg pg) (.ref it) (fBody pg) [] (F4 loc)
def qU(w:ao):Option (Nat×aj×Nat×aj)→List bx
 |none=>[]
 |some (a,x,b,y)=>[de w gW a x,de w wj b y]
def nC(w:ao)(S G k1 k2:Nat)(ex:List bx):Obj:=iK ([de w f9 k1 (.ref S),de w KQ k2 (.ref G)]++ex)
noncomputable def uv(own:aj)(d i n ep:Nat)(ok ov:aj):Obj:=⟨.type "dict_itemiterator",none,.fields #[own,.bool false,.ref d,.int i 0,.int n 0,.int ep 0,ok,ov],#[]⟩
noncomputable def F5(g:G):Prop:=g.length≤900∧∀e∈g,e.2.2.length≤900
theorem F5.small{v:SV}(h:F5 v.g):Small v 10:=by
 refine⟨?_,λx hx=>?_⟩
 ·have:=h.1;unfold SV.g at this;rw[bl]at this;exact Ir this
 ·have:=h.2 (x.n,x.q,x.vs.map (·.1)) (aN.mpr ⟨x,hx,rfl⟩);simp at this;exact Ir this
inductive pq:G→List GE→Prop
 |nil (g:G):pq g []
 |cons {g:G} {x:GE} {r:List GE}:F5 g→x.ps.length≤5→pq (wD x.n x.ps g) r→pq g (x::r)
noncomputable def A0(g:G)(l:List GE):G:=l.foldl (λg x=>wD x.n x.ps g) g
theorem acQ:∃x1 pos,dg pg=.Tuple (D6 (dg pg)) x1 pos:=by
 cases h:dg pg with
 |Tuple e x p=>exact⟨x,p,rfl⟩
 |_=>
  exfalso
  have:(match dg pg with|.Tuple ..=>true|_=>false)=true:=by kernel_rfl!
  rw[h]at this;cases this
theorem acR{n:Int}{v:aj}(h:ow n v=true):∃t,v=.int n t:=by
 cases v with
 |int m t=>exact⟨t,by(have:m=n:=by simpa[ow]using h);rw[this]⟩
 |_=>simp[ow]at h
def nE(w:ao)(z:SS)(loc it G k1 k2:Nat)(bB:List GE)(ep i:Nat)(fr:Option (Nat×aj×Nat×aj))(ok ov:aj):Led:=
 [(true,loc,nC w z.S G k1 k2 (qU w fr)),(true,it,uv .none G i bB.length ep ok ov),(false,G,bU (bB.map GE.key) ep)]++ur bB
noncomputable def F6(fr:Option (Nat×aj×Nat×aj))(a b:Nat)(x y:aj):Nat×aj×Nat×aj:=match fr with
 |none=>(a,x,b,y)
 |some f=>(f.1,x,f.2.2.1,y)
theorem acS(w0:ao)(fb fc:Bool)(z:SS)(loc it G k1 k2 ep:Nat)(bB:List GE)(uw:(bB.map (·.n)).Nodup):∀(r:List GE) (i:Nat) (v:SV) (fr:Option (Nat×aj×Nat×aj)) (ok ov:aj),bB.drop i=r→v.ready=.none→(names v).Nodup→pq v.g r→
  Wide (ak w0 fb fc) 92 (AZ it loc) (λh=>Lies (kt (ak w0 fb fc).params) h (aO (ak w0 fb fc) z v++nE (ak w0 fb fc) z loc it G k1 k2 bB ep i fr ok ov)) SV (λaf=>.ok .next)
   (λv' h h'=>Lies (kt (ak w0 fb fc).params) h' (aO (ak w0 fb fc) z v')∧Keeps (aE z v++[loc,it]) h h'∧Left z v v' h∧v'.g=A0 v.g r):=by
 intro r;have hadd:=λn t ps hk v hr hs nd=>aaT w0 fb fc z n t ps hk v hr hs nd;generalize hw:ak w0 fb fc=w at*;induction r with
 |nil=>
  intro i v fr ok ov hr hrd nd hg;refine d7 rfl rfl λA s R hT hP hR=>?_;have hL:=hP.right;have hx:((bB.map GE.key).map fj)[i]?=none:=by
   simpa using(kE.mp hr)
  have hlen:((bB.map GE.key).map fj).length=bB.length:=by simp
  have hend:=acN w it G i ep ((bB.map GE.key).map fj) ok ov hx;rw[hlen]at hend;have L0:Lies (kt w.params) s.heap [(true,it,nB .none (.ref G) i bB.length ep ok ov),(false,G,cu ((bB.map GE.key).map fj) ep)]:=hL.part (λp hp=>.inl (by
   apply bJ hp
   ·exact .tail _ (.head _)
   ·exact .tail _ (.tail _ (.head _)))) (.cons _ (.cons_cons _ (.cons_cons _ (eX _))))
  refine⟨_,L0,aq (dec 195) (.cut 110 _ [(0,true,it,nB .none (.ref G) i bB.length ep ok ov),(1,false,G,cu ((bB.map GE.key).map fj) ep)] Nat _ (λaf=>[(0,it,nB .none .none i bB.length ep ok ov)]) (λx=>[(x,aK []),(x+1,gf x)]) λx af af=>
   aq (dec 6) (.done (.ok .next) [] [])),au (ay hend λx af af=>au (bu λhp t' K T af af af af=>?F7)),?F8⟩
  case F7=>
   have K:Keeps [it] s.heap hp:=K;exact hR v hp t' T ⟨gy hP.left T K λb hb=>hP.eL (sA hb▸.tail _ (.head _)),K.mono λa ha=>inr (.tail _ ha),⟨rfl,rfl,rfl,nd,λa ha=>.inl ha⟩,rfl⟩
  case F8=>
   clear hP hL L0 hR hT hx hlen hend hr hrd nd hg hadd uw;(apply cO hw;kernel_rfl!)
 |cons y r ih=>
  intro i v fr ok ov hr hrd nd hg;cases hg with
  |cons hsm hps hg=>
  intro A s R hA hT hP hR;have dc:bK 93 (A.under (AZ it loc)):=hA.under rfl;refine zh ?_;generalize A.under (AZ it loc)=A' at dc⊢;show wpAny (model pw w) A' ((forTurn (dg pg) (.ref it) (fBody pg) [] (F4 loc)).onRaise λx=>do sQ x (F4 loc);zg x) _ _ s
  refine zj ?_;(delta forTurn;dsimp only)
  obtain⟨h0,g0,d0,t0,o0⟩:=s;have hL:=hP.right;have gi:h0.get? it=some (uv .none G i bB.length ep ok ov):=hL.get (p:=(true,it,_)) (.tail _ (.head _));have gG:h0.get? G=some (bU (bB.map GE.key) ep):=hL.get (p:=(false,G,_)) (.tail _ (.tail _ (.head _)));have hx:((bB.map GE.key).map λx=>(x.1,bg x.2.2))[i]?=some (y.n,.ref y.pl):=by
   have:=congrArg (λl=>l[0]?) hr;simp only[nZ,n9,nX]at this;rw[dK,dK,this];rfl
  have hlen:((bB.map GE.key).map λx=>(x.1,bg x.2.2)).length=bB.length:=by simp
  have hat:=acO (w:=w) gG (by rw[bQ];exact uw)
  have hr':bB.drop (i+1)=r:=by
   rw[←iR,hr];rfl
  have xd:it∈adr (nE w z loc it G k1 k2 bB ep i fr ok ov):=.tail _ (.head _);have kM:loc∈adr (nE w z loc it G k1 k2 bB ep i fr ok ov):=.head _;have F9:(kt w.params).get it=none:=hL.off (true,it,uv .none G i bB.length ep ok ov) (.tail _ (.head _)) rfl;have MS:(kt w.params).get loc=none:=hL.off (true,loc,nC w z.S G k1 k2 (qU w fr)) (.head _) rfl;have hn:∀b∈adr (nE w z loc it G k1 k2 bB ep i fr ok ov),b∉aE z v:=λb hb=>hP.eL hb;have nl:(adr (nE w z loc it G k1 k2 bB ep i fr ok ov)).Nodup:=hL.nd;have Ga:loc≠it:=λe=>by
   exact((bA.mp nl).1) (e▸.head _)
  have hT:aR (kt w.params) h0:=hT;have Gb:y∈bB:=by
   have:y∈bB.drop i:=by rw[hr];exact .head _
   exact CV this
  have A2:(false,y.pl,ai (y.ps.map iv) y.e)∈nE w z loc it G k1 k2 bB ep i fr ok ov:=inr (aN.mpr ⟨y,Gb,rfl⟩);have Gd:y.pl≠it∧y.pl≠loc:=by
   have m:y.pl∈adr (ur bB):=aN.mpr ⟨_,aN.mpr ⟨y,Gb,rfl⟩,rfl⟩;have nn:=hL.apart (l:=[(true,loc,nC w z.S G k1 k2 (qU w fr)),(true,it,uv .none G i bB.length ep ok ov),(false,G,bU (bB.map GE.key) ep)]) (l':=ur bB) (a:=y.pl);exact⟨λe=>nn (e▸.tail _ (.head _)) m,λe=>nn (e▸.head _) m⟩
  refine av (wpAny_standAt (av (wpAny_onRaise (wpAny_pyNext_items_item (ok:=ok) (ov:=ov) (by rw[hlen];exact gi) hat hx λkey h1 hkey hout htup hsz hk=>?_))))
  refine fC (acR hkey) λt1 aG=>?_;subst aG;refine rS acQ λx1 pos hsh=>?_;refine av ?_;rw[hsh];refine wpAny_letOwnedTupleGo_items hout λh2 MT hs2=>?_;rw[←hsh];have hsz1:h1.objs.size=h0.objs.size+1:=hsz;have hsz2:h2.objs.size=h1.objs.size:=hs2.1;have g9:Keeps [it] h0 h2:=⟨by exact Wv hsz1 hsz2,λb o hb e=>(hs2.2 b (λq=>hb (by simp[q]))).trans (hk b o (λq=>hb (by simp[q])) e)⟩
  have T2:=hT.keep g9 λa ha=>sA ha▸F9;have MU:h2.get? h0.objs.size=some (aK [.int y.n t1,.ref y.pl]):=(hs2.2 h0.objs.size (qa (cK gi))).trans htup;have MV:h2.get? it=some (uv .none G (i+1) bB.length ep (.int y.n t1) (.ref y.pl)):=by
   have:=MT;rw[hlen]at this;exact this
  have old:=lM hP.left;rw[Dy,qh];refine MP (s₀:=⟨h0,g0,d0,t0,o0⟩) (R:=R) (b:=92) (l:=[(false,z.S,bY z.d),(false,z.d,bH w z v),(true,loc,nC w z.S G k1 k2 (qU w fr)),(false,y.pl,ai (y.ps.map iv) y.e),(false,h0.objs.size,aK [.int y.n t1,.ref y.pl])])
   (aq (dec 54464799191879922911427593491922222867720267526169789530658457791136308239381571267775282927285248487879) (.cut 119 _ [(3,false,y.pl,ai (y.ps.map iv) y.e)] Nat _ (λaf=>[]) (λx=>[(x,ai (y.ps.map iv) (bump (y.ps.map iv) 0))]) λx af af=>aq (dec 187437772) (.wide 96 _ [(2,true,loc,nC w z.S G k1 k2 (qU w (some (F6 fr t0 (t0+1) (.int y.n t1) (.ref y.pl)))))] SV _ (λaf=>[]) λv' h3 af af=>
    aq (dec 0) (.wide 92 (AZ it loc) [] SV (λaf=>.ok .next) (λaf=>[]) λv'' h5 af af=>aq (dec 0) (.done (.ok .next) [] [])))))
   (au (ay (F3 w y.pl (y.ps.map iv) y.e (by rw[bl];exact Se hps)) λx af af=>au (cC (hadd y.n t1 y.ps hps v hrd hsm.small nd) (λh a=>?pre) (λaf af h' af T af=>⟨(λaf h=>nomatch h),.nil,(λaf h=>nomatch h),T⟩) λv' h3 h4 af af a3 T4 q4=>au ?rest))) ?lies hA dc ?run rfl
  case lies=>
   have z1:Lies (kt w.params) h2 [(false,z.S,bY z.d),(false,z.d,bH w z v),(true,loc,nC w z.S G k1 k2 (qU w fr)),(false,y.pl,ai (y.ps.map iv) y.e)]:=by
    refine(hP.pick (λp hp=>?_) ?_).keep T2 g9 λp hp m=>?_
    ·apply fX hp
     ·exact .inr ⟨rfl,true,inl iz.1⟩
     ·exact .inr ⟨rfl,true,inl iz.2.1⟩
     ·exact .inl (inr (.head _))
     ·exact .inl (inr A2)
    ·have mp:=mD A2;have a8:=oW hP.left;have n1:z.S≠z.d:=λe=>by
      unfold aE at a8;rw[e]at a8;exact(bA.mp a8).1 (.head _)
     simp only[adr,bP,iS,bA,aM,bO,or_false,not_or,not_false_eq_true,gT,and_true];exact⟨⟨n1,λe=>hn loc kM (e▸bL.1),λe=>hn y.pl mp (e▸bL.1)⟩,⟨λe=>hn loc kM (e▸bL.2.1),λe=>hn y.pl mp (e▸bL.2.1)⟩,iU Gd.2⟩
    ·have m:p.2.1=it:=sA m;simp only[aM,bO,or_false]at hp;rcases hp with rfl|rfl|rfl|rfl
     ·exact hn it xd (m▸bL.1)
     ·exact hn it xd (m▸bL.2.1)
     ·exact Ga m
     ·exact Gd.1 m
   refine z1.join (Lies.one MU (gR hT (bk _)) T2) λb hb hc=>?_;have hc:b=h0.objs.size:=sA hc;have hb:b∈[z.S,z.d,loc,y.pl]:=hb;simp only[aM,bO,or_false]at hb;rcases hb with rfl|rfl|rfl|rfl
   ·exact absurd hc (pZ (old _ (bL (z:=z) (v:=v)).1))
   ·exact absurd hc (pZ (old _ (bL (z:=z) (v:=v)).2.1))
   ·exact absurd hc (pZ (hL.lt kM))
   ·exact absurd hc (pZ (hL.lt (mD A2)))
  case pre=>
   exact gy (gy hP.left T2 g9 λb hb=>sA hb▸hn it xd) a.lies.top a.keeps λb hb=>sA hb▸hn loc kM
  case rest=>
   refine kC q4 λq1 q2 q3 q5=>?_;have K3:Keeps [loc] h2 h3:=a3.keeps;refine cC (ih (i+1) v' (some (F6 fr t0 (t0+1) (.int y.n t1) (.ref y.pl))) (.int y.n t1) (.ref y.pl) hr' (q3.ready.trans hrd) q3.nd (q5▸hg)) (λh a=>?_) (λaf af h' af T af=>⟨(λaf h=>nomatch h),.nil,(λaf h=>nomatch h),T⟩) λv'' h5 h6 af af a5 T6 q6=>au (bu λhp t' K T af af af af=>?_)
   ·have K4:Keeps [] h4 h:=a.keeps;have T:=a.lies.top;have c1:=K4.2 _ _ (λh=>nomatch h) (q2.2 loc _ (hn loc kM) (a3.lies.get (p:=(true,loc,_)) (.head _)));have rest:∀p∈nE w z loc it G k1 k2 bB ep i fr ok ov,p.2.1≠loc→p.2.1≠it→h.get? p.2.1=some p.2.2:=λp hp n1 n2=>
     K4.2 _ _ (λh=>nomatch h) (q2.2 _ _ (hn _ (mD hp)) (K3.2 _ _ (λm=>n1 (sA m)) (g9.2 _ _ (λm=>n2 (sA m)) (hL.get hp))))
    have O:Lies (kt w.params) h (nE w z loc it G k1 k2 bB ep (i+1) (some (F6 fr t0 (t0+1) (.int y.n t1) (.ref y.pl))) (.int y.n t1) (.ref y.pl)):=by
     refine⟨λr hr=>?_,nl,λp hp hm=>?_,T⟩
     ·refine aS (aN.mp hr) λp hp aG=>?_;subst aG;rcases mA hp with hp|hp
      ·apply cB hp
       ·exact c1
       ·exact(K4.2 _ _ (λh=>nomatch h) (q2.2 it _ (hn it xd) (K3.2 _ _ (λm=>Ga (sA m).symm) MV)))
       ·refine rest (false,G,bU (bB.map GE.key) ep) (.tail _ (.tail _ (.head _))) (λe=>?_) λe=>?_
        ·exact(bA.mp nl).1 (e▸.tail _ (.head _))
        ·exact(bA.mp (bA.mp nl).2).1 (e▸.head _)
      ·have m:p.2.1∈adr (ur bB):=mD hp;have nn:=hL.apart (l:=[(true,loc,nC w z.S G k1 k2 (qU w fr)),(true,it,uv .none G i bB.length ep ok ov),(false,G,bU (bB.map GE.key) ep)]) (l':=ur bB) (a:=p.2.1);exact rest p (inr hp) (λe=>nn (e▸.head _) m) λe=>nn (e▸.tail _ (.head _)) m
     ·rcases mA hp with hp|hp
      ·simp only[aM,bO,or_false]at hp;rcases hp with rfl|rfl|rfl
       ·exact MS
       ·exact F9
       ·cases hm
      ·refine aS (aN.mp hp) λx af aG=>?_;subst aG;cases hm
    refine gg (q1.ext T K4) O λb hb m=>?_;have hb:b∈adr (nE w z loc it G k1 k2 bB ep i fr ok ov):=hb;rcases q3.fresh b m with c|c
    ·exact hn b hb c
    ·have hb:b<h0.objs.size:=(hL.lt hb);exact HS hb g9.1 K3.1 c
   ·refine kC q6 λr1 r2 r3 r4=>?_;have K4:Keeps [] h4 h5:=a5.keeps;have K:Keeps [] h6 hp:=K;have e1:=g9.1;have e2:=K3.1;have KB:Keeps (aE z v++[loc,it]) h0 h6:=((((g9.mono λa ha=>inr (.tail _ ha)).trans (K3.mono λa ha=>inr (sA ha▸.head _))).trans (q2.mono λa ha=>inl ha)).trans K4.ext).trans' r2 λa ha=>by
     rcases mA ha with ha|ha
     ·rcases q3.fresh a ha with c|c
      ·exact .inl (inl c)
      ·exact .inr (CD e1 e2 c)
     ·exact .inl (inr ha)
    refine hR v'' hp t' T ⟨r1.ext T K,KB.trans K.ext,⟨r3.ready.trans q3.ready,r3.np.trans q3.np,r3.nf.trans q3.nf,r3.nd,λa ha=>?_⟩,?_⟩
    ·rcases r3.fresh a ha with c|c
     ·rcases q3.fresh a c with d|d
      ·exact .inl d
      ·exact .inr (by show h0.objs.size≤a;exact CD e1 e2 d)
     ·exact .inr (by show h0.objs.size≤a;exact XR e1 e2 q2.1 K4.1 c)
    ·rw[r4,q5];rfl
  case run=>
   clear hP hR hT hL gi gG hx hlen hat hkey hout htup hsz hk MT hs2 hsh ih hadd hsm hg hr hrd nd uw hr' xd kM F9 MS hn nl Ga Gb A2 Gd g9 T2 MU MV old hA dc hsz1 hsz2;subst hw;obtain⟨yn,yt,ypl,ps,ye⟩:=y;obtain⟨rd,np,nf,u3,u4,cY,vl⟩:=v;rcases ps with _|⟨p1,_|⟨p2,_|⟨p3,_|⟨p4,_|⟨p5,_|⟨p6,r⟩⟩⟩⟩⟩⟩
   ·(apply iw (fb:=fb) fr;kernel_rfl!)
   ·(apply iw (fb:=fb) fr;kernel_rfl!)
   ·(apply iw (fb:=fb) fr;kernel_rfl!)
   ·(apply iw (fb:=fb) fr;kernel_rfl!)
   ·(apply iw (fb:=fb) fr;kernel_rfl!)
   ·(apply iw (fb:=fb) fr;kernel_rfl!)
   ·exact absurd hps (by simp)
theorem acT(w0:ao)(fb fc:Bool)(G ep:Nat)(hG:236≤G)(bB:List GE)(uw:(bB.map (·.n)).Nodup)(hA:pq [] bB):
  Wide (ak w0 fb fc) 88 (.call (.ref 192) ⟨[.ref G],[]⟩) (λh=>Lies (kt (ak w0 fb fc).params) h ([(false,G,bU (bB.map GE.key) ep)]++ur bB)) (SS×SV) (λx=>.ok (.ret (.ref x.1.S)))
   (λx h h'=>Lies (kt (ak w0 fb fc).params) h' (aO (ak w0 fb fc) x.1 x.2)∧Keeps [] h h'∧236≤x.1.D∧(∀a∈aE x.1 x.2,h.objs.size≤a)∧x.2.ready=.none∧x.2.np=0∧x.2.nf=0∧(names x.2).Nodup∧x.2.g=A0 [] bB):=by
 obtain⟨G0,rfl⟩:∃k,G=k+236:=⟨G-236,by exact B9 hG⟩
 have jq:=λz loc it k1 k2 v ok ov hr nd hg=>acS w0 fb fc z loc it (G0+236) k1 k2 ep bB uw bB 0 v none ok ov rfl hr nd hg;generalize hw:ak w0 fb fc=w at*;refine d7 rfl rfl λA s R hT hP hR=>?_;have hlen:((bB.map GE.key).map fj).length=bB.length:=by simp
 have L0:Lies (kt w.params) s.heap [(false,G0+236,bU (bB.map GE.key) ep)]:=hP.left;refine⟨_,L0,aq (dec 963607498975599715010131592814742335799772123125608204509092098777005202762729199328153479879849464664379002436635034902528415655255202777548915060524464839640024528471779146517762947427329573564090695837763894128380802384712470583838467428417) (.wide 92 _ [(1,true,s.heap.objs.size,bH w (SS.mk (s.heap.objs.size+1) s.heap.objs.size (s.heap.objs.size+3) (s.toks+3) (s.toks+5) (s.toks+8) (s.toks+11)) (SV.mk .none 0 0 (s.toks+6) (s.toks+9) 0 [])),(2,true,s.heap.objs.size+1,bY s.heap.objs.size),(3,true,s.heap.objs.size+2,nC w (s.heap.objs.size+1) (G0+236) s.toks (s.toks+1) []),(4,true,s.heap.objs.size+3,bU [] 0),(6,true,s.heap.objs.size+5,nB .none (.ref (G0+236)) 0 ((bB.map GE.key).map fj).length ep .none .none)] SV _ (λaf=>[]) λv' h3 af af=>
  aq (dec 0) (.done (.ok (.ret (.ref (s.heap.objs.size+1)))) [] [])),
  au (cC (jq (SS.mk (s.heap.objs.size+1) s.heap.objs.size (s.heap.objs.size+3) (s.toks+3) (s.toks+5) (s.toks+8) (s.toks+11)) (s.heap.objs.size+2) (s.heap.objs.size+5) s.toks (s.toks+1) (SV.mk .none 0 0 (s.toks+6) (s.toks+9) 0 []) .none .none rfl .nil hA) (λh a=>?pre) (λaf af h' af T af=>⟨(λaf h=>nomatch h),.nil,(λaf h=>nomatch h),T⟩) λv' h2 h3 af af a2 T2 q2=>au (bu λhp t' K T af af af af=>?fin)),?run⟩
 case run=>
  clear hP L0 hR hT hlen jq hA uw hG;(apply cO hw;kernel_rfl!)
 case pre=>
  have O:Lies (kt w.params) h [(true,s.heap.objs.size+1,bY s.heap.objs.size),(true,s.heap.objs.size,bH w (SS.mk (s.heap.objs.size+1) s.heap.objs.size (s.heap.objs.size+3) (s.toks+3) (s.toks+5) (s.toks+8) (s.toks+11)) (SV.mk .none 0 0 (s.toks+6) (s.toks+9) 0 [])),(true,s.heap.objs.size+3,bU [] 0),(true,s.heap.objs.size+2,nC w (s.heap.objs.size+1) (G0+236) s.toks (s.toks+1) []),(true,s.heap.objs.size+5,nB .none (.ref (G0+236)) 0 ((bB.map GE.key).map fj).length ep .none .none)]:=a.lies.pick (λp hp=>.inl (by
   apply jz hp<;>simp)) (by simp[adr])
  have J:=O.join (hP.ext a.lies.top a.keeps) λb hb hc=>by
   exact Ug (hP.lt hc) (pT hb)
  rw[hlen]at J;exact J
 case fin=>
  refine kC q2 λq1 q2 q3 q4=>?_;have K:Keeps [] h3 hp:=K;have fr:∀a∈aE (SS.mk (s.heap.objs.size+1) s.heap.objs.size (s.heap.objs.size+3) (s.toks+3) (s.toks+5) (s.toks+8) (s.toks+11)) (SV.mk .none 0 0 (s.toks+6) (s.toks+9) 0 []),s.heap.objs.size≤a:=λa ha=>by
   exact Uz (fB ha)
  refine hR ((SS.mk (s.heap.objs.size+1) s.heap.objs.size (s.heap.objs.size+3) (s.toks+3) (s.toks+5) (s.toks+8) (s.toks+11)),v') hp t' T ⟨q1.ext T K,?_,by show 236≤s.heap.objs.size+3;exact TP (cK (L0.get (p:=(false,G0+236,bU (bB.map GE.key) ep)) (.head _))),λa ha=>?_,q3.ready,q3.np,q3.nf,q3.nd,q4⟩
  ·refine(a2.keeps.trans' q2 λa ha=>.inr ?_).trans K;rcases mA ha with ha|ha
   ·exact fr a ha
   ·exact UA (b3 ha)
  ·rcases q3.fresh a ha with c|c
   ·exact fr a c
   ·exact V4 (cK (a2.lies.get (p:=(true,s.heap.objs.size+5,nB .none (.ref (G0+236)) 0 ((bB.map GE.key).map fj).length ep .none .none)) in4)) c
theorem qV{prog:f6}{w:ao}{id:String}{B:eY}{args:Args}{m:Made}(pl:qf id=true)(en:oj table id=some B)(g:Gives (B args) m){A:aV}{R:aW→aA→Prop}{s:aA}(h:m.post (λv s'=>R (.ok (.ret v)) s') s):gU (model prog w) A (.builtin id args) R s:=by
 refine cN en ?_;rw[gO pl _];exact g prog w A R s h
theorem MX{w:ao}{id:String}{B:eY}{args:Args}{v:aj}(pl:qf id=true)(en:oj table id=some B)(g:Gives (B args) (.val v)):Spec w 119 (.builtin id args) [] Unit (λaf=>.ok (.ret v)) (λaf=>[]) (λaf=>[]):=by
 intro A s R hA hT hP _ _ hR;exact qV pl en g (fG hR () s.toks)
theorem gives_int{w:ao}{id:String}{B:eY}{args:Args}{i:Int}(pl:qf id=true)(en:oj table id=some B)(g:Gives (B args) (.int i)):Spec w 119 (.builtin id args) [] Nat (λx=>.ok (.ret (.int i x))) (λaf=>[]) (λaf=>[]):=by
 intro A s R hA hT hP _ _ hR;exact qV pl en g (fG hR s.toks (s.toks+1))
theorem MY{w:ao}{id:String}{B:eY}{args:Args}{x:Str}(hx:x.length≤10000)(pl:qf id=true)(en:oj table id=some B)(g:Gives (B args) (.str x)):Spec w 119 (.builtin id args) [] Nat (λt=>.ok (.ret (.str x t))) (λaf=>[]) (λaf=>[]):=by
 intro A s R hA hT hP _ _ hR;exact qV pl en g ⟨by rw[fQ];exact Ce hx,fG hR s.toks (s.toks+1)⟩
theorem MZ(w:ao)(x:Str)(t u k c:Nat)(hk:x.cps.toList[k]?=some c)(hl:x.length≤10000):Spec w 119 (.builtin "str.__getitem__" ⟨[.str x t,.int k u],[]⟩) [] Nat (λv=>.ok (.ret (.str ⟨⟨[c]⟩⟩ v))) (λaf=>[]) (λaf=>[]):=by
 have hk2:x.cps[k]?=some c:=by rw[←JV];exact hk
 have hlt:k<x.length:=(Array.getElem?_eq_some_iff.mp hk2).1;refine MY (x:=⟨⟨[c]⟩⟩) (by show 1≤10000;decide) (by decide+kernel) F.entry_str_getitem (gives_str_getitem x k t u c ?_ ?_)
 ·simp;exact Uo hlt hl
 ·rw[show seqIndex? (k:Int) x.length=some k from by unfold seqIndex?;simp;omega]
  exact hk2
theorem M0(w:ao)(x y:Str)(t u:Nat)(hl:x.length+y.length≤10000):Spec w 119 (.builtin "str.__add__" ⟨[.str x t,.str y u],[]⟩) [] Nat (λv=>.ok (.ret (.str (x++y) v))) (λaf=>[]) (λaf=>[]):=by
 intro A s R hA hT hP _ _ hR;have g:=gives_str_add x y t u;have e0:∀z:Str,(z.length==0)=true→z=⟨#[]⟩:=λz hz=>by
  obtain⟨c⟩:=z;rw[Array.eq_empty_of_size_eq_zero (by simpa[zu]using hz:c.size=0)]
 cases h1:x.length==0 with
 |true=>
  rw[h1]at g;have ex:=e0 x h1;subst ex;refine qV (by decide+kernel) DJ g ?_
  have e:(⟨#[]⟩:Str)++y=y:=by
   show(⟨#[]++y.cps⟩:Str)=y;simp
  have:=fG hR u s.toks;rw[e]at this;exact this
 |false=>
  rw[h1]at g;cases h2:y.length==0 with
  |true=>
   rw[h2]at g;have ey:=e0 y h2;subst ey;refine qV (by decide+kernel) DJ g ?_
   have e:x++(⟨#[]⟩:Str)=x:=by
    show(⟨x.cps++#[]⟩:Str)=x;rfl
   have:=fG hR t s.toks;rw[e]at this;exact this
  |false=>
   rw[h2]at g;refine qV (by decide+kernel) DJ g ⟨?_,fG hR s.toks (s.toks+1)⟩
   show(x.cps++y.cps).size≤sizeLine;rw[Array.size_append,fQ];exact TU hl
theorem acU(w:ao)(a b:Int)(t u:Nat)(f:Int)(hb:b≠0)(hp:Builtin.divisionGoesByPylong a b=false)(hf:a.fdiv b=f):Spec w 119 (.builtin "int.__floordiv__" ⟨[.int a t,.int b u],[]⟩) [] Nat (λx=>.ok (.ret (.int f x))) (λaf=>[]) (λaf=>[]):=by
 have g:=AutoIntG4.int___floordiv___int_int_1 a t b u (by simpa using hb) (by simp[hp])
 rw[hf]at g;exact gives_int (by decide+kernel) F.entry_int_floordiv g
section
variable{prog:f6}{w:ao}{A:aV}{E:aj→aA→Prop}{s:aA}
theorem acV{B:eY}(hB:B=eY.«list.__getitem__»){l u k:Nat}{vs:List aj}{ep:Nat}{y:aj}{Q:Fin→aA→Prop}(ho:s.heap.get? l=some (ai vs ep))(hk:vs[k]?=some y)(hl:k<1000000)(h:Q (.done (.ret y)) s):
 wpAny (model prog w) A (B ⟨[.ref l,.int k u],[]⟩) Q E s:=by
 subst hB;have h0:(0:Int)≤(k:Int):=by exact vf
 have hfit:(k:Int)<2^63:=by exact Ie hl
 have hx':(⟨vs⟩:Array aj)[(k:Int).toNat]?=some y:=by simpa using hk
 generalize (k:Int)=i at*;unfold eY.«list.__getitem__»;refine av (aJ (a:=(bg l,iV i u)) ?_);refine av (wpAny_listSubscript_int (fitsIndex_of h0 hfit) ?_);clear hfit;obtain⟨j,rfl⟩:=JS h0;have hx':(⟨vs⟩:Array aj)[j]?=some y:=hx';show wpAny _ _ ((seqItemAt l j>>=λr=>pure (r.map (j, ·)))>>=_) _ _ s;refine av (av (wpAny_seqItemAt ho rfl (aJ ?_)));rw[hx'];first
  |exact av (aJ (aJ h))
  |exact aJ (aJ h)
  |exact aJ h
theorem acW{B:eY}(hB:B=eY.«list.__setitem__»){l u k:Nat}{vs:List aj}{ep:Nat}{v:aj}{Q:Fin→aA→Prop}(ho:s.heap.get? l=some (ai vs ep))(hk:k<vs.length)(hl:k<1000000)(h:Q (.done (.ret .none)) {s with heap:=s.heap.update l (cz (·.setIfInBounds k v))}):
 wpAny (model prog w) A (B ⟨[.ref l,.int k u,v],[]⟩) Q E s:=by
 subst hB;have h0:(0:Int)≤(k:Int):=by exact vf
 have hfit:(k:Int)<2^63:=by exact Ie hl
 have hx':(⟨vs⟩:Array aj)[(k:Int).toNat]?=some vs[k]:=by simp
 rw[←(by exact Ru:(k:Int).toNat=k)]at h
 generalize (k:Int)=i at*;unfold eY.«list.__setitem__»;refine av (aJ (a:=(bg l,[iV i u,v])) ?_);refine av (wpAny_listSubscript_int (fitsIndex_of h0 hfit) ?_);clear hfit;obtain⟨j,rfl⟩:=JS h0;have hx':(⟨vs⟩:Array aj)[j]?=some vs[k]:=hx';show wpAny _ _ ((seqItemAt l j>>=λr=>pure (r.map (j, ·)))>>=_) _ _ s;refine av (av (wpAny_seqItemAt ho rfl (aJ ?_)));rw[hx'];show wpAny _ _ (setSeqItemAt l j v>>=_) _ _ s;refine av (wpAny_setSeqItemAt ho rfl ?_);first
  |exact av (aJ (aJ h))
  |exact aJ (aJ h)
  |exact aJ h
end
theorem pA(w:ao)(l:Nat)(vs:List aj)(y:aj)(ep u k:Nat)(hk:vs[k]?=some y)(hl:vs.length≤1000):Spec w 119 (.builtin "list.__getitem__" ⟨[.ref l,.int k u],[]⟩) [(false,l,ai vs ep)] Unit (λaf=>.ok (.ret y)) (λaf=>[]) (λaf=>[]):=by
 intro A s R hA hT hP _ _ hR;obtain⟨B,hB⟩:∃B,B=eY.«list.__getitem__»:=⟨_,rfl⟩;exact jE (by decide+kernel) (hB▸Ds) (acV hB (cL hP) hk (by exact IX ((kD.mp hk).1) hl) ⟨y,rfl,(fG hR () s.toks)⟩)
theorem acX(w:ao)(l:Nat)(vs:List aj)(v:aj)(ep u k:Nat)(hk:k<vs.length)(hl:vs.length≤1000):Spec w 119 (.builtin "list.__setitem__" ⟨[.ref l,.int k u,v],[]⟩) [(true,l,ai vs ep)] Unit (λaf=>.ok (.ret .none)) (λaf=>[(l,ai (vs.set k v) ep)]) (λaf=>[]):=by
 intro A s R hA hT hP _ _ hR;have e:cz (·.setIfInBounds k v) (ai vs ep)=ai (vs.set k v) ep:=by
  have e2:cz (·.setIfInBounds k v) (ai vs ep)=⟨.type "list",none,.seq ((⟨vs⟩:Array aj).setIfInBounds k v) (if((⟨vs⟩:Array aj).setIfInBounds k v).size==(⟨vs⟩:Array aj).size then ep else ep+1),#[]⟩:=rfl
  have e3:(⟨vs⟩:Array aj).setIfInBounds k v=⟨vs.set k v⟩:=by
   apply Array.ext';simp
  rw[e2,e3];simp[ai]
 have ho:s.heap.get? l=some (ai vs ep):=cL hP;obtain⟨B,hB⟩:∃B,B=eY.«list.__setitem__»:=⟨_,rfl⟩;exact jE (by decide+kernel) (hB▸entry_list_setitem) (acW hB ho hk (by exact IX hk hl) ⟨.none,rfl,(m6 hR () s.toks ho e rfl)⟩)
def Ge:bR:=st 18
noncomputable def acY:Str:=⟨⟨[95,108,97,119,95,116,101,120,116,115,46,60,108,111,99,97,108,115,62,46]⟩⟩
def M1(it loc:Nat):bf:=.forLoop (dg (sub 2 Ge)) (.ref it) (fBody (sub 2 Ge)) [] (envOf Ge acY 203 202 loc)
noncomputable def acZ:Str:=⟨⟨[110,117,109,98,101,114]⟩⟩
noncomputable def ac0:Str:=⟨⟨[110,117,109,98,101,114,115]⟩⟩
noncomputable def ac1:Str:=⟨⟨[116,101,120,116,115]⟩⟩
noncomputable def ac2:Str:=⟨⟨[115,105,103,110,115]⟩⟩
def Gf(w:ao)(s:Str):Option (Nat×aj)→List bx
 |none=>[]
 |some p=>[de w s p.1 p.2]
def lX(w:ao)(nl TL k1 k2 k3 st1:Nat)(fr:Option (Nat×aj)):Obj:=
 iK ([de w ac0 k1 (.ref nl),de w ac1 k2 (.ref TL),de w ac2 k3 (.str ⟨⟨[13,10,46,9,47,11,97,8232]⟩⟩ st1)]++Gf w acZ fr)
noncomputable def aD(ns:List (Nat×Nat)):List aj:=ns.map λp=>.int (p.1:Int) p.2
noncomputable def c5(xs:List (List Nat×Nat)):List aj:=xs.map λp=>.str ⟨⟨p.1⟩⟩ p.2
noncomputable def pB:List Nat:=[13,10,46,9,47,11,97,8232]
noncomputable def iL(m:Nat)(x:List Nat):Prop:=x.length≤m∧∀c∈x,c∈pB
theorem iL.mono{m m':Nat}{x:List Nat}(h:iL m x)(l:m≤m'):iL m' x:=⟨bh h.1 l,h.2⟩
noncomputable def qW(m:Nat)(xs:List (List Nat×Nat)):Prop:=xs.length=5∧∀q∈xs,iL m q.1
theorem qW.turn{m:Nat}{xs:List (List Nat×Nat)}(h:qW m xs){k:Nat}{q:List Nat×Nat}(hq:xs[k]?=some q){c t:Nat}(hc:c∈pB):qW (m+1) (xs.set k (q.1++[c],t)):=by
 refine⟨by rw[List.length_set];exact h.1,λp hp=>?_⟩
 rcases Jy hp with hp|rfl
 ·exact(h.2 p hp).mono (jU m)
 ·have hm:=h.2 q (eB hq);refine⟨by simp only[fZ,n7,yM];exact ig hm.1,λd hd=>?_⟩
  rcases mA hd with hd|hd
  ·exact hm.2 d hd
  ·rw[sA hd];exact hc
theorem M3(x y:List Nat):(⟨⟨x⟩⟩:Str)++⟨⟨y⟩⟩=⟨⟨x++y⟩⟩:=by
 show(⟨(⟨x⟩:Array Nat)++⟨y⟩⟩:Str)=_;rw[List.append_toArray]
theorem ac3(xs:List (List Nat×Nat))(k:Nat)(q:List Nat×Nat):(c5 xs).set k (.str ⟨⟨q.1⟩⟩ q.2)=c5 (xs.set k q):=(Dc ..).symm
noncomputable abbrev M4(m:Nat):Type:={p:List (List Nat×Nat)×Option (Nat×aj)×Nat//qW m p.1}
theorem ac4(w0:ao)(fb fc:Bool)(nl e loc it TL k1 k2 k3 st1:Nat)(ns:List (Nat×Nat)):∀(r:List (Nat×Nat)) (i m:Nat) (xs:List (List Nat×Nat)) (fr:Option (Nat×aj)),ns.drop i=r→qW m xs→m+r.length≤100→
  Spec (ak w0 fb fc) 90 (M1 it loc) [(false,nl,ai (aD ns) e),(true,loc,lX (ak w0 fb fc) nl TL k1 k2 k3 st1 fr),(true,TL,ai (c5 xs) 0),(true,it,aC "list_iterator" (.ref nl) i)] (M4 (m+r.length)) (λaf=>.ok .next)
   (λx=>[(loc,lX (ak w0 fb fc) nl TL k1 k2 k3 st1 x.1.2.1),(TL,ai (c5 x.1.1) 0),(it,aC "list_iterator" .none x.1.2.2)]) (λaf=>[]):=by
 intro r;generalize hw:ak w0 fb fc=w;induction r with
 |nil=>
  intro i m xs fr hr hx hm;refine cX rfl rfl λA s R hR=>?_;refine⟨aq (dec 390) (.cut 110 _ [(0,false,nl,ai (aD ns) e),(3,true,it,aC "list_iterator" (.ref nl) i)] Nat _ (λaf=>[(3,it,aC "list_iterator" .none i)]) _ λaf af af=>
   aq (dec 8) (.done (.ok .next) [(1,loc,lX w nl TL k1 k2 k3 st1 fr),(2,TL,ai (c5 xs) 0),(3,it,aC "list_iterator" .none i)] [])),
   au (ay (oQ w it nl i (aD ns) e (by simp[aD,kE.mp hr])) λaf af af=>au (cE hR ⟨(xs,fr,i),hx⟩ rfl rfl rfl rfl)),?_⟩
  clear hR hr hx hm;(apply cO hw;kernel_rfl!)
 |cons p r ih=>
  intro i m xs fr hr hx hm;have hv:(aD ns)[i]?=some (.int (p.1:Int) p.2):=by
   have:=congrArg (λl=>l[0]?) hr;simp only[nZ,n9,nX]at this;unfold aD;rw[dK,this];rfl
  have hr':ns.drop (i+1)=r:=by
   rw[←iR,hr];rfl
  have hm':m+1+r.length≤100:=by rw[Nat.add_right_comm];exact hm
  obtain⟨n,t⟩:=p;have ha:n%5<5:=Nat.mod_lt _ (by decide)
  have hc:n/5%8<8:=Nat.mod_lt _ (by decide)
  obtain⟨⟨x,u⟩,hq⟩:∃q,xs[n%5]?=some q:=⟨_,fY (by rw[hx.1];exact ha)⟩
  obtain⟨g,hg⟩:∃g,pB[n/5%8]?=some g:=⟨pB[n/5%8],fY hc⟩;have hxx:=hx.2 _ (eB hq);have hq':(c5 xs)[n%5]?=some (.str ⟨⟨x⟩⟩ u):=by
   unfold c5;rw[dK,hq];rfl
  have hl:(c5 xs).length=5:=by unfold c5;rw[bl];exact hx.1
  have s1:=λt'=>tT w (n:Int) 5 t t' ((n%5:Nat):Int) (by decide) (by rw[JR _ (by decide)];rfl)
  have s2:=λu'=>pA w TL (c5 xs) (.str ⟨⟨x⟩⟩ u) 0 u' (n%5) hq' (by rw[hl];decide)
  have s3:=λt'=>acU w (n:Int) 5 t t' ((n/5:Nat):Int) (by decide) (by unfold Builtin.divisionGoesByPylong;rfl) (by rw[Int.fdiv_eq_ediv_of_nonneg _ (by decide)];rfl)
  have s4:=λt t'=>tT w ((n/5:Nat):Int) 8 t t' ((n/5%8:Nat):Int) (by decide) (by rw[JR _ (by decide)];rfl)
  have s5:=λu'=>MZ w ⟨⟨pB⟩⟩ st1 u' (n/5%8) g hg (by decide)
  have s6:=λu'=>M0 w ⟨⟨x⟩⟩ ⟨⟨[g]⟩⟩ u u' (by show x.length+1≤10000;exact VC hm hxx.1)
  simp only[M3]at s6;have s7:=λu' v'=>acX w TL (c5 xs) (.str ⟨⟨x++[g]⟩⟩ v') 0 u' (n%5) (by rw[hl];exact ha) (by rw[hl];decide)
  have s8:=λtk0 t'=>ih (i+1) (m+1) (xs.set (n%5) (x++[g],t')) (some (bE fr tk0,.int (n:Int) t)) hr' (hx.turn hq (eB hg)) hm';have em:m+1+r.length=m+(((n,t)::r).length):=by rw[Nat.add_right_comm];rfl
  rw[em]at s8;simp only[ac3 xs (n%5) (x++[g],_)]at s7;generalize m+((n,t)::r).length=mm at*;generalize hS:(c5 xs)=S at*;generalize hb:(((n%5:Nat)):Int)=a at*;generalize ((n/5:Nat):Int)=b at*;generalize ((n/5%8:Nat):Int)=c at*;generalize (n:Int)=n' at*;refine cX rfl rfl λA s R hR=>?_;refine⟨aq (dec 390) (.cut 119 _ [(0,false,nl,ai (aD ns) e),(3,true,it,aC "list_iterator" (.ref nl) i)] Unit _ (λaf=>[(3,it,aC "list_iterator" (.ref nl) (i+1))]) (λaf=>[]) λaf af tk0=>
  aq (dec 1065220) (.cut 119 _ [] Nat _ (λaf=>[]) (λaf=>[]) λx1 af aF=>
  aq (dec 20805) (.cut 119 _ [(2,false,TL,ai S 0)] Unit _ (λaf=>[]) (λaf=>[]) λaf af b4=>
  aq (dec 260) (.cut 119 _ [] Nat _ (λaf=>[]) (λaf=>[]) λx3 af bV=>
  aq (dec 0) (.cut 119 _ [] Nat _ (λaf=>[]) (λaf=>[]) λx4 af eO=>
  aq (dec 0) (.cut 119 _ [] Nat _ (λaf=>[]) (λaf=>[]) λx5 af gF=>
  aq (dec 0) (.cut 119 _ [] Nat _ (λaf=>[]) (λaf=>[]) λx6 af cy=>
  aq (dec 20805) (.cut 119 _ [(2,true,TL,ai S 0)] Unit _ (λaf=>[(2,TL,ai (c5 (xs.set (n%5) (x++[g],x6))) 0)]) (λaf=>[]) λaf af dU=>
  aq (dec 0) (.cut 90 _ [(0,false,nl,ai (aD ns) e),(1,true,loc,lX w nl TL k1 k2 k3 st1 (some (bE fr tk0,.int n' t))),(2,true,TL,ai (c5 (xs.set (n%5) (x++[g],x6))) 0),(3,true,it,aC "list_iterator" (.ref nl) (i+1))] (M4 mm) _
    (λx=>[(1,loc,lX w nl TL k1 k2 k3 st1 x.1.2.1),(2,TL,ai (c5 x.1.1) 0),(3,it,aC "list_iterator" .none x.1.2.2)]) (λaf=>[]) λxx af af=>
  .done (.ok .next) [(1,loc,lX w nl TL k1 k2 k3 st1 xx.1.2.1),(2,TL,ai (c5 xx.1.1) 0),(3,it,aC "list_iterator" .none xx.1.2.2)] []))))))))),
   au (ay (lG w it nl i (aD ns) e _ hv) λaf af tk0=>au (ay (s1 (tk0+1)) λx1 af aF=>au (ay (s2 x1) λaf af b4=>au (ay (s3 b4) λx3 af bV=>au (ay (s4 x3 bV) λx4 af eO=>au (ay (s5 x4) λx5 af gF=>au (ay (s6 x5) λx6 af cy=>au (ay (s7 x1 x6) λaf af dU=>au (ay (s8 tk0 x6) λxx af af=>cE hR xx rfl rfl rfl rfl))))))))),?_⟩
  clear hR hr hx hm hm' hv hr' ih ha hc hq hg hxx hq' hl s1 s2 s3 s4 s5 s6 s7 s8 em;(apply jC hw fr;kernel_rfl!)
section
open Builtin Builtin.Str
theorem M5{c:Nat}(z:Str):∀(ps:List Str) (acc:Array Nat),c∈ps.foldl (λacc p=>acc++z.cps++p.cps) acc→c∈acc∨c∈z.cps∨∃p∈ps,c∈p.cps
 |[],_,h=>.inl h
 |p::ps,acc,h=>by
  rcases M5 z ps _ h with h|h|⟨q,hq,h⟩
  ·rcases Array.mem_append.mp h with h|h
   ·rcases Array.mem_append.mp h with h|h
    ·exact .inl h
    ·exact .inr (.inl h)
   ·exact .inr (.inr ⟨p,.head _,h⟩)
  ·exact .inr (.inl h)
  ·exact .inr (.inr ⟨q,.tail _ hq,h⟩)
theorem ac5{c:Nat}{z:Str}{ps:List Str}(h:c∈(glued z ps).cps):c∈z.cps∨∃p∈ps,c∈p.cps:=by
 cases ps with
 |nil=>exact absurd h (λh=>nomatch h)
 |cons p ps=>
  rcases M5 z ps p.cps h with h|h|⟨q,hq,h⟩
  ·exact .inr ⟨p,.head _,h⟩
  ·exact .inl h
  ·exact .inr ⟨q,.tail _ hq,h⟩
theorem ac6{c:Nat}{x p:Str}{cuts:List Nat}{n:Nat}(hp:p∈partsBetween x cuts n)(h:c∈p.cps):c∈x.cps:=by
 delta partsBetween at hp;obtain⟨⟨i,j⟩,af,rfl⟩:=aN.mp hp;obtain⟨k,hk,rfl⟩:=Array.mem_iff_getElem.mp h;simp[strSub]
theorem ac7{m:Nat}{x:List Nat}(hx:iL m x){y z:Str}(hl:z.length≤y.length)(hz:∀c∈z.cps,c∈pB):iL m (glued z (partsBetween ⟨⟨x⟩⟩ (occurrences ⟨⟨x⟩⟩ y 0 (⟨⟨x⟩⟩:Str).length ((⟨⟨x⟩⟩:Str).length+1)) y.length)).cps.toList:=by
 refine⟨?_,λc hc=>?_⟩
 ·have h1:(glued y (partsBetween ⟨⟨x⟩⟩ (occurrences ⟨⟨x⟩⟩ y 0 (⟨⟨x⟩⟩:Str).length ((⟨⟨x⟩⟩:Str).length+1)) y.length)).length=x.length:=by
   rw[StrLaws.glued_between_self];rfl
  rw[size_glued,length_partsBetween,Df]at h1;rw[Array.length_toList];show zu _≤m;rw[size_glued,length_partsBetween,Df];exact XM (Nat.mul_le_mul_left ((occurrences ⟨⟨x⟩⟩ y 0 (⟨⟨x⟩⟩:Str).length ((⟨⟨x⟩⟩:Str).length+1)).length) hl) h1 hx.1
 ·rcases ac5 (JW.mp hc)with h|⟨p,hp,h⟩
  ·exact hz c h
  ·exact hx.2 c (JW.mpr (ac6 hp h))
noncomputable abbrev A3(m:Nat):Type:={p:List Nat×Nat//iL m p.1}
theorem M6(w:ao)(m:Nat)(x:List Nat)(hx:iL m x)(hm:m≤1000)(y z:Str)(t u v:Nat)(hu:u≠0)(hv:v≠0)(huv:u≠v)(hyz:(y==z)=false)(hl:z.length≤y.length)(hz:∀c∈z.cps,c∈pB)(hzl:z.length≤10):
  aaI w 119 (.builtin "str.replace" ⟨[.str ⟨⟨x⟩⟩ t,.str y u,.str z v],[]⟩) [] (A3 m) (λp=>.ok (.ret (.str ⟨⟨p.1.1⟩⟩ p.1.2))) (λaf=>[]) (λaf=>[]):=by
 intro A s R hA ht hT hP _ _ hR;have Gg:x.length≤1000:=bh hx.1 hm;have hb:(⟨⟨x⟩⟩:Str).length+((⟨⟨x⟩⟩:Str).length+1)*z.length≤16777216:=by
  rw[(rfl:(⟨⟨x⟩⟩:Str).length=x.length)];exact SQ (Nat.mul_le_mul (show x.length+1≤1001 by exact RV Gg) hzl) Gg
 have hl2:tooLong ((⟨⟨x⟩⟩:Str).length+(occurrences ⟨⟨x⟩⟩ y 0 (⟨⟨x⟩⟩:Str).length ((⟨⟨x⟩⟩:Str).length+1)).length*z.length)=false:=by
  delta tooLong;rw[fQ];exact decide_eq_false (VB (Nat.mul_le_mul_right z.length (StrLaws.occ_length_le ⟨⟨x⟩⟩ y 0 (⟨⟨x⟩⟩:Str).length ((⟨⟨x⟩⟩:Str).length+1))) hb)
 refine qV (by decide+kernel) F.entry_str_replace (gives_str_replace ⟨⟨x⟩⟩ y z t u v λaf=>⟨by simp[hu,hv],by simp[huv],hyz,hl2⟩) ?_
 have hh:=λp t'=>hR p s.heap t' (Keeps.refl _ _) (λaf h=>nomatch h) (λaf h=>nomatch h) (λaf h=>nomatch h) .nil;split
 ·have:=hh ⟨(x,t),hx⟩ (s.toks-1);rw[Nat.sub_add_cancel ht]at this;exact this
 ·exact⟨fits_replaced y hb,hh ⟨(_,s.toks),ac7 hx hl hz⟩ s.toks⟩
theorem A4{w:ao}{b:Nat}{c:bf}{pre:List (Bool×Nat×Obj)}{X X':Type}{res:X→aW}{upd new:X→List (Nat×Obj)}{res':X'→aW}{upd' new':X'→List (Nat×Obj)}
  (H:Spec w b c pre X res upd new) (h:∀x,∃y,res x=res' y∧upd x=upd' y∧new x=new' y):Spec w b c pre X' res' upd' new':=by
 intro A s R hA hT hP hN hK hR;refine H A s R hA hT hP hN hK λx h' t' k1 k2 k3 k4 k5=>?_;refine ie (h x) λy e1 e2 e3=>?_;rw[e1];exact hR y h' t' (e2▸k1) (e2▸k2) (e3▸k3) (e3▸k4) (e3▸k5)
end
section
open Builtin
theorem ac9(w:ao)(c t:Nat):Spec w 119 (.builtin "ord" ⟨[.str ⟨⟨[c]⟩⟩ t],[]⟩) [] Nat (λx=>.ok (.ret (.int (c:Int) x))) (λaf=>[]) (λaf=>[]):=
 gives_int (by decide+kernel) F.entry_ord (gives_ord c t)
theorem M7(w:ao)(c t:Nat)(h:c≤10000):Spec w 119 (.builtin "chr" ⟨[.int (c:Int) t],[]⟩) [] Nat (λx=>.ok (.ret (.str ⟨⟨[c]⟩⟩ x))) (λaf=>[]) (λaf=>[]):=
 MY (x:=⟨⟨[c]⟩⟩) (by show 1≤10000;decide) (by decide+kernel) F.entry_chr (gives_chr (c:Int) t (by simp;exact RZ h))
theorem M8(w:ao)(x y:List Nat)(t u:Nat)(b:Bool)(h:(x==y)=b):Spec w 119 (.builtin "str.__eq__" ⟨[.str ⟨⟨x⟩⟩ t,.str ⟨⟨y⟩⟩ u],[]⟩) [] Unit (λaf=>.ok (.ret (.bool b))) (λaf=>[]) (λaf=>[]):=
 MX (by decide+kernel) F.entry_str_eq (h▸gives_str_eq ⟨⟨x⟩⟩ ⟨⟨y⟩⟩ t u)
theorem Gh(w:ao)(x y:List Nat)(t u:Nat)(b:Bool)(h:(x !=y)=b):Spec w 119 (.builtin "str.__ne__" ⟨[.str ⟨⟨x⟩⟩ t,.str ⟨⟨y⟩⟩ u],[]⟩) [] Unit (λaf=>.ok (.ret (.bool b))) (λaf=>[]) (λaf=>[]):=
 MX (by decide+kernel) F.entry_str_ne (h▸gives_str_ne ⟨⟨x⟩⟩ ⟨⟨y⟩⟩ t u)
noncomputable def bS(i left:Int):Obj:=⟨.type "range_iterator",none,.fields #[.int i 0,.int left 0,.int 1 0],#[]⟩
theorem M9(w:ao)(it:Nat)(i left:Int)(h:0<left):Spec w 119 (.builtin "range_iterator.__next__" ⟨[.ref it],[]⟩) [(true,it,bS i left)] Nat
  (λx=>.ok (.ret (.int i x))) (λaf=>[(it,bS (i+1) (left-1))]) (λaf=>[]):=by
 intro A s R hA hT hP _ _ hR;have ho:s.heap.get? it=some (bS i left):=cL hP;refine ng (by decide+kernel) J9 (AutoRange.range_iterator___next___range_iterator_1 it i left 1 (Qv h)) ⟨ho,?_⟩
 refine hR s.toks _ (s.toks+1) ((Keeps.upd _ (.head _)).trans (Keeps.upd _ (.head _))) (λp hp=>?_) (λaf h=>nomatch h) (λaf h=>nomatch h) .nil;apply cV hp;exact iW (eG λx=>x.setIfInBounds 1 (cW (left-1))) (iW (eG λx_1=>x_1.setIfInBounds 0 (cW (i+1))) ho rfl) rfl
theorem Nb(w:ao)(it:Nat)(i left:Int)(h:left≤0):Spec w 110 (.builtin "range_iterator.__next__" ⟨[.ref it],[]⟩) [(false,it,bS i left)] Nat
  (λx=>.error (.ref (x+1))) (λaf=>[]) (λx=>[(x,aK []),(x+1,gf x)]):=by
 intro A s R hA hT hP _ _ hR;have ho:s.heap.get? it=some (bS i left):=cL hP;refine cN J9 ?_;show wpAny _ _ (field (.ref it) 0>>=_) _ _ s;refine av (gM ho rfl (x:=.int i 0) rfl ?_);show wpAny _ _ (field (.ref it) 1>>=_) _ _ s;refine av (gM ho rfl (x:=.int left 0) rfl ?_);show wpAny _ _ (field (.ref it) 2>>=_) _ _ s;refine av (gM ho rfl (x:=.int 1 0) rfl ?_);show wpAny _ _ (if left≤0 then _ else _) _ _ s
 refine mQ (decide_eq_true h) ?_;refine av (lA (av ?_));show wpAny _ _ (j3 (.type "StopIteration") []>>=_) _ _ _;refine av ?_;(delta j3 newTuple;dsimp only)
 refine av (gu ?_ (by size_fits))
 refine av (m:=jW _ _) (kH (a:=dz) (by first|rfl|((delta jW;dsimp only);rfl)) ?_)
 refine gu ?_ (by size_fits)
 (delta sR;dsimp only)
 refine av (sH ?_);rw[show(A.under _).handled=none from hA.hd (bk _)];refine av (aJ (sJ ?_));have hz1:∀o,(s.heap.push o).objs.size=s.heap.objs.size+1:=λo=>by rw[iH]
 show R (.error (.ref (s.heap.push _).objs.size)) _;rw[hz1];refine hR s.heap.objs.size _ s.toks ((Keeps.push _ _ _).trans (Keeps.push _ _ _)) (λaf h=>nomatch h) (λp hp=>?_) (λp hp=>?_) (by simp)
 ·rcases aM.mp hp with rfl|hp
  ·exact gV _ (jg s.heap rfl)
  ·apply cV hp;have:=jg (s.heap.push (aK [])) (o:=gf s.heap.objs.size) rfl;rw[hz1]at this;exact this
 ·rcases aM.mp hp with rfl|hp
  ·exact bk _
  ·apply cV hp;exact jU _
theorem ada(w:ao)(x:List Nat)(t:Nat)(hl:x.length≤1000):Spec w 118 (.builtin "len" ⟨[.str ⟨⟨x⟩⟩ t],[]⟩) [] Nat (λv=>.ok (.ret (.int (x.length:Int) v))) (λaf=>[]) (λaf=>[]):=by
 intro A s R hA hT hP _ _ hR;refine jE plain_len entry_len ?_;unfold eY.«len»;refine av (m:=oneArg "len" _) (aJ ?_);refine av (m:=callSpecial? (.str ⟨⟨x⟩⟩ t) (gB "__len__")) (Dq (name:=gB "__len__") (sO s _ t) F.slot_str_len
  (call_gives F.slot_str_len (sO s _ t) F.entry_str_len (F.args_str_len_1 _) (gives_str_len ⟨⟨x⟩⟩ t) ?_))
 show wpAny _ _ _ _ _ {s with toks:=s.toks+1}
 refine av (jX (aJ ?_));refine av (vL ?_);show wpAny _ _ (if((x.length:Nat):Int)<0 then _ else _) _ _ _
 refine c9 (decide_eq_false E8) ?_;show wpAny _ _ (if((x.length:Nat):Int)≥2^63 then _ else _) _ _ _
 refine c9 (decide_eq_false (Ij hl)) ?_;exact av (qd (aJ ⟨_,rfl,fG hR (s.toks+1) (s.toks+1+1)⟩))
noncomputable def kQ(n:Int)(t u v:Nat):Obj:=⟨.type "range",none,.fields #[.int 0 t,.int n u,.int 1 v],#[]⟩
theorem Nc(w:ao)(r n t u v:Nat)(hn:n≤1000):Spec w 119 (.builtin "range.__iter__" ⟨[.ref r],[]⟩) [(false,r,kQ n t u v)] Nat (λx=>.ok (.ret (.ref x))) (λaf=>[]) (λx=>[(x,bS 0 n)]):=by
 intro A s R hA hT hP _ _ hR;have e:zv 0 (n:Int) 1=(n:Int):=by
  unfold zv;simp only[show((1:Int)>0)=True from by simp,if_true]
  split<;>(first|exact QD|exact Sy ‹_›)
 have f:∀i:Int,0≤i→i≤1000→oz i=true:=λi h0 h1=>by
  unfold oz;simp;exact Qw h0 h1
 have c:(oz 0 && oz (n:Int) && oz 1 && oz (zv 0 (n:Int) 1) && (zv 0 (n:Int) 1==0||if(1:Int)>0 then oz ((n:Int)+(1-1))else oz ((n:Int)+(1+1))))=true:=by
  rw[e,f 0 (by omega) (by omega),f n vf (Ii hn),f 1 (by omega) (by omega),show(n:Int)+(1-1)=n by exact QE,f n vf (Ii hn)]
  simp
 refine ng (by decide+kernel) F.entry_range_iter (AutoRange.range___iter___range_1 r 0 n 1 t u v (by rw[c];decide)) ⟨(cL hP),?_⟩
 rw[if_pos c,e];exact abb s.heap.objs.size (λx h' t' k1 k2 k3 k4 k5=>hR _ h' t' k1 k2 k3 k4 k5) s.toks rfl
theorem adb(w:ao)(x y:List Nat)(t sl i ta tb:Nat)(a:Int)(ha:a=(i:Int)-1)(hi:i<x.length)(hl:x.length≤1000)(hy:(x.take i).drop (i-1)=y):
  Spec w 119 (.builtin "str.__getitem__" ⟨[.str ⟨⟨x⟩⟩ t,.ref sl],[]⟩) [(false,sl,fq (.int a ta) (.int (i:Int) tb))] Nat (λv=>.ok (.ret (.str ⟨⟨y⟩⟩ v))) (λaf=>[]) (λaf=>[]):=by
 intro A s R hA hT hP _ _ hR;subst ha;have hp:(slicePicked ⟨⟨x⟩⟩ (some ((i:Int)-1,ta)) (some ((i:Int),tb)) none).length≠x.length∧(slicePicked ⟨⟨x⟩⟩ (some ((i:Int)-1,ta)) (some ((i:Int),tb)) none).filterMap ((⟨⟨x⟩⟩:Str).cps[·]?)=y:=by
  unfold slicePicked;show(Str.strSliceIndices (some ((i:Int)-1)) (some (i:Int)) 1 x.length).length≠x.length∧(Str.strSliceIndices (some ((i:Int)-1)) (some (i:Int)) 1 x.length).filterMap _=y;cases i with
  |zero=>
   have e:Str.strSliceIndices (some (((0:Nat):Int)-1)) (some ((0:Nat):Int)) 1 x.length=[]:=by
    have e1:max (0:Int) (min (-1+(x.length:Int)) x.length)=(x.length:Int)-1:=by exact QL hi
    simp[Str.strSliceIndices,sliceRange,e1,(by exact Rv e1)]
   rw[e];refine⟨by simp;exact QN hi,?_⟩
   rw[←hy];rfl
  |succ k=>
   rw[(by exact yp:(((k+1:Nat):Int)-1)=(k:Int))]
   refine⟨by rw[(StrLaws.strSliceIndices_plain (a:=k) (b:=k+1) (len:=x.length) E2 (IC hi))];simp;exact Tz hi,?_⟩
   rw[←hy];refine Eq.trans (StrLaws.sliced_plain ⟨⟨x⟩⟩ (a:=k) (b:=k+1) E2 (show k+1≤x.length by exact IC hi)) ?_
   show(x.drop k).take (k+1-k)=(x.take (k+1)).drop (k+1-1);rw[vz];rfl
 have hl1:((⟨⟨y⟩⟩:Str).length)≤sizeLine:=by
  rw[fQ];show y.length≤_;have:y.length≤x.length:=by rw[←hy];simp;exact Te
  exact UY hl this
 refine ng (by decide+kernel) F.entry_str_getitem (meets_str_getitem_slice ⟨⟨x⟩⟩ t sl _ _ none rfl) ⟨(⟨_,cL hP,rfl,rfl⟩:s.heap.IsSlice sl (some ((i:Int)-1,ta)) (some ((i:Int),tb)) none),?_⟩
 unfold sliceMade;rw[if_neg (by simpa[zu]using hp.1),hp.2]
 exact⟨hl1,fG hR s.toks (s.toks+1)⟩
end
structure uy(m:Nat) where
 a0:List Nat×Nat
 a1:List Nat×Nat
 a2:List Nat×Nat
 a3:List Nat×Nat
 a4:List Nat×Nat
 fr:Option (Nat×aj)
 n:Nat
 h0:iL m a0.1
 h1:iL m a1.1
 h2:iL m a2.1
 h3:iL m a3.1
 h4:iL m a4.1
def uy.sv{m:Nat}(x:uy m):List aj:=[.str ⟨⟨x.a0.1⟩⟩ x.a0.2,.str ⟨⟨x.a1.1⟩⟩ x.a1.2,.str ⟨⟨x.a2.1⟩⟩ x.a2.2,.str ⟨⟨x.a3.1⟩⟩ x.a3.2,.str ⟨⟨x.a4.1⟩⟩ x.a4.2]
theorem five{m:Nat}(xs:List (List Nat×Nat))(h:qW m xs)(fr:Option (Nat×aj))(n:Nat):∃x:uy m,c5 xs=x.sv∧x.fr=fr∧x.n=n:=by
 match xs,h with
 |[a,b,c,d,e],h=>exact⟨⟨a,b,c,d,e,fr,n,h.2 _ aY,h.2 _ in1,h.2 _ bT,h.2 _ eW,h.2 _ in4⟩,rfl,rfl,rfl⟩
theorem ade(w0:ao)(fb fc:Bool)(nl e loc it TL k1 k2 k3 st1:Nat)(ns:List (Nat×Nat))(hn:ns.length≤50)(t0 t1 t2 t3 t4:Nat):
  Spec (ak w0 fb fc) 90 (M1 it loc) [(false,nl,ai (aD ns) e),(true,loc,lX (ak w0 fb fc) nl TL k1 k2 k3 st1 none),(true,TL,ai [.str ⟨⟨[]⟩⟩ t0,.str ⟨⟨[10]⟩⟩ t1,.str ⟨⟨[13,46]⟩⟩ t2,.str ⟨⟨[46]⟩⟩ t3,.str ⟨⟨[13,10]⟩⟩ t4] 0),(true,it,aC "list_iterator" (.ref nl) 0)] (uy 52) (λaf=>.ok .next)
   (λx=>[(loc,lX (ak w0 fb fc) nl TL k1 k2 k3 st1 x.fr),(TL,ai x.sv 0),(it,aC "list_iterator" .none x.n)]) (λaf=>[]):=by
 have h0:qW 2 [([],t0),([10],t1),([13,46],t2),([46],t3),([13,10],t4)]:=by
  refine⟨rfl,λq hq=>?_⟩;have ok:∀c∈[[],[10],[13,46],[46],[13,10]],iL 2 c:=by unfold iL;decide
  apply jz hq<;>exact ok _ (by simp)
 refine A4 (ac4 w0 fb fc nl e loc it TL k1 k2 k3 st1 ns ns 0 2 _ none rfl h0 (Sf hn)) λx=>?_;obtain⟨⟨xs,fr,n⟩,h1,h2⟩:=x;refine ie (five (m:=52) xs ⟨h1,λq hq=>(h2 q hq).mono (Sg hn)⟩ fr n) λy e1 e2 e3=>?_;exact⟨y,rfl,by show[_,_,_]=[_,_,_];rw[e2,e3];exact congrArg (λl=>[_,(TL,ai l 0),_]) e1,rfl⟩
structure xg where
 at':Nat
 x:uy 52
 y:A3 52
def xg.obj(x:xg):Obj:=ai (x.x.sv++[.str ⟨⟨x.y.1.1⟩⟩ x.y.1.2]) 0
theorem adf(w0:ao)(fb fc:Bool)(nl e:Nat)(ns:List (Nat×Nat))(hn:ns.length≤50):
  Spec (ak w0 fb fc) 88 (.call (.ref 203) ⟨[.ref nl],[]⟩) [(false,nl,ai (aD ns) e)] xg (λx=>.ok (.ret (.ref x.at'))) (λaf=>[]) (λx=>[(x.at',x.obj)]):=by
 have gx:=λloc it TL k1 k2 k3 st1=>ade w0 fb fc nl e loc it TL k1 k2 k3 st1 ns hn;generalize hw:ak w0 fb fc=w at*;refine cX rfl rfl λA s R hR=>?_;refine⟨aq (dec 477903804764795240314756407361) (.cut 90 _ [(0,false,nl,ai (aD ns) e),(1,true,s.heap.objs.size,lX w nl (s.heap.objs.size+1) s.toks (s.toks+6) (s.toks+8) (s.toks+7) none),(2,true,s.heap.objs.size+1,ai [.str ⟨⟨[]⟩⟩ (s.toks+1),.str ⟨⟨[10]⟩⟩ (s.toks+2),.str ⟨⟨[13,46]⟩⟩ (s.toks+3),.str ⟨⟨[46]⟩⟩ (s.toks+4),.str ⟨⟨[13,10]⟩⟩ (s.toks+5)] 0),(3,true,s.heap.objs.size+2,aC "list_iterator" (.ref nl) 0)] (uy 52) _
   (λx=>[(1,s.heap.objs.size,lX w nl (s.heap.objs.size+1) s.toks (s.toks+6) (s.toks+8) (s.toks+7) x.fr),(2,s.heap.objs.size+1,ai x.sv 0),(3,s.heap.objs.size+2,aC "list_iterator" .none x.n)]) (λaf=>[]) λxx af aF=>
  aq (dec 349051310340) (.ji 119 _ [] (A3 52) _ (λaf=>[]) (λaf=>[]) λy1 af b4=>
  aq (dec 0) (.ji 119 _ [] (A3 52) _ (λaf=>[]) (λaf=>[]) λy2 sz af=>
  aq (dec 594087477801282) (.done (.ok (.ret (.ref (sz+1)))) [] [(5,sz+1,xg.obj ⟨sz+1,xx,y2⟩)])))),
  au (ay (gx s.heap.objs.size (s.heap.objs.size+2) (s.heap.objs.size+1) s.toks (s.toks+6) (s.toks+8) (s.toks+7) (s.toks+1) (s.toks+2) (s.toks+3) (s.toks+4) (s.toks+5)) λxx af aF=>
   au (Le (M6 w 52 xx.a0.1 xx.h0 (by decide) ⟨⟨[13,10]⟩⟩ ⟨⟨[13]⟩⟩ xx.a0.2 (aF+1) (aF+2) (yU _) (yU _) (pZ (Nat.lt_succ_self _)) (by decide) (by decide) (by decide) (by decide)) λy1 af b4=>
   au (Le (M6 w 52 y1.1.1 y1.2 (by decide) ⟨⟨[10]⟩⟩ ⟨⟨[13]⟩⟩ y1.1.2 (b4+1) (b4+2) (yU _) (yU _) (pZ (Nat.lt_succ_self _)) (by decide) (by decide) (by decide) (by decide)) λy2 sz af=>au (cE hR ⟨sz+1,xx,y2⟩ rfl rfl rfl rfl)))),?_⟩
 clear gx hR hn;(apply cO hw;kernel_rfl!)
def A5:bR:=sub 0 (st 19)
noncomputable def Nf:Str:=⟨⟨[95,108,97,119,95,115,105,103,110,115,46,60,108,111,99,97,108,115,62,46]⟩⟩
noncomputable def Ng:Str:=⟨⟨[116,101,120,116]⟩⟩
noncomputable def fJ:Str:=⟨⟨[112,108,97,99,101]⟩⟩
noncomputable def Gi(sc:Scope):Scope:={sc with names:=sc.names.map λp=>(p.1,match p.2 with|.free=>.cell|.local=>.local|.cell=>.cell|.globalExplicit=>.globalExplicit|.globalImplicit=>.globalImplicit)}
def Nh(e:Expr)(qual:Str)(ca aB loc:Nat)(cells:List (Str×Nat)):Env:=⟨Gi (oO e),aB,3,cells,qual,none,.ref ca,some loc,0⟩
def adg(it acc aB loc cl:Nat):bf:=.compLoop (rhs A5) 0 (.ref it) (.ref acc) (Nh (rhs A5) Nf 207 aB loc [(Ng,cl)])
def adh(it acc aB loc cl:Nat):bf:=.compStart (rhs A5) 0 (.ref it) (.ref acc) (Nh (rhs A5) Nf 207 aB loc [(Ng,cl)])
noncomputable def ic(v:aj):Obj:=⟨.type "cell",none,.cell (some v),#[]⟩
def adi(w:ao)(acc aB it cl:Nat)(x:List Nat)(t:Nat)(vs:List (Nat×Nat))(ep:Nat)(i left:Int)(fr:Option (Nat×aj)):List (Bool×Nat×Obj):=
 [(false,cl,ic (.str ⟨⟨x⟩⟩ t)),(true,acc,ai (aD vs) ep),(true,aB,bz w fJ fr),(true,it,bS i left)]
theorem Gj(vs:List (Nat×Nat))(c t:Nat):aD vs++[.int (c:Int) t]=aD (vs++[(c,t)]):=by
 unfold aD;rw[aL];rfl
noncomputable def ef:Nat→List Nat→List Nat
 |_,[]=>[]
 |p,c::r=>(if c=10 then(if p=13 then[]else[13])else[c])++ef c r
noncomputable abbrev A6(b:Bool)(vs:List (Nat×Nat))(p:Nat)(r:List Nat):Type:={q:List (Nat×Nat)×Nat×Option (Nat×aj)//q.1.map (·.1)=vs.map (·.1)++ef p r∧q.2.2.isSome=(b||!r.isEmpty)}
theorem adj(w0:ao)(fb fc:Bool)(x:List Nat)(hx:x.length≤900)(t it acc aB loc cl:Nat):∀(r:List Nat) (p i:Nat) (vs:List (Nat×Nat)) (ep:Nat) (fr:Option (Nat×aj)),x.drop i=r→i+r.length=x.length→((x.take i).drop (i-1) !=[13])=(p !=13)→vs.length≤i→
  Spec (ak w0 fb fc) 90 (adg it acc aB loc cl) (adi (ak w0 fb fc) acc aB it cl x t vs ep (i:Int) (r.length:Int) fr) (A6 fr.isSome vs p r) (λaf=>.ok .next)
   (λq=>[(acc,ai (aD q.1.1) q.1.2.1),(aB,bz (ak w0 fb fc) fJ q.1.2.2),(it,bS (x.length:Int) 0)]) (λaf=>[]):=by
 intro r;generalize hw:ak w0 fb fc=w;induction r with
 |nil=>
  intro p i vs ep fr hr hi hp hv;have hi:i=x.length:=hi;subst hi;refine cX rfl rfl λA s R hR=>?_;refine⟨aq (dec 390) (.cut 110 _ [(3,false,it,bS (x.length:Int) 0)] Nat _ (λaf=>[]) _ λaf af af=>
   aq (dec 8) (.done (.ok .next) [(1,acc,ai (aD vs) ep),(2,aB,bz w fJ fr),(3,it,bS (x.length:Int) 0)] [])),
   au<|ay (Nb w it (x.length:Int) 0 (by decide)) λaf af af=>au<|cE hR ⟨(vs,ep,fr),(dZ _).symm,(sy _).symm⟩ rfl rfl rfl rfl,?_⟩
  clear hR hr hp hv;subst hw;generalize (x.length:Int)=n;(apply ck (fb:=fb);kernel_rfl!)
 |cons c r ih=>
  intro p i vs ep fr hr hi hp hv;have hi:i+(r.length+1)=x.length:=hi;have hc:x[i]?=some c:=by
   have:=congrArg (λl=>l[0]?) hr;simpa using this
  have hr':x.drop (i+1)=r:=by
   rw[←iR,hr];rfl
  have gv:((x.take (i+1)).drop (i+1-1) !=[13])=(c !=13):=by
   have:(x.take (i+1)).drop (i+1-1)=[c]:=by
    rw[vz,Df,hr,Nat.add_sub_cancel_left];rfl
   rw[this];by_cases h:c=13
   ·subst h;rfl
   ·rw[bne_iff_ne.mpr h,bne_iff_ne.mpr (λe=>h (by injection e))]
  have s1:=M9 w it (i:Int) ((c::r).length:Int) (Int.ofNat_lt.mpr (jT _));rw[show((i:Int)+1)=((i+1:Nat):Int)from rfl,show(((c::r).length:Int)-1)=(r.length:Int) by rw[n7];exact yp]at s1
  have s2:=λu=>MZ w ⟨⟨x⟩⟩ t u i c hc (by show x.length≤10000;exact Sp hx)
  have s3:=λsl ta tb=>adb w x _ t sl i ta tb ((i:Int)-1) rfl (yy hi) (E4 hx) rfl;have s5:=λv=>iJ w acc (aD vs) ep v (by unfold aD;rw[bl];exact WY hi hx hv)
  have s6:=λvs' dj cQ h=>ih c (i+1) vs' dj cQ hr' (E7 hi) gv h;generalize ((i:Nat):Int)=i' at*;generalize ((i+1:Nat):Int)=i2 at*;generalize ((c::r).length:Int)=l1 at*;generalize (r.length:Int)=l2 at*;by_cases gH:c=10
  ·subst gH;have n1:=λt u=>Gh w [10] [10] t u false rfl;have n2:=λt u=>Gh w ((x.take i).drop (i-1)) [13] t u (p !=13) hp;have n3:=λt u=>M8 w [10] [10] t u true rfl;generalize (x.take i).drop (i-1)=y at*;cases gI:(p !=13)with
   |true=>
    have hf:ef p (10::r)=13::ef 10 r:=by have xh:=gI;simp at xh;simp[ef,xh]
    rw[gI]at n2;refine cX rfl rfl λA s R hR=>?_;refine⟨aq (dec 390) (.cut 119 _ [(3,true,it,bS i' l1)] Nat _ (λaf=>[(3,it,bS i2 l2)]) (λaf=>[]) λv af aF=>
     aq (dec 1323333) (.cut 119 _ [] Nat _ (λaf=>[]) (λx=>[]) λv1 af b4=>
     aq (dec 0) (.cut 119 _ [] Unit _ (λaf=>[]) (λx=>[]) λaf bW bV=>
     aq (dec 545091) (.cut 119 _ [(4,false,bW,fq (.int (i'-1) (bV+1)) (.int i' v))] Nat _ (λaf=>[]) (λx=>[]) λv4 af eO=>
     aq (dec 0) (.cut 119 _ [] Unit _ (λaf=>[]) (λx=>[]) λaf af gF=>
     aq (dec 323) (.cut 119 _ [] Nat _ (λaf=>[]) (λx=>[]) λv6 af cy=>
     aq (dec 0) (.cut 119 _ [] Unit _ (λaf=>[]) (λx=>[]) λaf af dU=>
     aq (dec 4) (.cut 119 _ [(1,true,acc,ai (aD vs) ep)] Unit _ (λaf=>[(1,acc,ai (aD (vs++[(13,dU)])) (ep+1))]) (λx=>[]) λaf af af=>
     aq (dec 0) (.cut 90 _ [(0,false,cl,ic (.str ⟨⟨x⟩⟩ t)),(1,true,acc,ai (aD (vs++[(13,dU)])) (ep+1)),(2,true,aB,bz w fJ (some (bE fr aF,.int i' v))),(3,true,it,bS i2 l2)] (A6 true (vs++[(13,dU)]) 10 r) _
      (λq=>[(1,acc,ai (aD q.1.1) q.1.2.1),(2,aB,bz w fJ q.1.2.2),(3,it,bS (x.length:Int) 0)]) (λaf=>[]) λq af af=>
     .done (.ok .next) [(1,acc,ai (aD q.1.1) q.1.2.1),(2,aB,bz w fJ q.1.2.2),(3,it,bS (x.length:Int) 0)] []))))))))),
     au<|ay s1 λv af aF=>au<|ay (s2 v) λv1 af b4=>au<|ay (n1 v1 b4) λaf bW bV=>au<|ay (s3 bW (bV+1) v) λv4 af eO=>au<|ay (n2 v4 eO) λaf af gF=>au<|ay (s2 v) λv6 af cy=>
      au<|ay (n3 v6 cy) λaf af dU=>au<|ay (Gj vs 13 dU▸s5 (.int ((13:Nat):Int) dU)) λaf af af=>au<|ay (s6 (vs++[(13,dU)]) (ep+1) (some (bE fr aF,.int i' v)) (by simp;assumption)) λq af af=>
      cE hR ⟨q.1,by rw[q.2.1,hf,aL,fP];rfl,by rw[q.2.2];exact(sC _).symm⟩ rfl rfl rfl rfl,?_⟩
    clear hR hr hi hp hv hc hr' gv s1 s2 s3 s5 s6 n1 n2 n3 hf gI ih hx;subst hw;generalize (x.length:Int)=nn;(apply iw (fb:=fb) fr;kernel_rfl!)
   |false=>
    have hf:ef p (10::r)=ef 10 r:=by have xh:=gI;simp at xh;simp[ef,xh]
    rw[gI]at n2;refine cX rfl rfl λA s R hR=>?_;refine⟨aq (dec 390) (.cut 119 _ [(3,true,it,bS i' l1)] Nat _ (λaf=>[(3,it,bS i2 l2)]) (λaf=>[]) λv af aF=>
     aq (dec 1323333) (.cut 119 _ [] Nat _ (λaf=>[]) (λx=>[]) λv1 af b4=>
     aq (dec 0) (.cut 119 _ [] Unit _ (λaf=>[]) (λx=>[]) λaf bW bV=>
     aq (dec 545091) (.cut 119 _ [(4,false,bW,fq (.int (i'-1) (bV+1)) (.int i' v))] Nat _ (λaf=>[]) (λx=>[]) λv4 af eO=>
     aq (dec 0) (.cut 119 _ [] Unit _ (λaf=>[]) (λx=>[]) λaf af gF=>
     aq (dec 0) (.cut 90 _ [(0,false,cl,ic (.str ⟨⟨x⟩⟩ t)),(1,true,acc,ai (aD vs) ep),(2,true,aB,bz w fJ (some (bE fr aF,.int i' v))),(3,true,it,bS i2 l2)] (A6 true vs 10 r) _
      (λq=>[(1,acc,ai (aD q.1.1) q.1.2.1),(2,aB,bz w fJ q.1.2.2),(3,it,bS (x.length:Int) 0)]) (λaf=>[]) λq af af=>
     .done (.ok .next) [(1,acc,ai (aD q.1.1) q.1.2.1),(2,aB,bz w fJ q.1.2.2),(3,it,bS (x.length:Int) 0)] [])))))),
     au<|ay s1 λv af aF=>au<|ay (s2 v) λv1 af b4=>au<|ay (n1 v1 b4) λaf bW bV=>au<|ay (s3 bW (bV+1) v) λv4 af eO=>au<|ay (n2 v4 eO) λaf af gF=>
      au<|ay (s6 vs ep (some (bE fr aF,.int i' v)) (yx hv)) λq af af=>
      cE hR ⟨q.1,by rw[q.2.1,hf],by rw[q.2.2];exact(sC _).symm⟩ rfl rfl rfl rfl,?_⟩
    clear hR hr hi hp hv hc hr' gv s1 s2 s3 s5 s6 n1 n2 n3 hf gI ih hx;subst hw;generalize (x.length:Int)=nn;(apply iw (fb:=fb) fr;kernel_rfl!)
  ·have n1:=λt u=>Gh w [c] [10] t u true (by simp[gH])
   have n3:=λt u=>M8 w [c] [10] t u false (by simp[gH])
   have n4:=λt=>ac9 w c t;have hf:ef p (c::r)=c::ef c r:=by simp[ef,gH]
   have hcc:∀tk,aD vs++[.int (c:Int) tk]=aD (vs++[(c,tk)]):=λtk=>Gj vs c tk;generalize hci:((c:Nat):Int)=c' at*;refine cX rfl rfl λA s R hR=>?_;refine⟨aq (dec 390) (.cut 119 _ [(3,true,it,bS i' l1)] Nat _ (λaf=>[(3,it,bS i2 l2)]) (λaf=>[]) λv af aF=>
     aq (dec 1323333) (.cut 119 _ [] Nat _ (λaf=>[]) (λx=>[]) λv1 af b4=>
     aq (dec 0) (.cut 119 _ [] Unit _ (λaf=>[]) (λx=>[]) λaf bW bV=>
     aq (dec 323) (.cut 119 _ [] Nat _ (λaf=>[]) (λx=>[]) λv6 af cy=>
     aq (dec 0) (.cut 119 _ [] Unit _ (λaf=>[]) (λx=>[]) λaf af dU=>
     aq (dec 1323073) (.cut 119 _ [] Nat _ (λaf=>[]) (λx=>[]) λv7 af cy=>
     aq (dec 0) (.cut 119 _ [] Nat _ (λaf=>[]) (λx=>[]) λv8 af dU=>
     aq (dec 4) (.cut 119 _ [(1,true,acc,ai (aD vs) ep)] Unit _ (λaf=>[(1,acc,ai (aD (vs++[(c,v8)])) (ep+1))]) (λx=>[]) λaf af af=>
     aq (dec 0) (.cut 90 _ [(0,false,cl,ic (.str ⟨⟨x⟩⟩ t)),(1,true,acc,ai (aD (vs++[(c,v8)])) (ep+1)),(2,true,aB,bz w fJ (some (bE fr aF,.int i' v))),(3,true,it,bS i2 l2)] (A6 true (vs++[(c,v8)]) c r) _
      (λq=>[(1,acc,ai (aD q.1.1) q.1.2.1),(2,aB,bz w fJ q.1.2.2),(3,it,bS (x.length:Int) 0)]) (λaf=>[]) λq af af=>
     .done (.ok .next) [(1,acc,ai (aD q.1.1) q.1.2.1),(2,aB,bz w fJ q.1.2.2),(3,it,bS (x.length:Int) 0)] []))))))))),
     au<|ay s1 λv af aF=>au<|ay (s2 v) λv1 af b4=>au<|ay (n1 v1 b4) λaf bW bV=>au<|ay (s2 v) λv6 af cy=>
      au<|ay (n3 v6 cy) λaf af dU=>au<|ay (s2 v) λv7 af cy=>au<|ay (n4 v7) λv8 af af=>au<|ay (hcc v8▸s5 (.int c' v8)) λaf af af=>au<|ay (s6 (vs++[(c,v8)]) (ep+1) (some (bE fr aF,.int i' v)) (by simp;assumption)) λq af af=>
      cE hR ⟨q.1,by rw[q.2.1,hf,aL,fP];rfl,by rw[q.2.2];exact(sC _).symm⟩ rfl rfl rfl rfl,?_⟩
   clear hR hr hi hp hv hc hr' gv s1 s2 s3 s5 s6 n1 n3 n4 hf ih hx hcc gH hci;subst hw;generalize (x.length:Int)=nn;(apply iw (fb:=fb) fr;kernel_rfl!)
structure qX(p:List Nat→Prop) where
 at':Nat
 vs:List (Nat×Nat)
 ep:Nat
 ok:p (vs.map (·.1))
theorem Gk{w:ao}{b:Nat}{c:bf}{pre pre':List (Bool×Nat×Obj)}{X:Type}{res:X→aW}{upd new:X→List (Nat×Obj)}(H:Spec w b c pre X res upd new)(hp:pre.Perm pre'):Spec w b c pre' X res upd new:=
 λA s R hA hT hP hN hK hR=>H A s R hA hT (λp m=>hP p ((hp.map _).subset m)) ((hp.map _).nodup_iff.mpr hN) (λp m=>hK p (hp.subset m)) hR
def Ni(w:ao)(acc aB it cl:Nat)(x:List Nat)(t:Nat)(vs:List (Nat×Nat))(ep:Nat)(i left:Int)(fr:Option (Nat×aj)):List (Bool×Nat×Obj):=
 [(false,cl,ic (.str ⟨⟨x⟩⟩ t)),(true,it,bS i left),(true,acc,ai (aD vs) ep),(true,aB,bz w fJ fr)]
noncomputable def jJ(b:Bool)(p:Nat×aj):Option (Nat×aj):=match b with
 |true=>some p
 |false=>none
noncomputable abbrev xj(x:List Nat):Type:={q:List (Nat×Nat)×Nat×(Nat×aj)//q.1.map (·.1)=ef 0 x}
theorem Nj{o:Option (Nat×aj)}{b:Bool}(h:o.isSome=b):∃p,o=jJ b p:=by
 subst h;cases o with
 |none=>exact⟨(0,.none),rfl⟩
 |some p=>exact⟨p,rfl⟩
theorem adl(w0:ao)(fb fc:Bool)(x:List Nat)(hx:x.length≤900)(t it acc aB loc cl:Nat):
  Spec (ak w0 fb fc) 89 (adh it acc aB loc cl) (Ni (ak w0 fb fc) acc aB it cl x t [] 0 0 (x.length:Int) none) (xj x) (λaf=>.ok .next)
   (λq=>[(it,bS (x.length:Int) 0),(acc,ai (aD q.1.1) q.1.2.1),(aB,bz (ak w0 fb fc) fJ (jJ (!x.isEmpty) q.1.2.2))]) (λaf=>[]):=by
 have g:=Gk (adj w0 fb fc x hx t it acc aB loc cl x 0 0 [] 0 none rfl (iF _) rfl (bk _)) (pre':=Ni (ak w0 fb fc) acc aB it cl x t [] 0 0 (x.length:Int) none) (.cons _ (vo (l₁:=[_,_]) (l₂:=[_])));have h:=A4 (X':=xj x) (res':=λaf=>.ok .next) (upd':=λq=>[(acc,ai (aD q.1.1) q.1.2.1),(aB,bz (ak w0 fb fc) fJ (jJ (!x.isEmpty) q.1.2.2)),(it,bS (x.length:Int) 0)]) (new':=λaf=>[]) g λq=>by
  obtain⟨⟨vs,ep,fr⟩,ok,hs⟩:=q;refine fC (Nj hs) λp aG=>?_;subst aG;exact⟨⟨(vs,ep,p),ok⟩,rfl,rfl,rfl⟩
 clear g;refine cX rfl rfl λA s R hR=>?_;generalize (x.length:Int)=n at*;generalize (!x.isEmpty)=b at*;cases fc
 ·refine⟨aq (dec 1065220) (.cut 90 _ [(0,false,cl,ic (.str ⟨⟨x⟩⟩ t)),(1,true,it,bS 0 n),(2,true,acc,ai (aD []) 0),(3,true,aB,bz (ak w0 fb false) fJ none)] (xj x) _
   (λq=>[(2,acc,ai (aD q.1.1) q.1.2.1),(3,aB,bz (ak w0 fb false) fJ (jJ b q.1.2.2)),(1,it,bS n 0)]) (λaf=>[]) λq af af=>
   .done (.ok .next) [(1,it,bS n 0),(2,acc,ai (aD q.1.1) q.1.2.1),(3,aB,bz (ak w0 fb false) fJ (jJ b q.1.2.2))] []),au<|ay h λq af af=>cE hR q rfl rfl rfl rfl,?_⟩
  clear hR h hx;(apply ck (fb:=fb);kernel_rfl!)
 ·refine⟨aq (dec 0) (.cut 90 _ [(0,false,cl,ic (.str ⟨⟨x⟩⟩ t)),(1,true,it,bS 0 n),(2,true,acc,ai (aD []) 0),(3,true,aB,bz (ak w0 fb true) fJ none)] (xj x) _
   (λq=>[(2,acc,ai (aD q.1.1) q.1.2.1),(3,aB,bz (ak w0 fb true) fJ (jJ b q.1.2.2)),(1,it,bS n 0)]) (λaf=>[]) λq af af=>
   .done (.ok .next) [(1,it,bS n 0),(2,acc,ai (aD q.1.1) q.1.2.1),(3,aB,bz (ak w0 fb true) fJ (jJ b q.1.2.2))] []),au<|ay h λq af af=>cE hR q rfl rfl rfl rfl,?_⟩
  clear hR h hx;(apply ck (fb:=fb);kernel_rfl!)
theorem adn(w0:ao)(fb fc:Bool)(x:List Nat)(hx:x.length≤900)(t:Nat):
  Spec (ak w0 fb fc) 87 (.call (.ref 208) ⟨[.str ⟨⟨x⟩⟩ t],[]⟩) [] (qX (λl=>l=ef 0 x)) (λq=>.ok (.ret (.ref q.at'))) (λaf=>[]) (λq=>[(q.at',ai (aD q.vs) q.ep)]):=by
 have h0:=ada (ak w0 fb fc) x t (E4 hx);have h1:=λr t u v=>Nc (ak w0 fb fc) r x.length t u v (E4 hx);have h2:=λit acc aB loc cl=>adl w0 fb fc x hx t it acc aB loc cl;generalize hw:ak w0 fb fc=w at*;generalize (x.length:Int)=n at*;generalize (!x.isEmpty)=b at*;refine cX rfl rfl λA s R hR=>?_;refine⟨aq (dec 296319127028574462017) (.cut 118 _ [] Nat _ (λaf=>[]) (λaf=>[]) λv aX aF=>
  aq (dec 22339283865922) (.cut 119 _ [(2,false,aX,kQ n aF v (aF+1))] Nat _ (λaf=>[]) (λx=>[(x,bS 0 n)]) λit sz af=>
  aq (dec 8326) (.cut 89 _ [(1,false,s.heap.objs.size+1,ic (.str ⟨⟨x⟩⟩ t)),(3,true,it,bS 0 n),(4,true,sz,ai (aD []) 0),(5,true,sz+1,bz w fJ none)] (xj x) _
   (λq=>[(3,it,bS n 0),(4,sz,ai (aD q.1.1) q.1.2.1),(5,sz+1,bz w fJ (jJ b q.1.2.2))]) (λaf=>[]) λq af af=>
  aq (cond b (dec 33288) (dec 8)) (.done (.ok (.ret (.ref sz))) [] [(4,sz,ai (aD q.1.1) q.1.2.1)])))),
  au<|ay h0 λv aX aF=>au<|ay (h1 aX aF v (aF+1)) λit sz af=>au<|ay (h2 it sz (sz+1) s.heap.objs.size (s.heap.objs.size+1)) λq af af=>au<|cE hR ⟨sz,q.1.1,q.1.2.1,q.2⟩ rfl rfl rfl rfl,?_⟩
 clear hR h0 h1 h2 hx;subst hw;cases b
 ·(apply ck (fb:=fb);kernel_rfl!)
 ·(apply ck (fb:=fb);kernel_rfl!)
def Gl:bR:=st 20
noncomputable def ado:Str:=⟨⟨[95,108,97,119,95,115,101,110,116,46,60,108,111,99,97,108,115,62,46]⟩⟩
def A7(it loc:Nat):bf:=.forLoop (dg (sub 1 Gl)) (.ref it) (fBody (sub 1 Gl)) [] (envOf Gl ado 215 214 loc)
def nG(w:ao)(sl k1 k2:Nat)(x:List Nat×Nat)(fr:Option (Nat×aj)):Obj:=
 iK ([de w ⟨⟨[115,105,103,110,115]⟩⟩ k1 (.ref sl),de w ⟨⟨[115,101,110,116]⟩⟩ k2 (.str ⟨⟨x.1⟩⟩ x.2)]++Gf w fJ fr)
noncomputable def cA:Nat→List Nat→List Nat
 |_,[]=>[]
 |p,c::r=>(if c=13 then[13,10]else if c=46∧p=13 then[46,46]else[c])++cA c r
noncomputable abbrev A8(x:List Nat)(p:Nat)(r:List Nat):Type:={q:(List Nat×Nat)×Option (Nat×aj)//q.1.1=x++cA p r}
structure gJ where
 sl:Nat
 ep:Nat
 k1:Nat
 k2:Nat
 it:Nat
 loc:Nat
 vs:List (Nat×Nat)
 n:Int
def uz(w:ao)(z:gJ)(x:List Nat×Nat)(fr:Option (Nat×aj))(i l:Int):List (Bool×Nat×Obj):=
 [(false,z.sl,ai (aD z.vs) z.ep),(true,z.loc,nG w z.sl z.k1 z.k2 x fr),(true,z.it,bS i l)]
def Gm(w:ao)(z:gJ)(q:(List Nat×Nat)×Option (Nat×aj)):List (Nat×Obj):=[(z.loc,nG w z.sl z.k1 z.k2 q.1 q.2),(z.it,bS z.n 0)]
noncomputable abbrev A9(w:ao)(z:gJ)(x:List Nat×Nat)(fr:Option (Nat×aj))(i l:Int)(p:Nat)(r:List Nat):Prop:=
 Spec w 90 (A7 z.it z.loc) (uz w z x fr i l) (A8 x.1 p r) (λaf=>.ok .next) (λq=>Gm w z q.1) (λaf=>[])
def xm(w:ao)(z:gJ)(x:List Nat×Nat)(y:List Nat)(yt p:Nat)(r:List Nat)(i l:Int)(fr:Nat×aj)(e1 e2:List Nat):Cert:=
 aq e1 (.cut 119 (.builtin "str.__add__" ⟨[.str ⟨⟨x.1⟩⟩ x.2,.str ⟨⟨y⟩⟩ yt],[]⟩) [] Nat (λv=>.ok (.ret (.str ⟨⟨x.1++y⟩⟩ v))) (λaf=>[]) (λaf=>[]) λv af af=>
 aq e2 (.cut 90 (A7 z.it z.loc) [(0,false,z.sl,ai (aD z.vs) z.ep),(1,true,z.loc,nG w z.sl z.k1 z.k2 (x.1++y,v) (some fr)),(2,true,z.it,bS i l)] (A8 (x.1++y) p r) (λaf=>.ok .next)
  (λq=>[(1,z.loc,nG w z.sl z.k1 z.k2 q.1.1 q.1.2),(2,z.it,bS z.n 0)]) (λaf=>[]) λq af af=>
 .done (.ok .next) [(1,z.loc,nG w z.sl z.k1 z.k2 q.1.1 q.1.2),(2,z.it,bS z.n 0)] []))
theorem xo{w:ao}{z:gJ}{x:List Nat×Nat}{y:List Nat}{yt p p0:Nat}{r r0:List Nat}{i l i0 l0:Int}{fr:Nat×aj}{bX:Option (Nat×aj)}{e1 e2:List Nat}{s:aA}{R:aW→aA→Prop}
  (hR:Fin' s (A8 x.1 p0 r0) (λaf=>.ok .next) (λq=>Gm w z q.1) (λaf=>[]) R) (hs:cA p0 r0=y++cA p r) (hl:x.1.length+y.length≤10000) (ih:∀v,A9 w z (x.1++y,v) (some fr) i l p r):
  Good (bD w s R) (xm w z x y yt p r i l fr e1 e2) (jk s (uz w z x bX i0 l0)):=
 au<|ay (M3 x.1 y▸M0 w ⟨⟨x.1⟩⟩ ⟨⟨y⟩⟩ x.2 yt hl) λv af af=>au<|ay (ih v) λq af af=>cE hR ⟨q.1,by rw[q.2,hs,fP]⟩ rfl rfl rfl rfl
noncomputable abbrev ahP(c:bf)(v:aj)(rest:Nat→Nat→Cert):Cert:=.cut 119 c [] Unit (λaf=>.ok (.ret v)) (λaf=>[]) (λaf=>[]) λaf=>rest
def nH(z:gJ)(j:Int)(jt:Nat)(c:Int)(ct:Nat)(e:List Nat)(rest:Nat→Cert):Cert:=
 aq e (.cut 119 (.builtin "list.__getitem__" ⟨[.ref z.sl,.int j jt],[]⟩) [(0,false,z.sl,ai (aD z.vs) z.ep)] Unit (λaf=>.ok (.ret (.int c ct))) (λaf=>[]) (λaf=>[]) λaf af tk=>rest tk)
def kR(a:Int)(t:Nat)(b:Int)(u:Nat)(v:Bool)(e:List Nat)(rest:Nat→Cert):Cert:=
 aq e (.cut 119 (.builtin "int.__eq__" ⟨[.int a t,.int b u],[]⟩) [] Unit (λaf=>.ok (.ret (.bool v))) (λaf=>[]) (λaf=>[]) λaf af tk=>rest tk)
def uA(z:gJ)(i l i2 l2 c:Int)(ct:Nat)(b:Bool)(e0 e1 e2:List Nat)(rest:Nat→Nat→Nat→Cert):Cert:=
 aq e0 (.cut 119 (.builtin "range_iterator.__next__" ⟨[.ref z.it],[]⟩) [(2,true,z.it,bS i l)] Nat (λv=>.ok (.ret (.int i v))) (λaf=>[(2,z.it,bS i2 l2)]) (λaf=>[]) λv af aF=>
  nH z i v c ct e1 λb4=>kR c ct 13 b4 b e2 λbV=>rest v aF bV)
section
variable{w:ao}{s:aA}{R:aW→aA→Prop}{B:BB}
theorem nI{z:gJ}{j:Int}{jt:Nat}{c:Int}{ct:Nat}{e:List Nat}{rest:Nat→Cert}(h:Spec w 119 (.builtin "list.__getitem__" ⟨[.ref z.sl,.int j jt],[]⟩) [(false,z.sl,ai (aD z.vs) z.ep)] Unit (λaf=>.ok (.ret (.int c ct))) (λaf=>[]) (λaf=>[]))
  (g:∀tk,Good (bD w s R) (rest tk) B):Good (bD w s R) (nH z j jt c ct e rest) B:=au<|ay h λaf af tk=>g tk
theorem lY{a:Int}{t:Nat}{b:Int}{u:Nat}{v:Bool}{e:List Nat}{rest:Nat→Cert}(h:(a==b)=v)(g:∀tk,Good (bD w s R) (rest tk) B):Good (bD w s R) (kR a t b u v e rest) B:=
 au<|ay (wz w a b t u v h) λaf af tk=>g tk
theorem xr{z:gJ}{i l i2 l2 c:Int}{ct:Nat}{b:Bool}{e0 e1 e2:List Nat}{rest:Nat→Nat→Nat→Cert}(h0:0<l)(hi:i+1=i2)(hl:l-1=l2)
  (h:∀v,Spec w 119 (.builtin "list.__getitem__" ⟨[.ref z.sl,.int i v],[]⟩) [(false,z.sl,ai (aD z.vs) z.ep)] Unit (λaf=>.ok (.ret (.int c ct))) (λaf=>[]) (λaf=>[]))
  (hb:(c==13)=b) (g:∀v aF bV,Good (bD w s R) (rest v aF bV) B):Good (bD w s R) (uA z i l i2 l2 c ct b e0 e1 e2 rest) B:=
 au<|ay (by have:=M9 w z.it i l h0;rw[hi,hl]at this;exact this) λv af aF=>nI (h v) λb4=>lY hb λbV=>g v aF bV
end
def snA(w:ao)(z:gJ)(x:List Nat×Nat)(fr:Option (Nat×aj))(i l i2 l2:Int)(ct:Nat)(r:List Nat):Cert:=
 uA z i l i2 l2 13 ct true (dec 325) (dec 13403570585860) (dec 0) λv aF bV=>xm w z x [13,10] bV 13 r i2 l2 (bE fr aF,.int i v) (dec 4) (dec 260)
def snB(w:ao)(z:gJ)(x:List Nat×Nat)(fr:Option (Nat×aj))(i l i2 l2:Int)(ct:Nat)(r:List Nat):Cert:=
 uA z i l i2 l2 46 ct false (dec 325) (dec 13403570585860) (dec 0) λv aF af=>nH z i v 46 ct (dec 3272356100) λtk=>kR 46 ct 46 tk true (dec 0) λtk=>kR i v 0 tk true (dec 4) λtk=>
  xm w z x [46,46] tk 46 r i2 l2 (bE fr aF,.int i v) (dec 4) (dec 260)
def snD(w:ao)(z:gJ)(x:List Nat×Nat)(fr:Option (Nat×aj))(i l i2 l2:Int)(ct:Nat)(p:Int)(pt:Nat)(r:List Nat):Cert:=
 uA z i l i2 l2 46 ct false (dec 325) (dec 13403570585860) (dec 0) λv aF af=>nH z i v 46 ct (dec 3272356100) λtk=>kR 46 ct 46 tk true (dec 0) λtk=>kR i v 0 tk false (dec 4) λtk=>nH z (i-1) (tk+1) p pt (dec 3272356100) λtk=>kR p pt 13 tk true (dec 0) λtk=>
  xm w z x [46,46] tk 46 r i2 l2 (bE fr aF,.int i v) (dec 4) (dec 260)
def Nk(w:ao)(z:gJ)(x:List Nat×Nat)(i i2 l2:Int)(v:Nat)(c:Int)(ct c':Nat)(fr:Nat×aj)(r:List Nat)(e1 e2 e3 e4:List Nat):Cert:=
 nH z i v c ct e1 λaf=>aq e2 (.cut 119 (.builtin "chr" ⟨[.int c ct],[]⟩) [] Nat (λu=>.ok (.ret (.str ⟨⟨[c']⟩⟩ u))) (λaf=>[]) (λx=>[]) λu af af=>xm w z x [c'] u c' r i2 l2 fr e3 e4)
def snE(w:ao)(z:gJ)(x:List Nat×Nat)(fr:Option (Nat×aj))(i l i2 l2:Int)(ct:Nat)(p:Int)(pt:Nat)(r:List Nat):Cert:=
 uA z i l i2 l2 46 ct false (dec 325) (dec 13403570585860) (dec 0) λv aF af=>nH z i v 46 ct (dec 3272356100) λtk=>kR 46 ct 46 tk true (dec 0) λtk=>kR i v 0 tk false (dec 4) λtk=>nH z (i-1) (tk+1) p pt (dec 3272356100) λtk=>kR p pt 13 tk false (dec 0) λaf=>
  Nk w z x i i2 l2 v 46 ct 46 (bE fr aF,.int i v) r (dec 857828517482564) (dec 0) (dec 0) (dec 260)
def snF(w:ao)(z:gJ)(x:List Nat×Nat)(fr:Option (Nat×aj))(i l i2 l2 c:Int)(ct c':Nat)(r:List Nat):Cert:=
 uA z i l i2 l2 c ct false (dec 325) (dec 13403570585860) (dec 0) λv aF af=>nH z i v c ct (dec 3272356100) λtk=>kR c ct 46 tk false (dec 0) λaf=>
  Nk w z x i i2 l2 v c ct c' (bE fr aF,.int i v) r (dec 857828517482564) (dec 0) (dec 0) (dec 260)
def snZ(w:ao)(z:gJ)(x:List Nat×Nat)(fr:Option (Nat×aj)):Cert:=
 aq (dec 325) (.cut 110 (.builtin "range_iterator.__next__" ⟨[.ref z.it],[]⟩) [(2,false,z.it,bS z.n 0)] Nat (λx=>.error (.ref (x+1))) (λaf=>[]) (λx=>[(x,aK []),(x+1,gf x)]) λaf af af=>
   aq (dec 7) (.done (.ok .next) [(1,z.loc,nG w z.sl z.k1 z.k2 x fr),(2,z.it,bS z.n 0)] []))
noncomputable abbrev qY(w:ao)(z:gJ)(x:List Nat×Nat)(fr:Option (Nat×aj))(i l:Int)(cert:Cert):Prop:=
 ∀(A:aV) (s:aA) (R:aW→aA→Prop),fR (bD w s R) 1000000000 .base A (A.under (A7 z.it z.loc)) (90+1) (dQ (A7 z.it z.loc)) (dB (uz w z x fr i l)) s.heap.objs.size s.toks (uz w z x fr i l).length cert=fS cert ((uz w z x fr i l).map (·.2.1)) s.heap.objs.size
section
variable(w0:ao)(fb fc:Bool)(z:gJ)(x:List Nat×Nat)(fr:Option (Nat×aj))(i l i2 l2 c:Int)(ct c' pt:Nat)(p:Int)(r:List Nat)
theorem adw:qY (ak w0 fb fc) z x fr z.n 0 (snZ (ak w0 fb fc) z x fr):=by
 intro A s R;obtain⟨sl,ep,k1,k2,it,loc,vs,n⟩:=z;(apply ck (fb:=fb);kernel_rfl!)
theorem adx:qY (ak w0 fb fc) z x fr i l (snA (ak w0 fb fc) z x fr i l i2 l2 ct r):=by
 intro A s R;obtain⟨sl,ep,k1,k2,it,loc,vs,n⟩:=z;(apply iw (fb:=fb) fr;kernel_rfl!)
theorem ady:qY (ak w0 fb fc) z x fr i l (snB (ak w0 fb fc) z x fr i l i2 l2 ct r):=by
 intro A s R;obtain⟨sl,ep,k1,k2,it,loc,vs,n⟩:=z;(apply iw (fb:=fb) fr;kernel_rfl!)
theorem adz:qY (ak w0 fb fc) z x fr i l (snD (ak w0 fb fc) z x fr i l i2 l2 ct p pt r):=by
 intro A s R;obtain⟨sl,ep,k1,k2,it,loc,vs,n⟩:=z;(apply iw (fb:=fb) fr;kernel_rfl!)
theorem adA:qY (ak w0 fb fc) z x fr i l (snE (ak w0 fb fc) z x fr i l i2 l2 ct p pt r):=by
 intro A s R;obtain⟨sl,ep,k1,k2,it,loc,vs,n⟩:=z;(apply iw (fb:=fb) fr;kernel_rfl!)
theorem adB:qY (ak w0 fb fc) z x fr i l (snF (ak w0 fb fc) z x fr i l i2 l2 c ct c' r):=by
 intro A s R;obtain⟨sl,ep,k1,k2,it,loc,vs,n⟩:=z;(apply iw (fb:=fb) fr;kernel_rfl!)
end
theorem uB{w:ao}{z:gJ}{x:List Nat×Nat}{fr:Option (Nat×aj)}{i l:Int}{p:Nat}{r:List Nat}{cert:Cert}(run:qY w z x fr i l cert)
  (g:∀(s:aA) (R:aW→aA→Prop),Fin' s (A8 x.1 p r) (λaf=>.ok .next) (λq=>Gm w z q.1) (λaf=>[]) R→Good (bD w s R) cert (jk s (uz w z x fr i l))):A9 w z x fr i l p r:=
 cX rfl rfl λA s R hR=>⟨cert,g s R hR,run A s R⟩
theorem adC(w0:ao)(fb fc:Bool)(z:gJ)(hz:z.vs.length≤900)(hv:∀q∈z.vs,q.1≤10000)(hn:z.n=(z.vs.length:Int)):∀(r:List (Nat×Nat)) (p i:Nat) (x:List Nat×Nat) (fr:Option (Nat×aj)),z.vs.drop i=r→i+r.length=z.vs.length→
  ((i=0∧p=13)∨∃j pt,i=j+1∧z.vs[j]?=some (p,pt))→x.1.length+2*r.length≤9000→A9 (ak w0 fb fc) z x fr (i:Int) (r.length:Int) p (r.map (·.1)):=by
 intro r;induction r with
 |nil=>
  intro p i x fr hr hi hp hl;have e:(i:Int)=z.n:=by rw[hn,←hi];rfl
  rw[e];exact uB (adw w0 fb fc z x fr) λs R hR=>au<|ay (Nb _ z.it z.n 0 (yY _)) λaf af af=>au<|cE hR ⟨(x,fr),(dZ _).symm⟩ rfl rfl rfl rfl
 |cons q r ih=>
  obtain⟨c,ct⟩:=q;intro p i x fr hr hi hp hl;have hl:x.1.length+2*(r.length+1)≤9000:=hl;have hc:z.vs[i]?=some (c,ct):=by
   have:=congrArg (λl=>l[0]?) hr;simpa using this
  have get:∀(k d dt u:Nat),z.vs[k]?=some (d,dt)→Spec (ak w0 fb fc) 119 (.builtin "list.__getitem__" ⟨[.ref z.sl,.int (k:Int) u],[]⟩) [(false,z.sl,ai (aD z.vs) z.ep)] Unit (λaf=>.ok (.ret (.int (d:Int) dt))) (λaf=>[]) (λaf=>[]):=λk d dt u hk=>
   pA _ z.sl (aD z.vs) _ z.ep u k (by unfold aD;rw[dK,hk];rfl) (by unfold aD;rw[bl];exact E4 hz)
  have hr':z.vs.drop (i+1)=r:=by
   rw[←iR,hr];rfl
  have ih:=λx' cQ (h:x'.1.length+2*r.length≤9000)=>ih c (i+1) x' cQ hr' (E7 hi) (.inr ⟨i,ct,rfl,hc⟩) h;have h0:(0:Int)<((r.length+1:Nat):Int):=by exact QJ
  have h1:(i:Int)+1=((i+1:Nat):Int):=rfl;have h2:((r.length+1:Nat):Int)-1=(r.length:Int):=by exact yp
  show A9 _ z x fr (i:Int) ((r.length+1:Nat):Int) p (c::r.map (·.1));have a2:x.1.length+2≤10000:=by exact TJ hl
  have b2:x.1.length+2+2*r.length≤9000:=by exact TH hl
  have Gn:∀a b,(x.1++[a,b]).length+2*r.length≤9000:=λa b=>by rw[fZ];exact b2
  have Nm:∀a,(x.1++[a]).length+2*r.length≤9000:=λa=>by rw[fZ];exact(bh (Nat.add_le_add_right (jU _) _) b2)
  by_cases gI:c=13
  ·subst gI;exact uB (adx w0 fb fc z x fr _ _ _ _ ct _) λs R hR=>xr h0 h1 h2 (λv=>get i 13 ct v hc) rfl λv aF bV=>
    xo hR (by rfl) a2 λu=>ih _ _ (Gn _ _)
  ·by_cases Gp:c=46
   ·subst Gp;rcases hp with⟨rfl,rfl⟩|⟨j,pt,rfl,hj⟩
    ·exact uB (ady w0 fb fc z x fr _ _ _ _ ct _) λs R hR=>xr h0 h1 h2 (λv=>get 0 46 ct v hc) rfl λv aF bV=>nI (get 0 46 ct v hc) λaf=>lY rfl λaf=>lY rfl λaf=>
      xo hR (by rfl) a2 λu=>ih _ _ (Gn _ _)
    ·have j1:((j+1:Nat):Int)-1=(j:Int):=by exact yp
     have j0:(((j+1:Nat):Int)==0)=false:=beq_eq_false_iff_ne.mpr Sw;by_cases Gq:p=13
     ·subst Gq;exact uB (adz w0 fb fc z x fr _ _ _ _ ct pt _ _) λs R hR=>xr h0 h1 h2 (λv=>get (j+1) 46 ct v hc) rfl λv aF bV=>nI (get (j+1) 46 ct v hc) λaf=>lY rfl λaf=>lY j0 λtk=>
       nI (j1.symm▸get j 13 pt (tk+1) hj) λaf=>lY rfl λaf=>xo hR (by rfl) a2 λu=>ih _ _ (Gn _ _)
     ·exact uB (adA w0 fb fc z x fr _ _ _ _ ct pt _ _) λs R hR=>xr h0 h1 h2 (λv=>get (j+1) 46 ct v hc) rfl λv aF bV=>nI (get (j+1) 46 ct v hc) λaf=>lY rfl λaf=>lY j0 λtk=>
       nI (j1.symm▸get j p pt (tk+1) hj) λaf=>lY (beq_eq_false_iff_ne.mpr (Iu Gq)) λaf=>nI (get (j+1) 46 ct v hc) λaf=>au<|ay (M7 _ 46 ct (by decide)) λaf af af=>
        xo hR (by simp[cA,Gq]) (yT a2) λu=>ih _ _ (Nm _)
   ·exact uB (adB w0 fb fc z x fr _ _ _ _ _ ct c _) λs R hR=>xr h0 h1 h2 (λv=>get i c ct v hc) (beq_eq_false_iff_ne.mpr (Iu gI)) λv aF bV=>nI (get i c ct v hc) λaf=>lY (beq_eq_false_iff_ne.mpr (SJ Gp)) λaf=>
     nI (get i c ct v hc) λaf=>au<|ay (M7 _ c ct (hv _ (eB hc))) λaf af af=>xo hR (by simp[cA,gI,Gp]) (yT a2) λu=>ih _ _ (Nm _)
theorem adD(w0:ao)(fb fc:Bool)(sl ep:Nat)(vs:List (Nat×Nat))(hz:vs.length≤900)(hv:∀q∈vs,q.1≤10000):
  Spec (ak w0 fb fc) 87 (.call (.ref 215) ⟨[.ref sl],[]⟩) [(false,sl,ai (aD vs) ep)] Nat (λu=>.ok (.ret (.str ⟨⟨cA 13 (vs.map (·.1))⟩⟩ u))) (λaf=>[]) (λaf=>[]):=by
 have h0:=nu (ak w0 fb fc) sl (aD vs) ep vs.length (by unfold aD;rw[bl]) (bh hz (by decide))
 rw[Int.ofNat_eq_natCast]at h0;have h1:=λr t u v=>Nc (ak w0 fb fc) r vs.length t u v (bh hz (by decide))
 have h2:=λk1 k2 it loc xt=>adC w0 fb fc ⟨sl,ep,k1,k2,it,loc,vs,(vs.length:Int)⟩ hz hv rfl vs 13 0 ([],xt) none rfl (iF _) (.inl ⟨rfl,rfl⟩) (by show 0+2*vs.length≤9000;exact Sj hz)
 have h2:=λk1 k2 it loc xt=>A4 (X':=Nat×Option (Nat×aj)) (res':=λaf=>.ok .next) (upd':=λq=>[(loc,nG (ak w0 fb fc) sl k1 k2 (cA 13 (vs.map (·.1)),q.1) q.2),(it,bS (vs.length:Int) 0)]) (new':=λaf=>[]) (h2 k1 k2 it loc xt) λq=>by
  obtain⟨⟨⟨x,xt⟩,fr⟩,h⟩:=q;obtain rfl:x=_:=h;exact⟨(xt,fr),rfl,rfl,rfl⟩
 generalize cA 13 (vs.map (·.1))=y at*;generalize hw:ak w0 fb fc=w at*;generalize (vs.length:Int)=n at*;refine cX rfl rfl λA s R hR=>?_;refine⟨aq (dec 18964424143019717959745) (.cut 118 _ [(0,false,sl,ai (aD vs) ep)] Nat _ (λaf=>[]) (λaf=>[]) λv aX aF=>
  aq (dec 22339283865922) (.cut 119 _ [(2,false,aX,kQ n aF v (aF+1))] Nat _ (λaf=>[]) (λx=>[(x,bS 0 n)]) λit af b4=>
  aq (dec 6) (.cut 90 _ [(0,false,sl,ai (aD vs) ep),(1,true,s.heap.objs.size,nG w sl s.toks (s.toks+2) ([],s.toks+1) none),(3,true,it,bS 0 n)] (Nat×Option (Nat×aj)) _
   (λq=>[(1,s.heap.objs.size,nG w sl s.toks (s.toks+2) (y,q.1) q.2),(3,it,bS n 0)]) (λaf=>[]) λq af af=>
  aq (dec 4) (.done (.ok (.ret (.str ⟨⟨y⟩⟩ q.1))) [] [])))),
  au<|ay h0 λv aX aF=>au<|ay (h1 aX aF v (aF+1)) λit af af=>au<|ay (h2 s.toks (s.toks+2) it s.heap.objs.size (s.toks+1)) λq af af=>au<|cE hR q.1 rfl rfl rfl rfl,?_⟩
 clear hR h0 h1 h2 hz hv;(apply cO hw;kernel_rfl!)
section
open PySem.Sre (M Outcome.matched Outcome.failed)
noncomputable def c1:Array Nat:=#[14,4,0,1,1,6,1,16,46,1]
noncomputable def bX(pc s:Nat)(o:Bool):qi:={wait:=.nextStart,pc:=pc,pos:=s,outermost:=o}
noncomputable def bq(code text:Array Nat)(lim ls s:Nat)(pc pos h:Nat)(o:Bool)(sn:gP)(fs:List qi)(wt:Nat)(an:Option Bool)(oc:Option Sre.Outcome):M:=
 {code:=code,text:=text,lim:=lim,start:=s,lastStart:=ls,wholeText:=false,mustAdvance:=false,pc:=pc,pos:=pos,handed:=h,outermost:=o,marks:=#[],lastmark:=-1,lastindex:=-1,loops:=#[],inner:=none,
  frames:=fs,weight:=wt,answer:=an,seen:=sn,outcome:=oc}
noncomputable def dN(k:Nat)(P:M→Prop)(m:M):Prop:=∃n,n≤k∧(M.runFor n m).outcome≠none∧P (M.runFor n m)
theorem dH{k:Nat}{P:M→Prop}{m:M}(h:m.outcome=none)(e:dN k P m.step):dN (k+1) P m:=by
 refine ie e λn h1 h2 h3=>?_;have e:M.runFor (n+1) m=M.runFor n m.step:=by
  show(if m.outcome.isSome then m else M.runFor n m.step)=_
  rw[h];rfl
 exact⟨n+1,ig h1,e▸h2,e▸h3⟩
theorem xu{k:Nat}{P:M→Prop}{m:M}(h:m.outcome≠none)(p:P m):dN k P m:=⟨0,iT _,h,p⟩
theorem jK{k k':Nat}{P:M→Prop}{m:M}(e:dN k P m)(h:k≤k'):dN k' P m:=by
 refine ie e λn h1 h2 h3=>?_;exact⟨n,bh h1 h,h2,h3⟩
noncomputable def kg(r:Option (Nat×Nat))(m:M):Prop:=match r with
 |some (t,e)=>m.outcome=some .matched∧m.start=t∧m.handed=e
 |none=>m.outcome=some .failed
variable{code text:Array Nat}{lim ls s pc pos h:Nat}{o:Bool}{sn:gP}
theorem Nn{p0:Nat}:dN 2 (kg (some (s,h))) (bq code text lim ls s pc pos h o sn [bX p0 s o] 1 (some true) none):=
 dH rfl (dH rfl (xu (λe=>nomatch e) ⟨rfl,rfl,rfl⟩))
theorem Np{b:Bool}(s:Nat)(o:Bool)(sn:gP)(hb:(s==0||text.getD (s-1) 0==10)=b):M.step (bq c1 text lim ls s 5 s s o sn [bX 5 s o] 1 none none)=
  bq c1 text lim ls s (cond b 7 5) s s o ((sn.add 6).add 44) [bX 5 s o] 1 (cond b none (some false)) none:=by
 have e:M.step (bq c1 text lim ls s 5 s s o sn [bX 5 s o] 1 none none)=(match M.isAt (bq c1 text lim ls s 5 s s o (sn.add 6) [bX 5 s o] 1 none none) 1 with
  |.error why=>M.stick (bq c1 text lim ls s 5 s s o (sn.add 6) [bX 5 s o] 1 none none) why
  |.ok yes=>if yes then bq c1 text lim ls s 7 s s o ((sn.add 6).add 44) [bX 5 s o] 1 none none else bq c1 text lim ls s 5 s s o ((sn.add 6).add 44) [bX 5 s o] 1 (some false) none):=rfl
 rw[e,show M.isAt (bq c1 text lim ls s 5 s s o (sn.add 6) [bX 5 s o] 1 none none) 1=.ok (s==0||text.getD (s-1) 0==10)from rfl,hb];cases b<;>rfl
theorem pC{w wt:Nat}{fs:List qi}{b:Bool}(hp:pc<code.size)(Gr:code.getD pc 0=16)(hw:code.getD (pc+1) 0=w)(hb:(decide (pos<lim) && text.getD pos 0==w)=b):
  M.step (bq code text lim ls s pc pos h o sn fs wt none none)=bq code text lim ls s (cond b (pc+2) pc) (cond b (pos+1) pos) h o (sn.add 16) fs wt (cond b none (some false)) none:=by
 have e1:M.step (bq code text lim ls s pc pos h o sn fs wt none none)=M.exec (bq code text lim ls s pc pos h o sn fs wt none none):=if_pos hp;have e2:M.word (bq code text lim ls s pc pos h o sn fs wt none none) 0=16:=Gr;have e3:∀c sn,Sre.accepts code pc c sn=.ok (c==w,sn):=λc sn=>by
  unfold Sre.accepts;rw[Gr,hw];rfl
 have e4:Dz code pc=2:=by
  unfold Dz;rw[Gr];rfl
 rw[e1];unfold M.exec;rw[e2];show(if pos≥lim then bq code text lim ls s pc pos h o (sn.add 16) fs wt (some false) none else match Sre.accepts code pc (text.getD pos 0) (sn.add 16)with
  |.error why=>M.stick (bq code text lim ls s pc pos h o (sn.add 16) fs wt none none) why
  |.ok (false,sn)=>bq code text lim ls s pc pos h o sn fs wt (some false) none
  |.ok (true,sn)=>bq code text lim ls s (pc+Dz code pc) (pos+1) h o sn fs wt none none)=_
 rw[e3,e4];by_cases hl:lim≤pos
 ·rw[if_pos hl];rw[decide_eq_false (Vl hl:¬pos<lim)]at hb;subst hb;rfl
 ·rw[if_neg hl];rw[decide_eq_true (Vp hl:pos<lim)]at hb;subst hb;cases (text.getD pos 0==w)<;>rfl
theorem adE(s:Nat)(o:Bool)(sn:gP):M.step (bq c1 text lim ls s 9 pos h o sn [bX 5 s o] 1 none none)=bq c1 text lim ls s 9 pos pos o (sn.add 1) [bX 5 s o] 1 (some true) none:=by
 cases o<;>rfl
theorem adF(hl:s<ls):M.step (bq c1 text lim ls s pc pos h o sn [bX 5 s o] 1 (some false) none)=bq c1 text lim ls (s+1) 5 (s+1) (s+1) false sn [bX 5 (s+1) false] 1 none none:=by
 have e:M.step (bq c1 text lim ls s pc pos h o sn [bX 5 s o] 1 (some false) none)=(if s<ls then bq c1 text lim ls (s+1) 5 (s+1) (s+1) false sn [bX 5 (s+1) false] 1 none none else bq c1 text lim ls s 5 s h o sn [] 0 (some false) none):=rfl
 rw[e,if_pos hl]
theorem Nq(hl:¬s<ls):dN 2 (kg none) (bq c1 text lim ls s pc pos h o sn [bX 5 s o] 1 (some false) none):=by
 have e:M.step (bq c1 text lim ls s pc pos h o sn [bX 5 s o] 1 (some false) none)=(if s<ls then bq c1 text lim ls (s+1) 5 (s+1) (s+1) false sn [bX 5 (s+1) false] 1 none none else bq c1 text lim ls s 5 s h o sn [] 0 (some false) none):=rfl
 refine dH rfl ?_;rw[e,if_neg hl];exact dH rfl (xu (λe=>nomatch e) rfl)
noncomputable def gS(x:List Nat):Nat→Nat→Option (Nat×Nat)
 |0,_=>none
 |n+1,s=>match(s==0||x.getD (s-1) 0==10) && x.getD s 0==46 with
  |true=>some (s,s+1)
  |false=>gS x n (s+1)
theorem nJ(x:List Nat)(i d:Nat):(⟨x⟩:Array Nat).getD i d=x.getD i d:=by
 simp[Array.getD,yS];split<;>simp_all
theorem adG(x:List Nat):∀(n s:Nat) (o:Bool) (sn:gP),s+n=x.length→dN (3*n+5) (kg (gS x n s)) (bq c1 ⟨x⟩ x.length x.length s 5 s s o sn [bX 5 s o] 1 none none):=by
 intro n;induction n with
 |zero=>
  intro s o sn hs;refine dH rfl ?_;rw[Np s o sn rfl];cases (s==0||(⟨x⟩:Array Nat).getD (s-1) 0==10)with
  |false=>exact jK (Nq (Cm hs)) (by decide)
  |true=>
   refine dH rfl ?_;show dN _ _ (M.step (bq c1 ⟨x⟩ x.length x.length s 7 s s o ((sn.add 6).add 44) [bX 5 s o] 1 none none));rw[pC (b:=false) (w:=46) (by show 7<10;decide) rfl rfl (by rw[decide_eq_false (Cm hs)];rfl)]
   exact jK (Nq (Cm hs)) (by decide)
 |succ n ih=>
  intro s o sn hs;have hl:s<x.length:=by exact yy hs
  have next:∀sn pc,dN (3*n+6) (kg (gS x n (s+1))) (bq c1 ⟨x⟩ x.length x.length s pc s s o sn [bX 5 s o] 1 (some false) none):=λsn pc=>by
   refine dH rfl ?_;rw[adF hl];exact ih (s+1) false sn (E7 hs)
  refine dH rfl ?_;rw[Np s o sn rfl,nJ];unfold gS;cases (s==0||x.getD (s-1) 0==10)with
  |false=>exact jK (next _ _) Ro
  |true=>
   refine dH rfl ?_;show dN _ _ (M.step (bq c1 ⟨x⟩ x.length x.length s 7 s s o ((sn.add 6).add 44) [bX 5 s o] 1 none none));rw[pC (w:=46) (by show 7<10;decide) rfl rfl rfl,decide_eq_true hl,nJ]
   show dN _ (kg (match(true && x.getD s 0==46)with|true=>_|false=>_)) _
   cases (x.getD s 0==46)with
   |false=>exact jK (next _ _) Rn
   |true=>
    refine dH rfl ?_;show dN _ _ (M.step (bq c1 ⟨x⟩ x.length x.length s 9 (s+1) s o (((sn.add 6).add 44).add 16) [bX 5 s o] 1 none none));rw[adE];exact jK Nn Q6
end
section
open PySem.Sre (M Outcome.matched Outcome.failed)
theorem adH(x:List Nat)(s:Nat)(hs:s≤x.length):dN (3*(x.length-s)+6) (kg (gS x (x.length-s) s)) (vQ c1 ⟨x⟩ 0 s x.length false):=by
 have e:vQ c1 ⟨x⟩ 0 s x.length false=(if(decide (s>x.length)||decide (x.length-s<1))=true then bq c1 ⟨x⟩ x.length 0 s 5 s s true (({}:gP).add 14) [] 0 (some false) none
   else bq c1 ⟨x⟩ x.length x.length s 5 s s true (({}:gP).add 14) [bX 5 s true] 1 none none):=rfl
 rw[e];split
 ·rename_i h
  simp at h;rw[(by exact I0 h:x.length-s=0)]
  exact jK (k:=1) (dH rfl (xu (λe=>nomatch e) rfl)) (by decide)
 ·exact jK (adG x _ s true _ (rR hs)) S9
noncomputable def c2:Array Nat:=#[14,9,4,1,2,16,10,16,13,0,7,7,16,13,16,10,15,18,5,16,10,15,13,11,16,13,5,5,0,16,10,1,15,2,0,1]
noncomputable def kp:Sre.Kept:={lastmark:=-1,lastindex:=-1,whole:=false,marks:=#[]}
noncomputable def cZ(pc s:Nat)(o:Bool):qi:={wait:=.nextBranch,pc:=pc,pos:=s,outermost:=o,kept:=kp}
noncomputable def Gs(pc s:Nat)(o:Bool):qi:={wait:=.lookNot,pc:=pc,pos:=s,outermost:=o,kept:=kp}
variable{text:Array Nat}{lim ls s pc pos h:Nat}{o:Bool}{sn:gP}
theorem adI:M.step (bq c2 text lim ls s 10 s s o sn [bX 10 s o] 1 none none)=bq c2 text lim ls s 12 s s o (sn.add 7) [cZ 11 s o,bX 10 s o] 2 none none:=rfl
theorem Nr:M.step (bq c2 text lim ls s pc pos h o sn [cZ 11 s o,bX 10 s o] 2 (some false) none)=bq c2 text lim ls s 19 s s o sn [cZ 18 s o,bX 10 s o] 2 none none:=rfl
theorem adJ:M.step (bq c2 text lim ls s pc pos h o sn [cZ 18 s o,bX 10 s o] 2 (some false) none)=bq c2 text lim ls s 24 s s o sn [cZ 23 s o,bX 10 s o] 2 none none:=rfl
theorem adK:M.step (bq c2 text lim ls s 26 pos h o sn [cZ 23 s o,bX 10 s o] 2 none none)=bq c2 text lim ls s 29 pos pos false (sn.add 5) [Gs 26 pos o,cZ 23 s o,bX 10 s o] 3 none none:=rfl
theorem adL{q:Nat}{o':Bool}:M.step (bq c2 text lim ls s pc pos h o' sn [Gs 26 q o,cZ 23 s o,bX 10 s o] 3 (some false) none)=bq c2 text lim ls s 32 q h o sn [cZ 23 s o,bX 10 s o] 2 none none:=rfl
theorem Gu{fs:List qi}{wt:Nat}(hp:pc<c2.size)(h15:c2.getD pc 0=15)(he:pc+1+c2.getD (pc+1) 0=35):M.step (bq c2 text lim ls s pc pos h o sn fs wt none none)=bq c2 text lim ls s 35 pos h o (sn.add 15) fs wt none none:=by
 have e1:M.step (bq c2 text lim ls s pc pos h o sn fs wt none none)=M.exec (bq c2 text lim ls s pc pos h o sn fs wt none none):=if_pos hp;rw[e1];unfold M.exec;rw[show M.word (bq c2 text lim ls s pc pos h o sn fs wt none none) 0=15 from h15];show bq c2 text lim ls s (pc+1+c2.getD (pc+1) 0) pos h o (sn.add 15) fs wt none none=_;rw[he]
theorem adN{fs:List qi}{wt:Nat}:M.step (bq c2 text lim ls s 35 pos h o sn fs wt none none)=bq c2 text lim ls s 35 pos pos o (sn.add 1) fs wt (some true) none:=by
 cases o<;>rfl
theorem through{q:Nat}:dN 4 (kg (some (s,pos))) (bq c2 text lim ls s 35 pos h o sn [cZ q s o,bX 10 s o] 2 none none):=by
 refine dH rfl ?_;rw[adN];exact dH rfl (show dN 2 _ (bq c2 text lim ls s q s pos o (sn.add 1) [bX 10 s o] 1 (some true) none)from Nn)
noncomputable def i9(x:List Nat)(s:Nat):Nat:=match x.getD s 0==13 && (decide (s+1<x.length) && x.getD (s+1) 0==10)with
 |true=>s+2
 |false=>s+1
theorem adO(x:List Nat)(s:Nat)(o:Bool)(sn:gP)(hs:s<x.length)(hc:(x.getD s 0==10||x.getD s 0==13)=true):
  dN 20 (kg (some (s,i9 x s))) (bq c2 ⟨x⟩ x.length ls s 10 s s o sn [bX 10 s o] 1 none none):=by
 refine dH rfl ?_;rw[adI];refine dH rfl ?_;rw[pC (w:=13) (by show 12<36;decide) rfl rfl rfl,decide_eq_true hs,nJ]
 unfold i9;cases gI:(x.getD s 0==13)with
 |true=>
  refine dH rfl ?_;show dN _ _ (M.step (bq c2 ⟨x⟩ x.length ls s 14 (s+1) s o ((sn.add 7).add 16) [cZ 11 s o,bX 10 s o] 2 none none));rw[pC (w:=10) (by show 14<36;decide) rfl rfl rfl,nJ]
  cases gH:(decide (s+1<x.length) && x.getD (s+1) 0==10)with
  |true=>
   refine dH rfl ?_;show dN _ _ (M.step (bq c2 ⟨x⟩ x.length ls s 16 (s+2) s o (((sn.add 7).add 16).add 16) [cZ 11 s o,bX 10 s o] 2 none none));rw[Gu (by show 16<36;decide) rfl rfl]
   exact jK through (by decide)
  |false=>
   refine dH rfl ?_;show dN _ _ (M.step (bq c2 ⟨x⟩ x.length ls s 14 (s+1) s o (((sn.add 7).add 16).add 16) [cZ 11 s o,bX 10 s o] 2 (some false) none));rw[Nr];refine dH rfl ?_;have n10:(x.getD s 0==10)=false:=by
    rw[(by simpa using gI:x.getD s 0=13)];rfl
   rw[pC (w:=10) (b:=false) (by show 19<36;decide) rfl rfl (by rw[nJ,n10,Bool.and_false])]
   refine dH rfl ?_;show dN _ _ (M.step (bq c2 ⟨x⟩ x.length ls s 19 s s o ((((sn.add 7).add 16).add 16).add 16) [cZ 18 s o,bX 10 s o] 2 (some false) none));rw[adJ];refine dH rfl ?_;rw[pC (w:=13) (b:=true) (by show 24<36;decide) rfl rfl (by rw[nJ,gI,decide_eq_true hs];rfl)]
   refine dH rfl ?_;show dN _ _ (M.step (bq c2 ⟨x⟩ x.length ls s 26 (s+1) s o (((((sn.add 7).add 16).add 16).add 16).add 16) [cZ 23 s o,bX 10 s o] 2 none none));rw[adK];refine dH rfl ?_;rw[pC (w:=10) (b:=false) (by show 29<36;decide) rfl rfl (by rw[nJ,gH])]
   refine dH rfl ?_;show dN _ _ (M.step (bq c2 ⟨x⟩ x.length ls s 29 (s+1) (s+1) false (((((((sn.add 7).add 16).add 16).add 16).add 16).add 5).add 16) [Gs 26 (s+1) o,cZ 23 s o,bX 10 s o] 3 (some false) none));rw[adL];refine dH rfl ?_;rw[Gu (by show 32<36;decide) rfl rfl]
   exact jK through (by decide)
 |false=>
  have gH:(x.getD s 0==10)=true:=by rw[gI,sy]at hc;exact hc
  refine dH rfl ?_;show dN _ _ (M.step (bq c2 ⟨x⟩ x.length ls s 12 s s o ((sn.add 7).add 16) [cZ 11 s o,bX 10 s o] 2 (some false) none));rw[Nr];refine dH rfl ?_;rw[pC (w:=10) (b:=true) (by show 19<36;decide) rfl rfl (by rw[nJ,gH,decide_eq_true hs];rfl)]
  refine dH rfl ?_;show dN _ _ (M.step (bq c2 ⟨x⟩ x.length ls s 21 (s+1) s o (((sn.add 7).add 16).add 16) [cZ 18 s o,bX 10 s o] 2 none none));rw[Gu (by show 21<36;decide) rfl rfl]
  exact jK through (by decide)
noncomputable def gh(x:List Nat):Nat→Nat→Option (Nat×Nat)
 |0,_=>none
 |n+1,s=>match x.getD s 0==10||x.getD s 0==13 with
  |true=>some (s,i9 x s)
  |false=>gh x n (s+1)
theorem adQ(c:Nat)(sn:gP):∃sn',Sre.inSet c2 c c2.size 5 true sn=.ok (c==10||c==13,sn'):=by
 refine⟨_,(?_:_=Except.ok (_,match c==10,c==13 with|true,_=>sn.add 16|false,true=>(sn.add 16).add 16|false,false=>((sn.add 16).add 16).add 0))⟩
 have e:Sre.inSet c2 c c2.size 5 true sn=(if c==10 then .ok (true,sn.add 16)else if c==13 then .ok (true,(sn.add 16).add 16)else .ok (false,((sn.add 16).add 16).add 0)):=rfl
 rw[e];cases (c==10)<;>cases (c==13)<;>rfl
theorem adR(m:M)(x:List Nat)(hc:m.code=c2)(ht:m.text=⟨x⟩)(hl:m.lim=x.length):∀(n s:Nat) (sn:gP),s+n=x.length→∃sn',M.admitted m (n+1) s sn=.ok ((gh x n s).map (·.1),sn'):=by
 intro n;induction n with
 |zero=>
  intro s sn hs;refine⟨sn,?_⟩;show(if s≥m.lim then _ else _)=_
  rw[if_pos (VL hs hl)];rfl
 |succ n ih=>
  intro s sn hs;obtain⟨sn',e⟩:=adQ (x.getD s 0) sn;have e1:M.admitted m (n+1+1) s sn=(if s≥m.lim then .ok (none,sn)else match Sre.inSet m.code (m.text.getD s 0) m.code.size 5 true sn with
   |.ok (true,seen)=>.ok (some s,seen)
   |.ok (false,seen)=>M.admitted m (n+1) (s+1) seen
   |.error why=>.error why):=rfl
  rw[e1,if_neg (WZ hs hl),hc,ht,nJ,e];unfold gh;cases (x.getD s 0==10||x.getD s 0==13)with
  |true=>exact⟨sn',rfl⟩
  |false=>exact ih (s+1) sn' (E7 hs)
theorem Nt{x:List Nat}:∀{n s t e:Nat},s+n=x.length→gh x n s=some (t,e)→t<x.length∧(x.getD t 0==10||x.getD t 0==13)=true∧e=i9 x t:=by
 intro n;induction n with
 |zero=>exact λaf h=>nomatch h
 |succ n ih=>
  intro s t e hs h;unfold gh at h;split at h
  ·rename_i hb
   injection h with h
   injection h with h1 h2
   subst h1;exact⟨by exact yy hs,hb,h2.symm⟩
  ·exact ih (E7 hs) h
theorem adS(x:List Nat)(s:Nat)(hs:s≤x.length):dN 21 (kg (gh x (x.length-s) s)) (vQ c2 ⟨x⟩ 0 s x.length false):=by
 have e:vQ c2 ⟨x⟩ 0 s x.length false=(if(decide (s>x.length)||decide (x.length-s<1))=true then bq c2 ⟨x⟩ x.length 0 s 10 s s true (({}:gP).add 14) [] 0 (some false) none
   else M.attemptFrom (bq c2 ⟨x⟩ x.length x.length s 10 s s true (({}:gP).add 14) [] 0 none none) s true):=rfl
 rw[e];split
 ·rename_i h
  simp at h;rw[(by exact I0 h:x.length-s=0)]
  exact jK (k:=1) (dH rfl (xu (λe=>nomatch e) rfl)) (by decide)
 ·have e2:M.attemptFrom (bq c2 ⟨x⟩ x.length x.length s 10 s s true (({}:gP).add 14) [] 0 none none) s true=(match M.admitted (bq c2 ⟨x⟩ x.length x.length s 10 s s true (({}:gP).add 14) [] 0 none none) (x.length+1-s) s (({}:gP).add 14)with
   |.ok (some s',seen)=>bq c2 ⟨x⟩ x.length x.length s' 10 s' s' true seen [bX 10 s' true] 1 none none
   |.ok (none,seen)=>bq c2 ⟨x⟩ x.length x.length s 10 s s true seen [] 0 (some false) none
   |.error why=>M.stick (bq c2 ⟨x⟩ x.length x.length s 10 s s true (({}:gP).add 14) [] 0 none none) why):=rfl
  obtain⟨sn',e3⟩:=adR (bq c2 ⟨x⟩ x.length x.length s 10 s s true (({}:gP).add 14) [] 0 none none) x rfl rfl rfl (x.length-s) s (({}:gP).add 14) (rR hs);rw[e2,show x.length+1-s=x.length-s+1 by exact Ve hs,e3]
  cases hf:gh x (x.length-s) s with
  |none=>exact jK (k:=1) (dH rfl (xu (λe=>nomatch e) rfl)) (by decide)
  |some p=>
   obtain⟨t,e⟩:=p;refine dJ (Nt (rR hs) hf) λh1 h2 aG=>?_;subst aG;exact jK (adO x t true sn' h1 h2) (by decide)
end
section
open Builtin Builtin.Str Builtin.Re
open PySem.Sre (M)
theorem Ba:∀(n:Nat) (m:M),m.outcome.isSome=true→M.runFor n m=m
 |0,_,_=>rfl
 |n+1,m,h=>by
  show(if m.outcome.isSome then m else M.runFor n m.step)=m
  rw[h];rfl
theorem xA:∀(a b:Nat) (m:M),M.runFor (a+b) m=M.runFor b (M.runFor a m)
 |0,b,m=>by rw[iF];rfl
 |a+1,b,m=>by
  rw[Nat.succ_add];show(if m.outcome.isSome then m else M.runFor (a+b) m.step)=M.runFor b (if m.outcome.isSome then m else M.runFor a m.step)
  cases h:m.outcome.isSome with
  |true=>exact(Ba b m h).symm
  |false=>exact xA a b m.step
section
variable{md:Model}{A:aV}{E:aj→aA→Prop}{s:aA}
theorem Nu{P:M→Prop}{Q:M→aA→Prop}(hq:∀m',m'.outcome≠none→P m'→Q m' s):∀(turns k:Nat) (m:M),dN k P m→k<4*turns→wpAny md A (reDrive turns m) Q E s
 |0,k,m,_,hk=>absurd hk SG
 |turns+1,k,m,⟨n,hn,ho,hp⟩,hk=>by
  show wpAny md A (if(M.runFor reTurnSteps m).outcome.isSome then pure (M.runFor reTurnSteps m)else(rule "sre.turn">>=λaf=>reDrive turns (M.runFor reTurnSteps m))) Q E s
  rw[show reTurnSteps=4 from rfl];have key:(M.runFor 4 m).outcome.isSome=true→M.runFor 4 m=M.runFor n m:=λh=>by
   rcases Nat.le_total n 4 with hl|hl
   ·obtain⟨j,hj⟩:∃j,4=n+j:=⟨4-n,by exact Sa hl⟩
    rw[hj,xA,Ba j _ (Dk.mpr ho)]
   ·obtain⟨j,rfl⟩:∃j,n=4+j:=⟨n-4,by exact HZ hl⟩
    rw[xA,Ba j _ h]
  cases h:(M.runFor 4 m).outcome.isSome with
  |true=>
   rw[if_pos rfl,key h];exact aJ (hq _ ho hp)
  |false=>
   refine c9 (decide_eq_false (by decide)) ?_
   refine av (lA ?_);have hl:4≤n:=by
    refine Nat.le_of_not_lt λhl=>?_;obtain⟨j,hj⟩:∃j,4=n+j:=⟨4-n,by exact RG hl⟩
    rw[hj,xA,Ba j _ (Dk.mpr ho),Dk.mpr ho]at h;cases h
   obtain⟨j,rfl⟩:∃j,n=4+j:=⟨n-4,by exact HZ hl⟩
   rw[xA]at ho hp;exact Nu hq turns (k-4) _ ⟨j,by exact Tc hn,ho,hp⟩ (VA hn hk)
theorem adT{r:Option (Nat×Nat)}{k:Nat}{m:M}{Q:Option M→aA→Prop}(h:dN k (kg r) m)(hk:k≤10000)
  (hn:r=none→Q none s) (hs:∀t e,r=some (t,e)→∀m':M,m'.start=t→m'.handed=e→Q (some m') s):wpAny md A (reRunToEnd m) Q E s:=by
 delta reRunToEnd;refine av (Nu (P:=kg r) (λm' ho hp=>?_) (2^64) k m h (R2 hk));refine av ?_;refine wpAny_forIn_list _ (λaf af s'=>s'=s) _ ?_ ?_ _ _ rfl
 ·rintro x rest b s' rfl
  split
  ·exact av (lA (aJ rfl))
  ·exact aJ rfl
 ·rintro b s' rfl
  cases r with
  |none=>
   rw[hp];exact aJ (hn rfl)
  |some p=>
   obtain⟨t,e⟩:=p;obtain⟨h1,h2,h3⟩:m'.outcome=some .matched∧m'.start=t∧m'.handed=e:=hp;rw[h1];exact aJ (hs t e rfl m' h2 h3)
end
structure Gv(c:Array Nat)(x:List Nat)(find:Nat→Option (Nat×Nat)):Prop where
 ends:∀d,d≤x.length→∃k,k≤10000∧dN k (kg (find d)) (vQ c ⟨x⟩ 0 d x.length false)
 on:∀d t e,find d=some (t,e)→d≤t∧t<e∧e≤x.length
noncomputable def fu(find:Nat→Option (Nat×Nat))(rep x:List Nat):Nat→Nat→List Nat
 |0,d=>x.drop d
 |f+1,d=>match find d with
  |none=>x.drop d
  |some (t,e)=>(x.take t).drop d++(rep++fu find rep x f e)
noncomputable abbrev pD(vs:List (List Nat×Nat)):List aj:=vs.map λq=>.str ⟨⟨q.1⟩⟩ q.2
noncomputable def glue(vs:List (List Nat×Nat)):List Nat:=(vs.map (·.1)).flatten
end
section
open Builtin Builtin.Str Builtin.Re
open PySem.Sre (M)
structure Bb(P:cF)(p:Nat)(c:Array Nat):Prop where
 ok:∃op fs q oq ws n,(kt P).get p=some op∧op.data=.fields fs∧fs.getD 5 .none=.ref q∧reRawNat (fs.getD 6 .none)=0∧reRawNat (fs.getD 2 .none)=0∧(kt P).get q=some oq∧oq.data=.seq ws n∧(ws.map reRawOf).map (·.toNat)=c
section
variable{md:Model}{A:aV}{E:aj→aA→Prop}{s:aA}
theorem adU{P:cF}{p:Nat}{c:Array Nat}(h:Bb P p c)(hT:aR (kt P) s.heap){x:Str}{t:Nat}{Q:ReTarget→aA→Prop}
  (hq:Q ⟨.ref p,.str x t,c,x.cps,0,0,0,x.cps.size⟩ s):wpAny md A (reWholeTarget (.ref p) (.str x t)) Q E s:=by
 obtain⟨op,fs,q,oq,ws,n,h1,h2,h3,h4,h5,h6,h7,h8⟩:=h.ok;unfold reWholeTarget;refine av (sF (hT _ _ h1) h2 ?_);refine av (m:=reTextOf _) (kH (a:=(x.cps,0)) rfl ?_);dsimp only;rw[h4,h3,h5];rw[if_neg (by decide),if_neg (by decide)]
 refine av (m:=reNoCollectionInside _ _) (kH (a:=()) rfl ?_);unfold reRawItems;refine av (av (oi (hT _ _ h6) h7 (aJ ?_)));refine aJ ?_;show Q ⟨_,_,(ws.map reRawOf).map (·.toNat),_,_,_,_,_⟩ s;rw[h8];exact hq
end
theorem adV(P:cF):Bb P 64 c1:=⟨⟨_,_,_,_,_,_,rfl,rfl,rfl,rfl,rfl,rfl,rfl,by kernel_rfl!⟩⟩
theorem adW(P:cF):Bb P 69 c2:=⟨⟨_,_,_,_,_,_,rfl,rfl,rfl,rfl,rfl,rfl,rfl,by kernel_rfl!⟩⟩
theorem Nv(x:List Nat)(hx:x.length≤2000):Gv c1 x (λd=>gS x (x.length-d) d):=by
 refine⟨λd hd=>⟨_,?_,adH x d hd⟩,λd t e h=>?_⟩
 ·exact U1 hx
 ·have:∀n d t e,d+n=x.length→gS x n d=some (t,e)→d≤t∧t<e∧e≤x.length:=by
   intro n;induction n with
   |zero=>exact λaf af af af h=>nomatch h
   |succ n ih=>
    intro d t e hd h;unfold gS at h;split at h
    ·injection h with h
     injection h with h1 h2
     exact XA hd h2 h1
    ·have:=ih (d+1) t e (E7 hd) h;exact W4 this.1 this.2.1 this.2.2
  by_cases hd:d≤x.length
  ·exact this _ d t e (rR hd) h
  ·rw[show x.length-d=0 by exact I6 hd]at h
   cases h
theorem Gw(x:List Nat):Gv c2 x (λd=>gh x (x.length-d) d):=by
 refine⟨λd hd=>⟨_,?_,adS x d hd⟩,λd t e h=>?_⟩
 ·decide
 ·have:∀n d t e,d+n=x.length→gh x n d=some (t,e)→d≤t:=by
   intro n;induction n with
   |zero=>exact λaf af af af h=>nomatch h
   |succ n ih=>
    intro d t e hd h;unfold gh at h;split at h
    ·injection h with h
     injection h with h1 h2
     exact Cr h1
    ·exact II (ih (d+1) t e (E7 hd) h)
  by_cases hd:d≤x.length
  ·refine dJ (Nt (rR hd) h) λh1 af h2=>?_;refine⟨(this _ d t e (rR hd) h),?_⟩;unfold i9 at h2;split at h2
   ·rename_i hb
    simp at hb;exact VS hb.2.1 h2
   ·exact Wn h1 h2
  ·rw[show x.length-d=0 by exact I6 hd]at h
   cases h
end
section
open Builtin Builtin.Str Builtin.Re
open PySem.Sre (M)
theorem adX(vs:List (List Nat×Nat)):glued ⟨#[]⟩ (vs.map λq=>(⟨⟨q.1⟩⟩:Str))=⟨⟨glue vs⟩⟩:=by
 have h:∀(r:List (List Nat×Nat)) (acc:List Nat),(r.map λq=>(⟨⟨q.1⟩⟩:Str)).foldl (λacc p=>acc++(⟨#[]⟩:Str).cps++p.cps) (⟨acc⟩:Array Nat)=⟨acc++glue r⟩:=by
  intro r;induction r with
  |nil=>intro acc;simp[glue]
  |cons q r ih=>
   intro acc;rw[bP,lz];rw[(by simp:(⟨acc⟩:Array Nat)++(⟨#[]⟩:Str).cps++(⟨⟨q.1⟩⟩:Str).cps=⟨acc++q.1⟩),ih]
   simp[glue]
 cases vs with
 |nil=>rfl
 |cons q r=>exact congrArg Str.mk (h r q.1)
theorem adY(vs:List (List Nat×Nat))(h:(glue vs).length≤10000):JoinOk ⟨#[]⟩ (vs.map λq=>(⟨⟨q.1⟩⟩:Str))=true:=by
 have e:∀(r:List (List Nat×Nat)) (n:Nat),(r.map λq=>(⟨⟨q.1⟩⟩:Str)).foldl (λn p=>n+p.length+(⟨#[]⟩:Str).length) n=n+(glue r).length:=by
  intro r;induction r with
  |nil=>intro n;rfl
  |cons q r ih=>
   intro n;rw[bP,lz,ih];simp[glue,zu];exact V5
 delta JoinOk tooLong;rw[List.foldl_toArray,e,fQ];simp;exact Ce h
theorem xB(vs:List (List Nat×Nat))(a:List Nat)(t:Nat):glue (vs++[(a,t)])=glue vs++a:=by simp[glue]
theorem adZ(vs:List (List Nat×Nat))(ep:Nat)(a:List Nat)(t:Nat):cz (·.push (.str ⟨⟨a⟩⟩ t)) (ai (pD vs) ep)=ai (pD (vs++[(a,t)])) (ep+1):=by
 delta ai cz;simp
noncomputable abbrev Gx:Type:=List aj×Nat×Nat
section
variable{w:ao}{A:aV}{R:aW→aA→Prop}
structure pF(l:Nat)(vs:List (List Nat×Nat))(ep:Nat)(s s':aA):Prop where
 obj:s'.heap.get? l=some (ai (pD vs) ep)
 keeps:Keeps [l] s.heap s'.heap
 same:s'.gens=s.gens∧s'.drawn=s.drawn∧s'.os=s.os
theorem Nx{md:Model}{A:aV}{E:aj→aA→Prop}{l ep:Nat}{vs:List (List Nat×Nat)}{s s':aA}(N:pF l vs ep s s')(hl:vs.length≤10000){a:List Nat}{t:Nat}{Q:Unit→aA→Prop}
  (hq:∀s'',pF l (vs++[(a,t)]) (ep+1) s s''→Q () s''):wpAny md A (updateSeq l (·.push (.str ⟨⟨a⟩⟩ t))) Q E s':=by
 have hs:(⟨pD vs⟩:Array aj).size≤10000:=by simpa using hl
 refine wpAny_updateSeq N.obj rfl ?_ (by rw[fQ];exact Ce hs) (by rw[Dp,fQ];exact R1 hs)
 refine hq _ ⟨?_,N.keeps.trans (Keeps.upd _ (.head _)),N.same⟩;rw[←adZ vs ep a t];exact iW _ N.obj rfl
end
end
section
open PySem.W.X
noncomputable def Ny:List Nat:=[(0,16),(32,28),(63,2),(68,9),(84,9),(94,5),(101,1),(108,4),(121,74),(197,38)].flatMap λp=>(dm p.2).map λi=>p.1+i
def nK(P:cF):Frag:=Ny.map λi=>(i,((kt P).get i).getD oF)
def ad0(P:cF):Frag:=(nK P).filter λp=>((kt P).get p.1).isSome
theorem ad1(P:cF):KT.of (ad0 P)=kt P:=by kernel_rfl!
noncomputable abbrev xC:OpenRow:=J5.row
noncomputable abbrev Gy:List Str:=[gB "_twin_re_1",gB "_twin_re_2",gB "_NodeInfo"]
noncomputable abbrev vw:f6:=view DH [0,1,3,4,5,7,8,9,10,12,13,14,15,16,18,19,20,21,22,23]
noncomputable abbrev Gz(s:aA):List (Option Obj)×Nat×Nat:=obsZ Ny s
abbrev GA(w:ao):List (Option Obj)×Nat×Nat:=valZ nK 235 624 w
theorem ad2:LeftO xC.toRowW.prog vw Gy (λs=>xlAt vw [] s && recOk xC.toRowW.records s) Gz GA 3176:=by
 intro w;kernel_rfl!
end
section
open Builtin Builtin.Str Builtin.Re
open PySem.Sre (M)
theorem ad3:oj table "re.Pattern.sub.loop"=some eY.«re.Pattern.sub.loop»:=entryFor_of_tree (by kernel_rfl)
theorem ad4{vs:List (List Nat×Nat)}{n:Nat}(h:(glue vs).length≤n){a:List Nat}{t k:Nat}(ha:a.length≤k):(glue (vs++[(a,t)])).length≤n+k:=by
 rw[xB,fZ];exact Xs h ha
theorem Nz{prog:f6}{w:ao}{A:aV}{E:aj→aA→Prop}{Q:Fin→aA→Prop}{x:Array Nat}{l ep:Nat}{vs:List (List Nat×Nat)}{s s':aA}(N:pF l vs ep s s')(hl:(glue vs).length≤10000)
  (hq:∀v tk,Q (.done (.ret (.str ⟨⟨glue vs⟩⟩ v))) ⟨s'.heap,s'.gens,s'.drawn,tk,s'.os⟩):
  wpAny (model prog w) A (reSlice x 0 0 0>>=λNB=>qe (.ref l)>>=λits=>if(its.getD #[]).isEmpty=true then(pure NB>>=λv=>(ret v:Sem Fin))else(call (.builtin "str.join") [NB,.ref l]>>=λv=>ret v)) Q E s':=by
 unfold reSlice;rw[(by simp:x.extract 0 0=#[])]
 refine av ?_;refine mQ (decide_eq_true (show((0:Nat)==0)=true from rfl)) ?_;refine wpAny_mkStr ?_ (by rw[fQ];decide)
 refine av (oi (s:={s' with toks:=s'.toks+1}) N.obj rfl ?_)
 cases vs with
 |nil=>exact av (aJ (aJ (hq _ _)))
 |cons q r=>
  show wpAny _ _ (call _ _>>=_) _ _ _;refine av ?_;refine SC.join (l:=(q::r).map λq=>((⟨⟨q.1⟩⟩:Str),q.2)) (texts:=(q::r).map λq=>(⟨⟨q.1⟩⟩:Str)) ⟨_,N.obj,rfl,ep,?_⟩ ?_ (adY _ hl) λv tk=>?_
  ·show Data.seq ⟨pD (q::r)⟩ ep=Data.seq (strValues _).toArray _;congr 2
   simp[strValues,pD]
  ·rw[bQ];rfl
  ·rw[show Txt.join ⟨#[]⟩ ((q::r).map λq=>(⟨⟨q.1⟩⟩:Str))=⟨⟨glue (q::r)⟩⟩from adX _];exact aJ (hq _ _)
theorem NC{md:Model}{A:aV}{E:aj→aA→Prop}{l ep:Nat}{vs:List (List Nat×Nat)}{s s':aA}(N:pF l vs ep s s')(hl:vs.length≤10000){x:List Nat}{b e:Nat}(hx:x.length≤10000){k:Unit→Sem Fin}{Q:Fin→aA→Prop}
  (hq:∀t s'',pF l (vs++[((x.take e).drop b,t)]) (ep+1) s s''→wpAny md A (k ()) Q E s''):wpAny md A (reSlice ⟨x⟩ 0 b e>>=λv=>updateSeq l (·.push v)>>=k) Q E s':=by
 unfold reSlice;rw[(by simp[vz]:(⟨x⟩:Array Nat).extract b e=⟨(x.take e).drop b⟩)]
 refine av ?_;refine mQ (decide_eq_true (show((0:Nat)==0)=true from rfl)) ?_;refine wpAny_mkStr ?_ (by rw[fQ];show((x.take e).drop b).length≤_;have:=rY (i:=b) (l:=x.take e);exact Xq ‹_› (List.length_take_le' e x) hx)
 refine av (Nx (s':={s' with toks:=s'.toks+1}) ⟨N.obj,N.keeps,N.same⟩ hl λs'' N'=>hq _ s'' N')
noncomputable abbrev ad5(p t u l:Nat)(x rep:List Nat)(n:Int)(d:Nat):Args:=⟨[.ref p,.str ⟨⟨x⟩⟩ t,.str ⟨⟨rep⟩⟩ u,cW 0,cW 0,cW n,cW d,cW d,.bool false,.ref l,.bool false],[]⟩
theorem GB(w:ao){p:Nat}{c:Array Nat}{find:Nat→Option (Nat×Nat)}(hp:Bb w.params p c)(x rep:List Nat)(hx:x.length≤2000)(Fi:Gv c x find)(hr:rep.length≤2)(t u l:Nat):
  ∀(f d:Nat) (n:Int) (vs:List (List Nat×Nat)) (ep:Nat),x.length<d+f→d≤x.length→vs.length≤2*d→(glue vs).length≤2*d→
   Spec w 119 (.builtin "re.Pattern.sub.loop" (ad5 p t u l x rep n d)) [(true,l,ai (pD vs) ep)] Gx
    (λq=>.ok (.ret (.str ⟨⟨glue vs++fu find rep x f d⟩⟩ q.2.2))) (λq=>[(l,ai q.1 q.2.1)]) (λaf=>[])
 |0,d,_,_,_,hf,hd,_,_=>absurd hf (Vm hd)
 |f+1,d,n,vs,ep,hf,hd,hv,hg=>by
  intro A s R hA hT hP hN hK hR;have n0:pF l vs ep s s:=⟨(cL hP),Keeps.refl _ _,rfl,rfl,rfl⟩;have ND:(kt w.params).get l=none:=hK _ (.head _) rfl;refine aS (Fi.ends d hd) λk hk ends=>?_;refine cN ad3 ?_;rw[gO (by decide+kernel) _]
  show wpAny _ _ (reWholeTarget (.ref p) (.str ⟨⟨x⟩⟩ t)>>=_) _ _ s;refine av (adU hp hT ?_);refine av (m:=reLiteralCannotBeTurned _) (kH (a:=()) rfl ?_);show wpAny _ _ ((if((0:Int) !=0 && decide (n≥(0:Int)))=true then _ else _)>>=_) _ _ s
  rw[if_neg (λh=>nomatch h)];refine av (m:=reNextFound _ _ _) (adT ends hk (λhfd=>?_) λt' e hfd=>?_)
  ·dsimp only;have hs:fu find rep x (f+1) d=x.drop d:=by unfold fu;rw[hfd]
   have fin:∀(v:Nat) (vs':List (List Nat×Nat)) (dj:Nat) (s':aA) (tk:Nat),pF l vs' dj s s'→glue vs'=glue vs++x.drop d→R (.ok (.ret (.str ⟨⟨glue vs'⟩⟩ v))) ⟨s'.heap,s'.gens,s'.drawn,tk,s'.os⟩:=λv vs' dj s' tk N e=>by
    have:=hR (pD vs',dj,v) s'.heap tk N.keeps (λq hq=>by
     apply cV hq;exact N.obj) (λaf h=>nomatch h) (λaf h=>nomatch h) .nil
    rw[N.same.1,N.same.2.1,N.same.2.2,e,←hs];exact this
   show wpAny _ _ (if d<x.length then _ else _) _ _ s
   by_cases hd2:d<x.length
   ·refine mQ (decide_eq_true hd2) ?_;refine NC n0 (Wk hd2 hx hv) (Ik hx) λv1 s1 N1=>?_;rw[show(⟨x⟩:Array Nat).size=x.length from rfl,List.take_length]at N1;exact Nz N1 (by show(glue (vs++[(x.drop d,v1)])).length≤_;exact Wj hd2 hx (ad4 (t:=v1) hg (qb (rY (i:=d) (l:=x))))) λv tk=>fin v _ _ s1 tk N1 (xB _ _ _)
   ·refine c9 (decide_eq_false hd2) ?_;exact Nz n0 (WH hg hd hx) λv tk=>fin v vs ep s tk n0 (by rw[(rU (Vo hd2)),dZ])
  ·refine dJ ((Fi.on d) t' e hfd) λh1 h2 h3=>?_;rintro m' rfl rfl
   have hs:fu find rep x (f+1) d=(x.take m'.start).drop d++(rep++fu find rep x f m'.handed):=by conv=>lhs;unfold fu;rw[hfd]
   have hb:(m'.handed==m'.start)=false:=by simp;exact Uq h2
   have next:∀(vs':List (List Nat×Nat)) (dj:Nat) (s':aA),pF l vs' dj s s'→glue vs'=glue vs++(x.take m'.start).drop d→vs'.length≤vs.length+1→
     wpAny (model pw w) A.in1 (updateSeq l (·.push (.str ⟨⟨rep⟩⟩ u))>>=λaf=>(again (.builtin "re.Pattern.sub.loop" ⟨[.ref p,.str ⟨⟨x⟩⟩ t,.str ⟨⟨rep⟩⟩ u,cW 0,cW 0,cW (n+1),cW m'.handed,cW m'.handed,.bool (m'.handed==m'.start),.ref l,.bool false],[]⟩):Sem Fin))
      (λfin s'=>match fin with|.done f=>R (.ok f) s'|.again c'=>c'.quiet=true∧gU (model pw w) A c' R s') (λe s'=>R (.error e) s') s':=λvs' dj s' N e hl=>by
    rw[hb];refine av (Nx N (XQ hx hv h1 h3 h2 hl) λs'' N'=>aJ ⟨Code.quiet_builtin _ (by decide+kernel),?_⟩)
    have hg':(glue (vs'++[(rep,u)])).length≤2*m'.handed:=by
     rw[xB,e];simp;exact XO h2 hg h1 hr
    refine GB w hp x rep hx Fi hr t u l f m'.handed (n+1) (vs'++[(rep,u)]) (dj+1) (XD hf h1 h2) h3 (by simp;exact XG h2 hv h1 hl) hg' A s'' R hA (λa o q=>?_) (λq hq=>?_) (by trivial) (λq hq af=>by
     apply cV hq;exact ND) λq h' t' k1 k2 k3 k4 k5=>?_
    ·exact N'.keeps.2 a o (λhm=>by
      obtain rfl:a=l:=by simpa using hm
      rw[ND]at q;cases q) (hT a o q)
    ·apply cV hq;exact N'.obj
    ·have:=hR q h' t' (N'.keeps.trans k1) k2 k3 (λaf h=>nomatch h) k5;rw[N'.same.1,N'.same.2.1,N'.same.2.2,xB,e];dsimp only at this;rw[hs]at this;simpa only[fP]using this
   show wpAny _ _ (if d<m'.start then _ else _) _ _ s
   by_cases hd2:d<m'.start
   ·refine mQ (decide_eq_true hd2) ?_;refine NC n0 (XH hx hv h3 h2 hd2) (Ik hx) λv1 s1 N1=>?_;exact next _ _ s1 N1 (xB _ _ _) (by simp)
   ·refine c9 (decide_eq_false hd2) ?_;exact next vs ep s n0 (by rw[(rU (by simp;exact WR hd2)),dZ]) (jU _)
def rows(x:List Nat):List Nat:=fu (λd=>gh x (x.length-d) d) [13,10] x (x.length+1) 0
def dots(x:List Nat):List Nat:=fu (λd=>gS x (x.length-d) d) [46,46] x (x.length+1) 0
theorem NF(x:List Nat):(rows x).length≤2*x.length:=by
 have:∀f d,d≤x.length→(fu (λd=>gh x (x.length-d) d) [13,10] x f d).length≤2*(x.length-d):=by
  intro f;induction f with
  |zero=>intro d _;simp[fu];exact I2
  |succ f ih=>
   intro d hd;unfold fu;split
   ·simp;exact I2
   ·rename_i t e h
    refine dJ ((Gw x).on d t e h) λh1 h2 h3=>?_;simp;exact XF h2 h3 (ih e h3) h1
 exact this _ 0 (iT _)
end
theorem ad6(w0:ao)(fb fc:Bool)(x:List Nat)(t:Nat)(hx:x.length≤900):
  Spec (ak w0 fb fc) 88 (.call (.ref 76) ⟨[.str ⟨⟨x⟩⟩ t],[]⟩) [] Nat (λv=>.ok (.ret (.str ⟨⟨dots (rows x)⟩⟩ v))) (λaf=>[]) (λaf=>[]):=by
 have h1:=λu l=>GB (ak w0 fb fc) (adW _) x [13,10] (Sq hx) (Gw x) (bk _) t u l (x.length+1) 0 0 [] 0 Ib (iT _) (bk _) (bk _);have hz:(rows x).length≤2000:=bh (NF x) (Iq hx);have h2:=λv u l=>GB (ak w0 fb fc) (adV _) (rows x) [46,46] hz (Nv _ hz) (bk _) v u l ((rows x).length+1) 0 0 [] 0 Ib (iT _) (bk _) (bk _);rw[show fu (λd=>gh x (x.length-d) d) [13,10] x (x.length+1) 0=rows x from rfl]at h1;rw[show fu (λd=>gS (rows x) ((rows x).length-d) d) [46,46] (rows x) ((rows x).length+1) 0=dots (rows x)from rfl]at h2;generalize rows x=z at*;generalize dots z=y at*;generalize hw:ak w0 fb fc=w at*;refine cX rfl rfl λA s R hR=>?_;refine⟨aq (dec 171491520454534900476027970480939737153) (.cut 119 _ [(1,true,s.heap.objs.size+1,ai [] 0)] Gx _ (λq=>[(1,s.heap.objs.size+1,ai q.1 q.2.1)]) (λaf=>[]) λq1 aX aF=>
  aq (dec 528449) (.cut 119 _ [(2,true,aX,ai [] 0)] Gx _ (λq=>[(2,aX,ai q.1 q.2.1)]) (λaf=>[]) λq2 af af=>
  aq (dec 0) (.done (.ok (.ret (.str ⟨⟨y⟩⟩ q2.2.2))) [] []))),
  au<|ay (h1 378 (s.heap.objs.size+1)) λq1 aX aF=>au<|ay (h2 q1.2.2 (s.toks+1) aX) λq2 af af=>au<|cE hR q2.2.2 rfl rfl rfl rfl,?_⟩
 clear hR h1 h2 hz hx;(apply cO hw;kernel_rfl!)
noncomputable def kh:Bool→List Nat→List Nat
 |_,[]=>[]
 |b,c::r=>if c=10 then(if b then[]else[13,10])++kh false r else if c=13 then[13,10]++kh true r else c::kh false r
noncomputable def pG:Nat→List Nat→List Nat
 |_,[]=>[]
 |p,c::r=>(if c=46∧p=10 then[46,46]else[c])++pG c r
theorem xD:∀(x:List Nat) (p q:Nat),q≠10→cA q (ef p x)=pG (if q=13 then 10 else q) (kh (p==13) x)
 |[],_,_,_=>rfl
 |c::r,p,q,hq=>by
  unfold ef kh;by_cases gH:c=10
  ·subst gH;by_cases hp:p=13
   ·subst hp;simpa using xD r 10 q hq
   ·have:=xD r 10 13 (by decide)
    simp[hp,cA,pG]at this⊢;exact this
  ·by_cases gI:c=13
   ·subst gI;have:=xD r 13 13 (by decide)
    simp[cA,pG]at this⊢;exact this
   ·have:=xD r c c gH;rw[show(c==13)=false from beq_eq_false_iff_ne.mpr gI]at this;simp[gI,gH,cA,pG]at this⊢;by_cases NI:q=13
    ·subst NI;simpa using this
    ·simpa[NI,hq]using this
theorem drop_cons{x:List Nat}{d c:Nat}{r:List Nat}(h:x.drop d=c::r):x.getD d 0=c∧x.drop (d+1)=r∧d<x.length:=by
 have hd:d<x.length:=by
  refine Nat.lt_of_not_le λhl=>?_;rw[rU hl]at h;cases h
 rw[JB hd]at h;injection h with h1 h2
 exact⟨by rw[CM,fY hd];exact h1,h2,hd⟩
theorem NK{find:Nat→Option (Nat×Nat)}{rep x:List Nat}{f d c:Nat}{r:List Nat}(h:x.drop d=c::r)(e:find d=find (d+1))(on:∀t e,find (d+1)=some (t,e)→d+1≤t):
  fu find rep x f d=c::fu find rep x f (d+1):=by
 refine dJ (drop_cons h) λaf h2 h3=>?_;cases f with
 |zero=>show x.drop d=c::x.drop (d+1);rw[h,h2]
 |succ f=>
  unfold fu;rw[e];cases hf:find (d+1)with
  |none=>show x.drop d=c::x.drop (d+1);rw[h,h2]
  |some p=>
   obtain⟨t,e'⟩:=p;show(x.take t).drop d++_=c::((x.take t).drop (d+1)++_);rw[vz,vz,h,h2,show t-d=(t-(d+1))+1 by exact TG (on t e' hf)]
   rfl
theorem ad7:∀(r:List Nat),r.head?≠some 10→kh true r=kh false r
 |[],_=>rfl
 |c::r,h=>by
  have:c≠10:=λe=>h (by rw[e];rfl)
  unfold kh;rw[if_neg this,if_neg this]
theorem ad8(x:List Nat):∀(k d f:Nat),x.length=d+k→k<f→fu (λd=>gh x (x.length-d) d) [13,10] x f d=kh false (x.drop d):=by
 intro k;induction k using Nat.strongRecOn with
 |ind k ih=>
  intro d f hk hf;cases hx:x.drop d with
  |nil=>
   obtain⟨f,rfl⟩:∃g,f=g+1:=⟨f-1,by exact IW hf⟩
   unfold fu;rw[show x.length-d=0 by exact Vd (kE.mp hx)]
   exact hx
  |cons c r=>
   refine dJ (drop_cons hx) λh1 h2 h3=>?_;obtain⟨n,hn⟩:∃n,x.length-d=n+1:=⟨x.length-d-1,by exact Um h3⟩
   by_cases hc:(x.getD d 0==10||x.getD d 0==13)=true
   ·obtain⟨f,rfl⟩:∃g,f=g+1:=⟨f-1,by exact IW hf⟩
    have e:gh x (x.length-d) d=some (d,i9 x d):=by
     rw[hn];unfold gh;rw[hc]
    unfold fu;rw[e];show(x.take d).drop d++([13,10]++fu _ _ x f (i9 x d))=_;rw[rU (by simp;exact I4),pX]
    unfold kh;rw[h1]at hc;by_cases gH:c=10
    ·subst gH;have e2:i9 x d=d+1:=by unfold i9;rw[h1];rfl
     rw[e2,ih (k-1) (CB hn hk) (d+1) f (CA hn hk) (Jp hn hk hf),h2];rfl
    ·have gI:c=13:=by simpa[gH]using hc
     subst gI;rw[if_neg gH,if_pos rfl];congr 1
     cases hr:r with
     |nil=>
      have hl:¬(d+1<x.length):=by
       rw[hr]at h2;exact U9 (kE.mp h2)
      have e2:i9 x d=d+1:=by unfold i9;rw[h1,decide_eq_false hl];rfl
      rw[e2,ih (k-1) (CB hn hk) (d+1) f (CA hn hk) (Jp hn hk hf),h2,hr];rfl
     |cons c' r'=>
      rw[hr]at h2;refine dJ (drop_cons h2) λg1 g2 g3=>?_;by_cases GC:c'=10
      ·subst GC;have e2:i9 x d=d+2:=by unfold i9;rw[h1,g1,decide_eq_true g3];rfl
       rw[e2,ih (k-2) (VP g3 hk) (d+2) f (VN g3 hk) (W2 g3 hk hf),g2];rfl
      ·have e2:i9 x d=d+1:=by
        unfold i9;rw[h1,g1,decide_eq_true g3,show(c'==10)=false from beq_eq_false_iff_ne.mpr GC];rfl
       rw[e2,ih (k-1) (VO g3 hk) (d+1) f (VM g3 hk) (W0 g3 hk hf),h2];exact(ad7 _ (λe=>GC (by injection e))).symm
   ·have hc:(x.getD d 0==10||x.getD d 0==13)=false:=by simpa using hc
    have e:(λd=>gh x (x.length-d) d) d=(λd=>gh x (x.length-d) d) (d+1):=by
     show gh x (x.length-d) d=gh x (x.length-(d+1)) (d+1);rw[hn,(by exact I8 hn:x.length-(d+1)=n)]
     conv=>lhs;unfold gh
     rw[hc]
    rw[NK (find:=λd=>gh x (x.length-d) d) hx e (λt e h=>((Gw x).on (d+1) t e h).1),ih (k-1) (CB hn hk) (d+1) f (CA hn hk) (yw hf),h2];rw[h1]at hc;have⟨a,b⟩:c≠10∧c≠13:=by simpa using hc
    conv=>rhs;unfold kh
    rw[if_neg a,if_neg b]
theorem ad9(x:List Nat):rows x=kh false x:=ad8 x x.length 0 (x.length+1) Ih Ig
theorem aea(x:List Nat)(hx:x.length≤2000):∀(k d f p:Nat),x.length=d+k→k<f→((d==0||x.getD (d-1) 0==10)=(p==10))→fu (λd=>gS x (x.length-d) d) [46,46] x f d=pG p (x.drop d):=by
 intro k;induction k with
 |zero=>
  intro d f p hk hf _;obtain⟨f,rfl⟩:∃g,f=g+1:=⟨f-1,by exact QM hf⟩
  unfold fu;rw[show x.length-d=0 by exact Uu hk,rU (show x.length≤d by exact Uv hk)]
  rfl
 |succ k ih=>
  intro d f p hk hf hp;obtain⟨c,r,hx'⟩:∃c r,x.drop d=c::r:=⟨x[d]'(Jf hk),x.drop (d+1),JB (Jf hk)⟩;refine dJ (drop_cons hx') λh1 h2 h3=>?_;have hn:x.length-d=k+1:=by exact Wt hk
  have gv:(d+1==0||x.getD (d+1-1) 0==10)=(c==10):=by rw[show d+1-1=d by exact yq,h1];rfl
  rw[hx'];unfold pG;cases hc:(x.getD d 0==46 && (p==10))with
  |true=>
   obtain⟨f,rfl⟩:∃g,f=g+1:=⟨f-1,by exact Tu hf⟩
   rw[h1]at hc;have⟨a,b⟩:c=46∧p=10:=by simpa using hc
   have e:gS x (x.length-d) d=some (d,d+1):=by
    rw[hn];unfold gS;rw[hp,h1,a,b];rfl
   unfold fu;rw[e];show(x.take d).drop d++([46,46]++fu _ _ x f (d+1))=_;rw[rU (by simp;exact I4),pX,ih (d+1) f c (I9 hn) (Tr hf) gv,h2,if_pos ⟨a,b⟩]
  |false=>
   have e:(λd=>gS x (x.length-d) d) d=(λd=>gS x (x.length-d) d) (d+1):=by
    show gS x (x.length-d) d=gS x (x.length-(d+1)) (d+1);rw[hn,(by exact I8 hn:x.length-(d+1)=k)]
    conv=>lhs;unfold gS
    rw[hp,Bool.and_comm,hc]
   rw[NK (find:=λd=>gS x (x.length-d) d) hx' e (λt e h=>((Nv x hx).on (d+1) t e h).1),ih (d+1) f c (I9 hn) (Tt hf) gv,h2];rw[h1]at hc;rw[if_neg (λh=>by rw[h.1,h.2]at hc;cases hc)]
   rfl
theorem aeb(x:List Nat)(hx:x.length≤2000):dots x=pG 10 x:=aea x hx x.length 0 (x.length+1) 10 Ih Ig rfl
theorem aec(x:List Nat)(hx:x.length≤900):dots (rows x)=cA 13 (ef 0 x):=by
 rw[aeb _ (bh (NF x) (Iq hx)),ad9,xD x 0 13 (by decide)]
 rfl
noncomputable def lexLt:List Nat→List Nat→Bool
 |[],[]=>false
 |[],_::_=>true
 |_::_,[]=>false
 |a::x,b::y=>if a=b then lexLt x y else decide (a<b)
theorem NN:∀(a x y:List Nat),lexLt (a++x) (a++y)=lexLt x y
 |[],_,_=>rfl
 |c::a,x,y=>by
  show(if c=c then lexLt (a++x) (a++y)else _)=_
  rw[if_pos rfl,NN a x y]
theorem Bc(p c:Nat)(r:List Nat):∃l,cA p (c::r)=c::l:=by
 unfold cA;split
 ·rename_i h;exact⟨_,by rw[h];rfl⟩
 ·split
  ·rename_i h;exact⟨_,by rw[h.1];rfl⟩
  ·exact⟨_,rfl⟩
theorem NP:∀(s t:List Nat) (p:Nat),lexLt (cA p s) (cA p t)=lexLt s t
 |[],[],_=>rfl
 |[],c::r,p=>by
  refine fC (Bc p c r) λl e=>?_;rw[e];rfl
 |c::r,[],p=>by
  refine fC (Bc p c r) λl e=>?_;rw[e];rfl
 |a::s,b::t,p=>by
  by_cases h:a=b
  ·subst h;show lexLt (_++cA a s) (_++cA a t)=(if a=a then lexLt s t else _)
   rw[NN,if_pos rfl,NP s t a]
  ·refine fC (Bc p a s) λl e=>?_;refine fC (Bc p b t) λm e'=>?_;rw[e,e'];show(if a=b then _ else decide (a<b))=(if a=b then _ else decide (a<b))
   rw[if_neg h,if_neg h]
theorem aed{α:Type}(enc:α→f7){V:VV}{h:az}{b:Nat}{A:aV}{t:Sem α}{Q:α→aA→Prop}{E:aj→aA→Prop}{l:List (Bool×Nat×Obj)}{tk:Nat}(cert:Cert)(G:Good V cert ⟨h,l.length,muts l⟩)(S:Lies V.kt h l)(hA:bK b A)(hQ:∀f s,V.R₀ (.ok (enc f)) s→Q f s)(hE:∀e s,V.R₀ (.error e) s→E e s)
  (e:fR V 1000000000 .base A A (b+1) (t.bind λf=>.pure (.done (enc f))) (dB l) h.objs.size tk l.length cert=fS cert (l.map (·.2.1)) h.objs.size) (hb:fD b 120=true):
  wpAny (model V.prog V.w) A t Q E ⟨h,V.gens,V.d,tk,V.os⟩:=by
 have z':wpAny (model V.prog V.w) A t (λf s=>V.R₀ (.ok (enc f)) s) (λe s=>V.R₀ (.error e) s) ⟨h,V.gens,V.d,tk,V.os⟩:=λΓ p hΓ=>by
  have b:Sem.wp (model V.prog V.w) Γ (t>>=λf=>(.pure (.done (enc f)):Sem Fin)) _ _ _ _:=((sim_sound V 1000000000 .base _ _ _ _ _ _ _ ⟨h,l.length,muts l⟩ _ _ (e.mpr (tB cert _ _)) G S.rep ⟨hA.le (jU b),λc h=>hA.under h,ig (iE hb),hA⟩ trivial) Γ p hΓ);rw[Sem.wp_bind']at b;exact b
 exact jY z' hQ hE
theorem GD{kt:bZ}{h:az}{o:Obj}(T:aR kt h)(e:kt.get 234=some o):∃g,h.objs.size=g+235:=⟨h.objs.size-235,by exact Rd (cK (T _ _ e))⟩
noncomputable def Bd{α β:Type}(l:List α)(k:List α→β):β:=match l with
 |[]=>k []
 |a::r=>Bd r λr'=>k (a::r')
noncomputable def uC{β:Type}(v:aj)(k:aj→β):β:=match v with
 |.none=>k .none
 |.ellipsis=>k .ellipsis
 |.notImplemented=>k .notImplemented
 |.bool b=>k (.bool b)
 |.int i t=>k (.int i t)
 |.float b t=>k (.float b t)
 |.str s t=>k (.str s t)
 |.bytes b t=>k (.bytes b t)
 |.type n=>k (.type n)
 |.builtin n=>k (.builtin n)
 |.ref a=>k (.ref a)
noncomputable def uD{β:Type}(l:List aj)(k:List aj→β):β:=match l with
 |[]=>k []
 |v::r=>uC v λv=>uD r λr'=>k (v::r')
noncomputable def NQ{β:Type}(l:List bx)(k:List bx→β):β:=match l with
 |[]=>k []
 |e::r=>match e with
  |⟨h,a,b⟩=>uC a λa=>uC b λb=>NQ r λr'=>k (⟨h,a,b⟩::r')
noncomputable def GF{β:Type}(l:List (Option aj))(k:List (Option aj)→β):β:=match l with
 |[]=>k []
 |v::r=>match v with
  |some v=>uC v λv=>GF r λr'=>k (some v::r')
  |none=>GF r λr'=>k (none::r')
noncomputable def frD{β:Type}(x:Data)(k:Data→β):β:=match x with
 |.seq v n=>match v with
  |⟨l⟩=>uD l λl=>k (.seq ⟨l⟩ n)
 |.dict v n=>match v with
  |⟨l⟩=>NQ l λl=>k (.dict ⟨l⟩ n)
 |.fields v=>match v with
  |⟨l⟩=>uD l λl=>k (.fields ⟨l⟩)
 |.cell v=>match v with
  |some v=>uC v λv=>k (.cell (some v))
  |none=>k (.cell none)
 |.cls c=>match c with
  |⟨a1,a2,a3,a4,a5,a6,a7,a8,a9,iD,a11⟩=>uD a2 λa2=>uD a3 λa3=>Bd a7 λa7=>uD a8 λa8=>k (.cls ⟨a1,a2,a3,a4,a5,a6,a7,a8,a9,iD,a11⟩)
 |x=>k x
noncomputable def NR{β:Type}(o:Obj)(k:Obj→β):β:=match o with
 |⟨c,d,x,s⟩=>match s with
  |⟨s⟩=>uC c λc=>frD x λx=>GF s λs=>k ⟨c,d,x,⟨s⟩⟩
def ja(V:VV)(n:Nat):KK→aV→aV→Nat→Sem Fin→List Ent→Nat→Nat→List Nat→Res:=Nat.rec (λκ Ac A lv t L sz tk af=>⟨κ,Ac,A,lv,t,L,sz,tk⟩) (λaf ih κ Ac A lv t L sz tk es=>match t with
 |.pure fin=>match fin with
  |.done f=>match κ with
   |.base=>⟨κ,Ac,A,lv,t,L,sz,tk⟩
   |.ret fh A' lv' k κ'=>ih κ' fh A' lv' (k (.ok f)) L sz tk es
  |.again c=>ih κ Ac (Ac.under c) lv (dQ c) L sz tk es
 |.raise e=>match κ with
  |.base=>⟨κ,Ac,A,lv,t,L,sz,tk⟩
  |.ret fh A' lv' k κ'=>ih κ' fh A' lv' (k (.error e)) L sz tk es
 |.rule _ k=>ih κ Ac A lv (k ()) L sz tk es
 |.at _ k=>ih κ Ac A lv (k ()) L sz tk es
 |.point _ k=>ih κ Ac A lv (k ()) L sz tk es
 |.ask k=>ih κ Ac A lv (k ⟨V.prog,V.w.params⟩) L sz tk es
 |.load a _ k=>match es with
  |[]=>⟨κ,Ac,A,lv,t,L,sz,tk⟩
  |e::es=>match e with
   |0=>match getM V.kt a with
    |some o=>ih κ Ac A lv (k o) L sz tk es
    |none=>⟨κ,Ac,A,lv,t,L,sz,tk⟩
   |1=>⟨κ,Ac,A,lv,t,L,sz,tk⟩
   |j+2=>match L[j]? with
    |some e=>ih κ Ac A lv (k e.o) L sz tk es
    |none=>⟨κ,Ac,A,lv,t,L,sz,tk⟩
 |.loadIfAlive a k=>match es with
  |[]=>⟨κ,Ac,A,lv,t,L,sz,tk⟩
  |e::es=>match e with
   |0=>match getM V.kt a with
    |some o=>ih κ Ac A lv (k (some o)) L sz tk es
    |none=>⟨κ,Ac,A,lv,t,L,sz,tk⟩
   |1=>⟨κ,Ac,A,lv,t,L,sz,tk⟩
   |j+2=>match L[j]? with
    |some e=>ih κ Ac A lv (k (some e.o)) L sz tk es
    |none=>⟨κ,Ac,A,lv,t,L,sz,tk⟩
 |.alloc o k=>match es with
  |[]=>⟨κ,Ac,A,lv,t,L,sz,tk⟩
  |_::es=>NR o λo=>Bd (L++[⟨sz,true,o⟩]) λL=>ih κ Ac A lv (k sz) L (sz+1) tk es
 |.update _ _ f k=>match es with
  |[]=>⟨κ,Ac,A,lv,t,L,sz,tk⟩
  |e::es=>match e with
   |0=>⟨κ,Ac,A,lv,t,L,sz,tk⟩
   |1=>⟨κ,Ac,A,lv,t,L,sz,tk⟩
   |j+2=>match L[j]? with
    |some e=>match e with
     |⟨a,_,o⟩=>NR (f o) λo=>Bd (L.set j ⟨a,true,o⟩) λL=>ih κ Ac A lv (k ()) L sz tk es
    |none=>⟨κ,Ac,A,lv,t,L,sz,tk⟩
 |.fresh k=>ih κ Ac A lv (k tk) L sz (tk+1) es
 |.handled _ k=>ih κ Ac A lv (k none) L sz tk es
 |.call c hd _ _ k=>match hd with
  |none=>ih (.ret Ac A lv k κ) A (A.under c) (lv+1) (dQ c) L sz tk es
  |some e=>ih (.ret Ac A lv k κ) (A.mark (some e)) ((A.mark (some e)).under c) 112 (dQ c) L sz tk es
 |_=>⟨κ,Ac,A,lv,t,L,sz,tk⟩) n
section
variable{V:VV}{B:BB}{κ:KK}{Ac A:aV}{lv:Nat}{t:Sem Fin}{L:List Ent}{sz tk:Nat}{h:az}
theorem aeg{k:List (bf×Pos)→Sem Fin}{s:aA}(H:∀st,X.Lies A st→Means V κ Ac A (k st) s):Means V κ Ac A (.stack k) s:=λΓ p hΓ=>H ((Γ.code,p)::Γ.below) (X.lies_of hΓ) Γ p hΓ
theorem xE{cert:Cert}(G:Good V cert B)(D:Rep V B h L sz)(I:Inv Ac A lv)(K:mX κ)(e:fR V 1000000000 κ Ac A lv t L sz tk B.n₀ cert=fS cert (L.map Ent.a) sz):Means V κ Ac A t ⟨h,V.gens,V.d,tk,V.os⟩:=
 sim_sound V 1000000000 κ Ac A lv t L sz tk B cert h (e.mpr (tB cert _ _)) G D I K
theorem GH(N m:Nat)(es:List Nat){κ':KK}{fh A':aV}{lv':Nat}{t':Sem Fin}{L':List Ent}{sz' tk':Nat}(D:Rep V B h L sz)(I:Inv Ac A lv)(K:mX κ)
  (e:fR V 1000000000 κ Ac A lv t L sz tk B.n₀ (aq es (.halt m (ja V N κ Ac A lv t L sz tk es)))=fS (aq es (.halt m (ja V N κ Ac A lv t L sz tk es))) (L.map Ent.a) sz)
  (eR:ja V N κ Ac A lv t L sz tk es=⟨κ',fh,A',lv',t',L',sz',tk'⟩)
  (G:∀h,Rep V B h L' sz'→Inv fh A' lv'→mX κ'→Means V κ' fh A' t' ⟨h,V.gens,V.d,tk',V.os⟩):Means V κ Ac A t ⟨h,V.gens,V.d,tk,V.os⟩:=by
 refine xE (au (show Good V (.halt m _) B from ?_)) D I K e;rw[eR];exact G
theorem aeh{c c₀:bf}{g:Bool}{l:List aj}{k:aW→Sem Fin}{b:Nat}{pre:List (Nat×Bool×Nat×Obj)}{Xt:Type}{res:Xt→aW}{upd:Xt→List (Nat×Nat×Obj)}{new:Xt→List (Nat×Obj)}(spec:s9 V.prog V.w V.kt b c₀ (pre.map (·.2)) Xt res (λx=>(upd x).map (·.2)) new)
  (D:Rep V B h L sz) (I:Inv Ac A lv) (e:c=c₀) (hb:fD lv b=true) (hi:inc 0 (pre.map (·.1))=true) (hc:lE L pre True) (hu:∀x,tn L (upd x) True)
  (G:∀x h' sz' tk',Rep V B h' (oG (upd x) L++(new x).map λp=>⟨p.1,true,p.2⟩) sz'→Means V κ Ac A (k (res x)) ⟨h',V.gens,V.d,tk',V.os⟩):Means V κ Ac A (.call c none g l k) ⟨h,V.gens,V.d,tk,V.os⟩:=by
 refine X.x_call ?_ (by intro q;cases q)
 rw[mark_none,e];refine dY (oJ hc) λhp af=>?_;have l:=vU D hi hp;refine spec A _ _ (I.1.le (iE hb)) D.top l.has l.nd l.off λx h' t' k1 k2 k3 k4 k5=>?_;refine dY (zQ (hu x)) λhu af=>?_;exact G x h' _ t' (D.turn hu k1 k2 k3 k4 k5)
theorem Be{w:ao}{s:aA}{R:aW→aA→Prop}{b:Nat}{A:aV}{c:bf}{pre:List (Bool×Nat×Obj)}(N m:Nat)(es:List Nat){κ':KK}{fh A':aV}{lv':Nat}{t':Sem Fin}{L':List Ent}{sz' tk':Nat}
  (e:fR (bD w s R) 1000000000 .base A (A.under c) (b+1) (dQ c) (dB pre) s.heap.objs.size s.toks pre.length (aq es (.halt m (ja (bD w s R) N .base A (A.under c) (b+1) (dQ c) (dB pre) s.heap.objs.size s.toks es)))=fS (aq es (.halt m (ja (bD w s R) N .base A (A.under c) (b+1) (dQ c) (dB pre) s.heap.objs.size s.toks es))) (pre.map (·.2.1)) s.heap.objs.size)
  (eR:ja (bD w s R) N .base A (A.under c) (b+1) (dQ c) (dB pre) s.heap.objs.size s.toks es=⟨κ',fh,A',lv',t',L',sz',tk'⟩)
  (G:∀h,Rep (bD w s R) (jk s pre) h L' sz'→Inv fh A' lv'→mX κ'→Means (bD w s R) κ' fh A' t' ⟨h,(bD w s R).gens,(bD w s R).d,tk',(bD w s R).os⟩):
  ∃cert:Cert,Good (bD w s R) cert (jk s pre)∧fR (bD w s R) 1000000000 .base A (A.under c) (b+1) (dQ c) (dB pre) s.heap.objs.size s.toks pre.length cert=fS cert (pre.map (·.2.1)) s.heap.objs.size:=
 ⟨_,au (show Good (bD w s R) (.halt m _) (jk s pre)from eR▸G),e⟩
end
section
variable{V:VV}{B:BB}{κ:KK}{Ac A:aV}{lv:Nat}{t:Sem Fin}{L:List Ent}{sz tk:Nat}
noncomputable def MR(V:VV)(B:BB)(κ:KK)(Ac A:aV)(lv:Nat)(t:Sem Fin)(L:List Ent)(sz tk:Nat):Prop:=∀h,Rep V B h L sz→Inv Ac A lv→mX κ→Means V κ Ac A t ⟨h,V.gens,V.d,tk,V.os⟩
theorem kT(N m:Nat)(es:List Nat){κ':KK}{fh A':aV}{lv':Nat}{t':Sem Fin}{L':List Ent}{sz' tk':Nat}
  (e:fR V 1000000000 κ Ac A lv t L sz tk B.n₀ (aq es (.halt m (ja V N κ Ac A lv t L sz tk es)))=fS (aq es (.halt m (ja V N κ Ac A lv t L sz tk es))) (L.map Ent.a) sz)
  (eR:ja V N κ Ac A lv t L sz tk es=⟨κ',fh,A',lv',t',L',sz',tk'⟩)
  (G:MR V B κ' fh A' lv' t' L' sz' tk'):MR V B κ Ac A lv t L sz tk:=λaf D I K=>GH N m es D I K e eR G
theorem aei{c c₀:bf}{g:Bool}{l:List aj}{k:aW→Sem Fin}{b:Nat}{pre:List (Nat×Bool×Nat×Obj)}{Xt:Type}{res:Xt→aW}{upd:Xt→List (Nat×Nat×Obj)}{new:Xt→List (Nat×Obj)}(spec:s9 V.prog V.w V.kt b c₀ (pre.map (·.2)) Xt res (λx=>(upd x).map (·.2)) new)
  (e:c=c₀) (hb:fD lv b=true) (hi:inc 0 (pre.map (·.1))=true) (hc:lE L pre True) (hu:∀x,tn L (upd x) True)
  (G:∀x sz' tk',MR V B κ Ac A lv (k (res x)) (oG (upd x) L++(new x).map λp=>⟨p.1,true,p.2⟩) sz' tk'):MR V B κ Ac A lv (.call c none g l k) L sz tk:=
 λaf D I K=>aeh spec D I e hb hi hc hu λx h' sz' tk' D'=>G x sz' tk' h' D' I K
theorem aej{w:ao}{s:aA}{R:aW→aA→Prop}{b:Nat}{A:aV}{c:bf}{pre:List (Bool×Nat×Obj)}(N m:Nat)(es:List Nat){κ':KK}{fh A':aV}{lv':Nat}{t':Sem Fin}{L':List Ent}{sz' tk':Nat}
  (e:fR (bD w s R) 1000000000 .base A (A.under c) (b+1) (dQ c) (dB pre) s.heap.objs.size s.toks pre.length (aq es (.halt m (ja (bD w s R) N .base A (A.under c) (b+1) (dQ c) (dB pre) s.heap.objs.size s.toks es)))=fS (aq es (.halt m (ja (bD w s R) N .base A (A.under c) (b+1) (dQ c) (dB pre) s.heap.objs.size s.toks es))) (pre.map (·.2.1)) s.heap.objs.size)
  (eR:ja (bD w s R) N .base A (A.under c) (b+1) (dQ c) (dB pre) s.heap.objs.size s.toks es=⟨κ',fh,A',lv',t',L',sz',tk'⟩)
  (G:MR (bD w s R) (jk s pre) κ' fh A' lv' t' L' sz' tk'):
  ∃cert:Cert,Good (bD w s R) cert (jk s pre)∧fR (bD w s R) 1000000000 .base A (A.under c) (b+1) (dQ c) (dB pre) s.heap.objs.size s.toks pre.length cert=fS cert (pre.map (·.2.1)) s.heap.objs.size:=Be N m es e eR G
end
theorem GI{w:ao}{b:Nat}{c:bf}{pre:List (Bool×Nat×Obj)}{X:Type}{res:X→aW}{upd new:X→List (Nat×Obj)}(hb:fD b 120=true)(hc:lD c=false)
  (run:∀(A:aV) (s:aA) (R:aW→aA→Prop),aR (kt w.params) s.heap→Fin' s X res upd new R→∃cert:Cert,Good (bD w s R) cert (jk s pre)∧fR (bD w s R) 1000000000 .base A (A.under c) (b+1) (dQ c) (dB pre) s.heap.objs.size s.toks pre.length cert=fS cert (pre.map (·.2.1)) s.heap.objs.size):Spec w b c pre X res upd new:=by
 intro A s R hA hT hP hN hK hR;refine aS (run A s R hT hR) λcert g e=>?_;exact zR (V:=bD w s R) (l:=pre) cert g ⟨hP,hN,hK,hT⟩ hA hb hc e
structure KB where
 nt:Nat
 bt:Nat
 ns:Nat
 sl:Nat
 st:Nat
 so:Nat
 su:Nat
 k1:Nat
 k2:Nat
 k3:Nat
 k4:Nat
 k5:Nat
 k6:Nat
 k7:Nat
 k8:Nat
 k9:Nat
 Bf:Nat
 Bg:Nat
 Bh:Nat
 mt:Nat
 qt:Nat
 ft:Nat
 f0:Nat
 f1:Nat
 f2:Nat
 f3:Nat
 f4:Nat
 f5:Nat
 o0:iG
 o1:iG
 o2:iG
 o3:iG
 o4:iG
 o5:iG
noncomputable def xF:Str:=⟨⟨[75]⟩⟩
noncomputable def xG:Str:=⟨⟨[99,109,112,95,116,111,95,107,101,121,46,60,108,111,99,97,108,115,62,46,75]⟩⟩
noncomputable def GJ:Str:=⟨⟨[99,112,121,51,49,51,46,102,117,110,99,116,111,111,108,115]⟩⟩
noncomputable def uE:Str:=⟨⟨[95,95,108,116,95,95]⟩⟩
noncomputable def NS:Str:=⟨⟨[95,95,103,116,95,95]⟩⟩
noncomputable def NT:Str:=⟨⟨[95,95,101,113,95,95]⟩⟩
noncomputable def NU:Str:=⟨⟨[95,95,108,101,95,95]⟩⟩
noncomputable def NV:Str:=⟨⟨[95,95,103,101,95,95]⟩⟩
noncomputable def aek:Str:=⟨⟨[95,95,104,97,115,104,95,95]⟩⟩
noncomputable def ael:Str:=⟨⟨[95,95,113,117,97,108,110,97,109,101,95,95]⟩⟩
noncomputable def lZ:Str:=⟨⟨[111,98,106]⟩⟩
noncomputable def iA(fd:iG):Obj:=⟨.type "function",none,.func fd,#[]⟩
def Bj(w:ao)(z:KB):List bx:=
 [de w v9 z.k3 (.int 18 z.ft),de w KP z.k4 (.ref z.sl),de w mZ z.k5 (.ref z.f0),de w uE z.k6 (.ref z.f1),de w NS z.k7 (.ref z.f2),de w NT z.k8 (.ref z.f3),de w NU z.k9 (.ref z.f4),de w NV z.Bf (.ref z.f5),de w aek z.Bg .none,de w wc z.Bh (.ref z.st)]
def aem(w:ao)(z:KB):Obj:=cu (de w qD z.k1 (.str GJ z.mt)::de w ael z.k2 (.str xG z.qt)::Bj w z) 12
def GK(w:ao)(z:KB):List (Bool×Nat×Obj):=
 [(false,z.bt,aK [.type "object"]),(false,z.ns,aem w z),(false,z.sl,ai [.str lZ z.so] 0),(false,z.f0,iA z.o0),(false,z.f1,iA z.o1),(false,z.f2,iA z.o2),(false,z.f3,iA z.o3),(false,z.f4,iA z.o4),(false,z.f5,iA z.o5),(false,z.st,aK [.str lZ z.su])]
def pH(w:ao)(z:KB)(x tk:Nat):Obj:=cu (de w qD z.k1 (.str GJ z.mt)::Bj w z++[de w lZ (tk+1) (.ref (x+2)),de w Q2 (tk+2) .none]) 3
def qZ(z:KB)(x:Nat):Obj:=⟨.type "type",none,.cls ⟨xF,[.type "object"],[.ref (x+1),.type "object"],x,xG,false,[lZ],[],false,none,false⟩,#[some (.ref z.bt),none,some (.str xF z.nt),some (.str xG z.qt),some (.builtin "object.__new__"),some (.bool false)]⟩
def uF(x tk:Nat):Obj:=⟨.type "member_descriptor",none,.fields #[.str lZ tk,.ref (x+1),.builtin "proto.slot",.builtin "proto.slot#set",.int 0 0],#[]⟩
noncomputable abbrev aen(z:KB):bf:=.builtin "type.__new__" ⟨[.type "type",.str xF z.nt,.ref z.bt,.ref z.ns],[]⟩
theorem aeo(inst:DecidableEq aj)(a:Nat)(r:List aj):W.R.filterR (λx=>@bne aj (@instBEqOfDecidableEq aj inst) x (bg a)) (bg a::r)=W.R.filterR (λx=>@bne aj (@instBEqOfDecidableEq aj inst) x (bg a)) r:=by
 rw[←W.R.filterR_eq,mE,if_neg (by simp)]
theorem NW(inst:DecidableEq aj)(a:Nat)(r:List aj):@JZ aj (@instBEqOfDecidableEq aj inst) (.ref a::r) (.ref a)=true:=by
 rw[←ZFast.ze3471404346716756564];simp
theorem aep(inst:DecidableEq aj)(a:Nat)(r:List aj)(v:aj)(hv:v=.ref a):List.drop 1 (List.dropWhile (λx=>@bne aj (@instBEqOfDecidableEq aj inst) x v) (.ref a::r))=r:=by
 subst hv;simp
theorem aeq{A B:Bool}(h:B=false):(A && B)=false:=by rw[h,Bool.and_false]
noncomputable def Imp(P Q:Prop):Prop:=False→P→Q
inductive Ph(P:Prop):Prop
 |mk:Ph P
theorem Bk{V:VV}{B:BB}{κ:KK}{Ac A:aV}{lv:Nat}{t:Sem Fin}{L:List Ent}{sz tk:Nat}(N m:Nat)(es:List Nat){κ':KK}{fh A':aV}{lv':Nat}{t':Sem Fin}{L':List Ent}{sz' tk':Nat}(_:Ph (Imp (MR V B κ' fh A' lv' t' L' sz' tk') (MR V B κ Ac A lv t L sz tk)))
  (e:fR V 1000000000 κ Ac A lv t L sz tk B.n₀ (aq es (.halt m (ja V N κ Ac A lv t L sz tk es)))=fS (aq es (.halt m (ja V N κ Ac A lv t L sz tk es))) (L.map Ent.a) sz)
  (eR:ja V N κ Ac A lv t L sz tk es=⟨κ',fh,A',lv',t',L',sz',tk'⟩)
  (G:MR V B κ' fh A' lv' t' L' sz' tk'):MR V B κ Ac A lv t L sz tk:=kT N m es e eR G
theorem aer(w:ao)(z:KB)(hns:∃n,z.ns=n+236):
  Spec w 110 (aen z) (GK w z) (Nat×Nat) (λx=>.ok (.ret (.ref (x.1+1)))) (λaf=>[]) (λx=>[(x.1,pH w z x.1 x.2),(x.1+1,qZ z x.1),(x.1+2,uF x.1 x.2)]):=by
 refine cX rfl rfl λA s R hR=>?_;obtain⟨n,hn⟩:=hns;obtain⟨nt,bt,ns,sl,st,so,su,k1,k2,k3,k4,k5,k6,k7,k8,k9,Bf,Bg,Bh,mt,qt,ft,f0,f1,f2,f3,f4,f5,o0,o1,o2,o3,o4,o5⟩:=z;obtain rfl:ns=n+236:=hn;apply aej 7 0 (dec 5436879107)
 ·clear hR;kernel_rfl!
 ·conv=>lhs;whnf
 conv=>arg 7;whnf
 refine aei (pre:=[(2,false,sl,ai [.str lZ so] 0)]) (upd:=λaf=>[]) (F3 w sl [.str lZ so] 0 (jT _)) ?_ ?_ ?_ ?_ ?_ ?_
 ·clear hR;kernel_rfl!
 ·rfl
 ·rfl
 ·clear hR;exact⟨by kernel_rfl!,trivial⟩
 ·exact λaf=>trivial
 intro x1 aX aF;refine Bk 16 0 (dec 17606258336503472060756451469) (Ph.mk:Ph (type_of%(show _ from by
  intro ff hh;apply kT 1 0 (dec 13)
  ·exact ff.elim
  ·conv=>lhs;whnf
  have hid:ZFast.zw10133417225327028743 lZ=some true:=ff.elim;conv=>
   arg 7
   whnf
   rhs
   whnf
   rhs
   whnf
   rhs
   whnf
   rw[hid]
  conv=>
   arg 7
   whnf
   rhs
   whnf
   rhs
   whnf
   rhs
   whnf
   rhs
   tactic=>exact(ff.elim:_=false)
  apply kT 1 0 (dec 2)
  ·exact ff.elim
  ·conv=>lhs;whnf
  conv=>
   arg 7
   whnf
   rhs
   tactic=>exact(ff.elim:_=false)
  conv=>
   arg 7
   whnf
   rhs
   whnf
   rhs
   tactic=>exact(ff.elim:_=false)
  conv=>
   arg 7
   whnf
   rhs
   tactic=>exact(ff.elim:_=false)
  apply kT 14 0 (dec 4298402914185417983583118)
  ·exact ff.elim
  ·conv=>lhs;whnf
  conv=>
   arg 7
   whnf
   rhs
   whnf
   rhs
  exact hh))) ?_ ?_ ?_
 ·clear hR;kernel_rfl!
 ·clear hR;kernel_rfl!
 conv=>
  arg 7
  rhs
  rhs
  rw[aeo]
 refine Bk 53 0 (dec 26923397537796735817464990430498629772797054660488028140363085966951117775) (Ph.mk:Ph (type_of%(show _ from by
  intro ff hh;apply kT 3 0 (dec 62415)
  ·exact ff.elim
  ·conv=>lhs;whnf
  conv=>
   arg 7
   whnf
   rhs
   whnf
   rhs
   whnf
   rhs
   whnf
   rhs
   tactic=>exact(ff.elim:_=false)
  apply kT 5 0 (dec 238875599)
  ·exact ff.elim
  ·conv=>lhs;whnf
  conv=>
   arg 7
   whnf
   rhs
   whnf
   rhs
   tactic=>exact(ff.elim:_=false)
  apply kT 33 0 (dec 21769769456024615994268069906313866448758956174)
  ·exact ff.elim
  ·conv=>lhs;whnf
  conv=>
   arg 7
   whnf
   rhs
   whnf
   rhs
   whnf
   rhs
   whnf
   rhs
   tactic=>exact(ff.elim:_=false)
  apply kT 1 1 (dec 0)
  ·exact ff.elim
  ·conv=>lhs;whnf
  conv=>
   arg 7
   whnf
   rhs
   whnf
   rhs
   whnf
   rhs
   whnf
   rhs
   whnf
   rhs
   whnf
   rhs
   whnf
   rhs
   whnf
   rhs
   tactic=>exact(ff.elim:_=false)
  conv=>
   arg 7
   whnf
   rhs
   whnf
   rhs
   whnf
   rhs
   whnf
   rhs
   whnf
   rhs
   tactic=>exact(ff.elim:_=false)
  apply kT 11 0 (dec 1047154463810)
  ·exact ff.elim
  ·conv=>lhs;whnf
  conv=>
   arg 7
   whnf
   rhs
   whnf
   rhs
  exact hh))) ?_ ?_ ?_
 ·clear hR;kernel_rfl!
 ·clear hR;kernel_rfl!
 conv=>
  arg 7
  rhs
  rhs
  tactic=>exact NW _ _ _
 refine Bk 18 0 (dec 70929194990720663229521) (Ph.mk:Ph (type_of%(show _ from by
  intro ff hh;apply kT 18 0 (dec 70929194990720663229521)
  ·exact ff.elim
  ·conv=>lhs;whnf
  conv=>
   arg 7
   whnf
   rhs
   whnf
   arg 3
  exact hh))) ?_ ?_ ?_
 ·clear hR;kernel_rfl!
 ·clear hR;kernel_rfl!
 conv=>
  arg 7
  rhs
  arg 3
  tactic=>exact aep _ _ _ _ rfl
 refine Bk 2 2 (dec 0) (Ph.mk:Ph (type_of%(show _ from by
  intro ff hh;apply kT 2 2 (dec 0)
  ·exact ff.elim
  ·conv=>lhs;whnf
  conv=>
   arg 7
   whnf
   rhs
   whnf
   rhs
  exact hh))) ?_ ?_ ?_
 ·clear hR;kernel_rfl!
 ·clear hR;kernel_rfl!
 conv=>
  arg 7
  rhs
  rhs
  tactic=>exact aeq (by kernel_rfl!)
 intro h D I K;refine xE (cert:=aq (dec 4289142553322447) (.done (.ok (.ret (.ref (aX+1)))) [] [(11,aX,pH w ⟨nt,bt,n+236,sl,st,so,su,k1,k2,k3,k4,k5,k6,k7,k8,k9,Bf,Bg,Bh,mt,qt,ft,f0,f1,f2,f3,f4,f5,o0,o1,o2,o3,o4,o5⟩ aX aF),(12,aX+1,qZ ⟨nt,bt,n+236,sl,st,so,su,k1,k2,k3,k4,k5,k6,k7,k8,k9,Bf,Bg,Bh,mt,qt,ft,f0,f1,f2,f3,f4,f5,o0,o1,o2,o3,o4,o5⟩ aX),(13,aX+2,uF aX aF)])) (au (cE hR (aX,aF) rfl rfl rfl rfl)) D I K ?_;clear hR D I K;kernel_rfl!
noncomputable def fy:Obj:=⟨.none,none,.fields ⟨[]⟩,⟨[]⟩⟩
noncomputable abbrev NX(f:Nat):bf:=.call (.ref 59) ⟨[.ref f],[]⟩
def aes:bR:=st 5
def sK:bR:=sub 0 aes
noncomputable def NY(n:Str):Str:=⟨⟨xG.cps.toList++46::n.cps.toList⟩⟩
def fK(i:Nat)(n:Str)(cl:List (Str×Nat))(ct:aj)(code:Nat):iG:=⟨n,NY n,fArgs (sub i sK),.stmts (fBody (sub i sK)),fScope (sub i sK),3,cl,.none,.none,.none,t0,none,.ref code,ct,0⟩
def NZ(n:Str)(line:Int)(d tk g:Nat):Obj:=⟨.type "code",none,.fields ⟨[.str n tk,.str (NY n) (tk+1),.str iX (tk+2),.int line 0,.int 2 0,.int 0 0,.int 0 0,.int 19 0,.ref g,.bool true,.int 276 0,.ref (g+1),.none,.ref (g+2),.ref (g+3),.ref (g+4),.int ((tk+d:Nat):Int) 0,.int line 0,.str iX (tk+d+1)]⟩,#[]⟩
noncomputable def GL:Str:=⟨⟨[95,95,105,110,105,116,95,95]⟩⟩
structure KZ where
 g:Nat
 t:Nat
 x:Nat
 u:Nat
def jb(g t:Nat):KB:=
 ⟨t,g+2,g+4,g+9,g+57,t+15,t+71,t+8,t+10,t+12,t+16,t+24,t+33,t+42,t+51,t+60,t+69,t+70,t+72,t+13,t+9,t+11,g+16,g+24,g+32,g+40,g+48,g+56,
  fK 2 GL [] .none (g+15),fK 3 uE [(mY,g+1)] (.ref (g+17)) (g+23),fK 4 NS [(mY,g+1)] (.ref (g+25)) (g+31),fK 5 NT [(mY,g+1)] (.ref (g+33)) (g+39),fK 6 NU [(mY,g+1)] (.ref (g+41)) (g+47),fK 7 NV [(mY,g+1)] (.ref (g+49)) (g+55)⟩
def KZ.new(w:ao)(f:Nat)(z:KZ):List (Nat×Obj):=
 [(z.g+1,ic (.ref f)),(z.g+15,NZ GL 22 5 (z.t+17) (z.g+10)),(z.g+16,iA (fK 2 GL [] .none (z.g+15))),(z.g+23,NZ uE 25 6 (z.t+25) (z.g+18)),(z.g+24,iA (fK 3 uE [(mY,z.g+1)] (.ref (z.g+17)) (z.g+23))),
  (z.x,pH w (jb z.g z.t) z.x z.u),(z.x+1,qZ (jb z.g z.t) z.x),(z.x+2,uF z.x z.u)]
noncomputable def Bl(g:Nat):Obj:=⟨.none,none,.fields ⟨[.int 18 0,.int 4 0,.ref (g+7)]⟩,⟨[]⟩⟩
theorem aet:gB "K"=xF:=by decide+kernel
noncomputable abbrev GN(z:KB):bf:=.builtin "type.__new__" ⟨[.type "type",.str (gB "K") z.nt,.ref z.bt,.ref z.ns],[]⟩
theorem aeu(w:ao)(z:KB)(hns:∃n,z.ns=n+236):
  Spec w 110 (GN z) (GK w z) (Nat×Nat) (λx=>.ok (.ret (.ref (x.1+1)))) (λaf=>[]) (λx=>[(x.1,pH w z x.1 x.2),(x.1+1,qZ z x.1),(x.1+2,uF x.1 x.2)]):=by
 unfold GN;rw[aet];exact aer w z hns
noncomputable def es1:List Nat:=dec 11784807561357206495744643786029525224087660011585
def aev(w:ao)(g t:Nat):List (Nat×Bool×Nat×Obj):=yQ (λi p=>(i,p)) [3,5,10,17,25,33,41,49,57,58] (GK w (jb g t))
theorem aew(w:ao)(f:Nat):
  Spec w 88 (NX f) [(true,54,fy)] KZ (λz=>.ok (.ret (.ref (z.x+1)))) (λz=>[(54,Bl z.g)]) (KZ.new w f):=by
 refine GI rfl rfl ?_;intro A s R hT hR;obtain⟨g0,hg⟩:=GD hT rfl;clear hT;apply Be 50 0 es1
 ·clear hR;kernel_rfl!
 ·conv=>lhs;whnf
 intro h D I K;conv=>arg 5;whnf
 refine aeg λst l=>?_;apply GH 1 0 (dec 1) D I K
 ·clear hR D I K l;kernel_rfl!
 ·conv=>lhs;whnf
 intro h D I K;have hd:=I.1.room I.2.2.1;have h1:X.nearF st 0 sG=false:=l.near' hd 0;have h2:X.overF st 0 sG=false:=l.over hd 0;have h3:X.warmF st 0 sG=false:=l.warm hd 0;conv=>
  arg 5
  whnf
  rhs
  whnf
  rhs
  whnf
  rhs
  whnf
  rhs
  whnf
  rhs
  whnf
  rhs
  whnf
  rhs
  whnf
  rhs
  whnf
  rw[h1,h2,h3]
 clear h1 h2 h3 hd l;refine xE (cert:=aq (dec 14546703879198669750360763444551230325625197842254191073579732839846544972670538963096516153023006439685070043311186799766074507916197765491680229058354261535329934229620761984650891432432610830822214018780593972266314184840809837465578068449047876104) (.cut 110 (GN (jb s.heap.objs.size s.toks)) (aev w s.heap.objs.size s.toks) (Nat×Nat) (λx=>.ok (.ret (.ref (x.1+1)))) (λaf=>[]) (λx=>[(x.1,pH w (jb s.heap.objs.size s.toks) x.1 x.2),(x.1+1,qZ (jb s.heap.objs.size s.toks) x.1),(x.1+2,uF x.1 x.2)]) λx af af=>
  aq (dec 4363386879) (.done (.ok (.ret (.ref (x.1+1)))) [(0,54,Bl s.heap.objs.size)] (yQ (λi p=>(i,p)) [2,16,17,24,25,59,60,61] (KZ.new w f ⟨s.heap.objs.size,s.toks,x.1,x.2⟩))))) (au (ay (aeu w (jb s.heap.objs.size s.toks) ⟨g0+3,by show s.heap.objs.size+4=_;exact UC hg⟩) λx af af=>au (cE hR ⟨s.heap.objs.size,s.toks,x.1,x.2⟩ rfl rfl rfl rfl))) D I K ?_
 clear hR D I K hg g0;kernel_rfl!
def KZ.eu(w:ao)(f:Nat)(z:KZ):List (Bool×Nat×Obj):=(z.new w f).map λp=>(false,p)
noncomputable def jL(z:KZ)(d:Nat)(v:aj):Obj:=⟨.ref (z.x+1),some d,.plain,#[some v]⟩
noncomputable abbrev aex(z:KZ)(i:Int)(t:Nat):bf:=.call (.ref (z.x+1)) ⟨[.int i t],[]⟩
theorem GO(inst:DecidableEq aj)(a:Nat)(r:List aj):(!@JZ aj (@instBEqOfDecidableEq aj inst) (.ref a::r) (.ref a))=false:=by
 rw[NW];rfl
theorem N2(w:ao)(f:Nat)(z:KZ)(hx:∃n,z.x=n+236)(i:Int)(t:Nat):
  Spec w 100 (aex z i t) (z.eu w f) Nat (λa=>.ok (.ret (.ref (a+1)))) (λaf=>[]) (λa=>[(a,cu [] 0),(a+1,jL z a (.int i t))]):=by
 refine GI rfl rfl ?_;intro A s R hT hR;obtain⟨n,hn⟩:=hx;obtain⟨g,t0,x,u⟩:=z;obtain rfl:x=n+236:=hn;obtain⟨g0,hg⟩:=GD hT rfl;clear hT;apply Be 36 0 (dec 14083181969205388616761596153271531477068151972086190665)
 ·clear hR;kernel_rfl!
 ·conv=>lhs;whnf
 intro h D I K;conv=>
  arg 5
  whnf
  rhs
  tactic=>exact GO _ _ _
 apply GH 51 0 (dec 3691932185762007435234888851695291833838882254171274586657356) D I K
 ·clear hR D I K;kernel_rfl!
 ·conv=>lhs;whnf
 intro h D I K;conv=>
  arg 5
  whnf
  rhs
  whnf
  rhs
  tactic=>exact GO _ _ _
 refine xE (cert:=aq (dec 834501386890) (.done (.ok (.ret (.ref (s.heap.objs.size+1)))) [] [(8,s.heap.objs.size,cu [] 0),(9,s.heap.objs.size+1,jL ⟨g,t0,n+236,u⟩ s.heap.objs.size (.int i t))])) (au (cE hR s.heap.objs.size rfl rfl rfl rfl)) D I K ?_;clear hR D I K;kernel_rfl!
structure LZ where
 f:Nat
 fd:iG
 fc:Nat
 co:Obj
 cs:Nat
 SL:Nat
 vs:List aj
 ep:Nat
def LZ.eu(l:LZ):List (Bool×Nat×Obj):=[(false,l.f,iA l.fd),(false,l.fc,l.co),(false,l.cs,ic (.ref l.SL)),(false,l.SL,ai l.vs l.ep)]
noncomputable abbrev ri(l:LZ)(i j:Int)(t u:Nat):bf:=.call (.ref l.f) ⟨[.int i t,.int j u],[]⟩
noncomputable abbrev cLt(z:KZ)(a b:Nat):bf:=.call (.ref (z.g+24)) ⟨[.ref (a+1),.ref (b+1)],[]⟩
def kU(w:ao)(z:KZ)(l:LZ)(a b:Nat)(i j:Int)(t u:Nat):List (Bool×Nat×Obj):=
 (false,a+1,jL z a (.int i t))::(false,b+1,jL z b (.int j u))::(l.eu++z.eu w l.f)
noncomputable abbrev GP(a tk:Nat):bf:=.builtin "proto.getattr_hooked" ⟨[.ref (a+1),.str (gB "obj") tk],[]⟩
def GQ(w:ao)(z:KZ)(a:Nat)(i:Int)(t:Nat):List (Bool×Nat×Obj):=[(false,a+1,jL z a (.int i t)),(false,z.x,pH w (jb z.g z.t) z.x z.u),(false,z.x+1,qZ (jb z.g z.t) z.x),(false,z.x+2,uF z.x z.u)]
theorem N3(w:ao)(z:KZ)(hx:∃n,z.x=n+236)(a:Nat)(i:Int)(t tk:Nat):
  Spec w 108 (GP a tk) (GQ w z a i t) Unit (λaf=>.ok (.ret (.int i t))) (λaf=>[]) (λaf=>[]):=by
 refine GI rfl rfl ?_;intro A s R hT hR;obtain⟨n,hn⟩:=hx;obtain⟨g,t0,x,q⟩:=z;obtain rfl:x=n+236:=hn;clear hT;apply Be 17 0 (dec 1525774122588323412201795)
 ·clear hR;kernel_rfl!
 ·conv=>lhs;whnf
 intro h D I K;conv=>
  arg 5
  whnf
  rhs
  whnf
  rhs
  tactic=>exact GO _ _ _
 refine xE (cert:=aq (dec 211579068806) (.done (.ok (.ret (.int i t))) [] [])) (au (cE hR () rfl rfl rfl rfl)) D I K ?_;clear hR D I K;kernel_rfl!
noncomputable def ixs(l:List Nat)(p:List (Bool×Nat×Obj)):List (Nat×Bool×Nat×Obj):=yQ (λi p=>(i,p)) l p
theorem aez(w0:ao)(fb fc:Bool)(z:KZ)(hx:∃n,z.x=n+236)(l:LZ)(a b:Nat)(i j:Int)(t u:Nat)(c:Int)(hf:Spec (ak w0 fb fc) 108 (ri l i j t u) l.eu Nat (λv=>.ok (.ret (.int c v))) (λaf=>[]) (λaf=>[])):
  Spec (ak w0 fb fc) 100 (cLt z a b) (kU (ak w0 fb fc) z l a b i j t u) Unit (λaf=>.ok (.ret (.bool (decide (c<0))))) (λaf=>[]) (λaf=>[]):=by
 generalize hw:ak w0 fb fc=w at*;have h1:=λtk=>N3 w z hx a i t tk;have h2:=λtk=>N3 w z hx b j u tk;have h4:=λv tk=>ED w c 0 v tk _ rfl;refine cX rfl rfl ?_;intro A s R hR;obtain⟨g,t0,x,q⟩:=z;obtain⟨f,fd,fc,co,cs,SL,vs,ep⟩:=l;generalize hd:decide (c<0)=d at*;refine⟨aq (dec 4303186438086817455809293) (.cut 108 (GP a (s.toks+2)) (ixs [0,11,12,13] (GQ w ⟨g,t0,x,q⟩ a i t)) Unit _ (λaf=>[]) (λaf=>[]) λaf af aF=>
  aq (dec 238874897) (.cut 108 (GP b aF) (ixs [1,11,12,13] (GQ w ⟨g,t0,x,q⟩ b j u)) Unit _ (λaf=>[]) (λaf=>[]) λaf af b4=>
  aq (dec 5) (.cut 108 (ri ⟨f,fd,fc,co,cs,SL,vs,ep⟩ i j t u) (ixs [2,3,4,5] (LZ.eu ⟨f,fd,fc,co,cs,SL,vs,ep⟩)) Nat _ (λaf=>[]) (λaf=>[]) λv af bV=>
  aq (dec 0) (.cut 119 _ [] Unit _ (λaf=>[]) (λaf=>[]) λaf af af=>
  aq (dec 0) (.done (.ok (.ret (.bool d))) [] []))))),
  au<|ay (h1 _) λaf af aF=>au<|ay (h2 _) λaf af b4=>au<|ay hf λv af bV=>au<|ay (h4 v bV) λaf af af=>au<|cE hR () rfl rfl rfl rfl,?_⟩
 clear hR h1 h2 h4 hf hx hd;(apply cO hw;kernel_rfl!)
section
open Builtin
end
section
open Builtin PySem.SeqAt
open AutoSeq1 (wpAny_loadPart')
open MeetsSeq MeetsSeq2 MeetsSeq3
noncomputable def uG(e c:Nat→Bool)(z:Bool):Nat→Nat→Bool
 |0,_=>z
 |r+1,k=>match e k with
  |true=>uG e c z r (k+1)
  |false=>c k
noncomputable def N4:Nat→CmpOp
 |0=>.Lt
 |1=>.LtE
 |_=>.GtE
noncomputable def uH(code m n:Nat):Bool:=match code with
 |0=>decide (m<n)
 |1=>decide (m≤n)
 |_=>decide (m≥n)
theorem aeA(p q:Nat)(vs us:List aj)(ep eq:Nat)(code:Nat)(hc:code=0∨code=1∨code=5)(e c:Nat→Bool)
  (he:∀(A:aV) (s:aA) j (h1:j<vs.length) (h2:j<us.length),EqAt A s vs[j] us[j] (e j))
  (hr:∀(prog:f6) (w:ao) (A:aV) (E:aj→aA→Prop) (Q:aj→aA→Prop) (s:aA) j (h1:j<vs.length) (h2:j<us.length),e j=false→Q (.bool (c j)) s→wpAny (model prog w) A (richCompare (N4 code) vs[j] us[j]) Q E s):
  ∀(r k:Nat),min vs.length us.length=k+r→Meets (eY.«list.__eq__.loop» ⟨[.ref p,.ref q,cW k,cW code],[]⟩)
   (λaf R s=>s.heap.get? p=some (ai vs ep)∧s.heap.get? q=some (ai us eq)∧R (.ok (.ret (.bool (uG e c (uH code vs.length us.length) r k)))) s):=by
 intro r;induction r with
 |zero=>
  intro k hk prog w A R s h;obtain⟨hp,g,d,tk,os⟩:=s;obtain⟨hl,hb,h⟩:=h;have hl:hp.get? p=some {cls:=.type "list",dict:=none,data:=.seq ⟨vs⟩ ep,slots:=#[]}:=hl;have hb:hp.get? q=some {cls:=.type "list",dict:=none,data:=.seq ⟨us⟩ eq,slots:=#[]}:=hb;rcases hc with rfl|rfl|rfl<;>
  ·rcases Nat.le_total vs.length us.length with hv|hv
   ·have h1:(⟨vs⟩:Array aj)[((k:Nat):Int).toNat]?=none:=by simp;exact Qk hk hv
    wp_walk using jV hl,jV hb
    rw[h1];wp_walk using jV hl,jV hb
    exact h
   ·have h1:(⟨us⟩:Array aj)[((k:Nat):Int).toNat]?=none:=by simp;exact Ql hk hv
    wp_walk using jV hl,jV hb
    rw[h1];cases (⟨vs⟩:Array aj)[((k:Nat):Int).toNat]?<;>
    ·wp_walk using jV hl,jV hb
     exact h
 |succ r ih=>
  intro k hk prog w A R s h;obtain⟨hp,g,d,tk,os⟩:=s;obtain⟨hl,hb,h⟩:=h;have hl:hp.get? p=some {cls:=.type "list",dict:=none,data:=.seq ⟨vs⟩ ep,slots:=#[]}:=hl;have hb:hp.get? q=some {cls:=.type "list",dict:=none,data:=.seq ⟨us⟩ eq,slots:=#[]}:=hb;have hv:k<vs.length:=by exact WW hk
  have hu:k<us.length:=by exact WX hk
  have i1:(⟨vs⟩:Array aj)[((k:Nat):Int).toNat]?=some vs[k]:=by simp[hv]
  have i2:(⟨us⟩:Array aj)[((k:Nat):Int).toNat]?=some us[k]:=by simp[hu]
  have hk1:((k:Int)+1)=((k+1:Nat):Int):=by push_cast;rfl
  rcases hc with rfl|rfl|rfl<;>
  ·wp_walk using jV hl,jV hb
   rw[i1,i2];refine av (he _ _ k hv hu prog w _ _ ?_);unfold uG at h;cases GR:e k with
   |true=>
    rw[GR]at h;wp_walk
    rw[hk1];exact⟨vJ plain_eq_loop _,cN entry_eq_loop (by
     rw[gO plain_eq_loop _];exact ih (k+1) (Qn hk) prog w A R _ ⟨hl,hb,h⟩)⟩
   |false=>
    rw[GR]at h;wp_walk using jV hl,jV hb
    rw[i1,i2];exact av ((hr prog w) _ _ _ _ k hv hu GR (aJ h))
end
section
open Builtin PySem.SeqAt
open MeetsSeq MeetsSeq2 MeetsSeq3
theorem GU(w:ao)(p q:Nat)(vs us:List aj)(ep eq:Nat)(code:Nat)(hc:code=0∨code=1∨code=5)(e c:Nat→Bool)
  (he:∀(A:aV) (s:aA) j (h1:j<vs.length) (h2:j<us.length),EqAt A s vs[j] us[j] (e j))
  (hr:∀(prog:f6) (w:ao) (A:aV) (E:aj→aA→Prop) (Q:aj→aA→Prop) (s:aA) j (h1:j<vs.length) (h2:j<us.length),e j=false→Q (.bool (c j)) s→wpAny (model prog w) A (richCompare (N4 code) vs[j] us[j]) Q E s)
  (b:Bool) (hb:uG e c (uH code vs.length us.length) (min vs.length us.length) 0=b):
  Spec w 119 (.builtin "list.__eq__.loop" ⟨[.ref p,.ref q,cW 0,cW code],[]⟩) [(false,p,ai vs ep),(false,q,ai us eq)] Unit (λaf=>.ok (.ret (.bool b))) (λaf=>[]) (λaf=>[]):=by
 intro A s R hA hT hP _ _ hR;refine cN entry_eq_loop ?_;rw[gO plain_eq_loop _];exact aeA p q vs us ep eq code hc e c he hr (min vs.length us.length) 0 (iF _).symm _ _ A R s ⟨(hP (p,_) (.head _)),(hP (q,_) (.tail _ (.head _))),hb▸fG hR () s.toks⟩
theorem one_le(w:ao)(p q:Nat)(x y:List Nat)(t u ep eq:Nat)(b:Bool)(h:(!decide (y<x))=b):
  Spec w 119 (.builtin "list.__eq__.loop" ⟨[.ref p,.ref q,cW 0,cW (1:Nat)],[]⟩) [(false,p,ai [.str ⟨⟨x⟩⟩ t] ep),(false,q,ai [.str ⟨⟨y⟩⟩ u] eq)] Unit (λaf=>.ok (.ret (.bool b))) (λaf=>[]) (λaf=>[]):=by
 refine GU w p q _ _ ep eq 1 (.inr (.inl rfl)) (λaf=>(⟨⟨x⟩⟩:Str)==⟨⟨y⟩⟩) (λaf=>b) (λA s j h1 h2=>?_) (λprog w A E Q s j h1 h2 af hq=>?_) b ?_
 ·obtain rfl:j=0:=by simpa using h1
  exact EqAt.str_str _ _ _ _
 ·obtain rfl:j=0:=by simpa using h1
  refine Dt (op:=.LtE) (sO s _ t) (sO s _ u) F.slot_str_le F.entry_str_le (F.args_str_le_2 _ _) (gives_str_le ⟨⟨x⟩⟩ ⟨⟨y⟩⟩ t u) (λe=>nomatch e) ?_;show Q (.bool (!decide (y<x))) s;rw[h];exact hq
 ·show(match(⟨⟨x⟩⟩:Str)==⟨⟨y⟩⟩with|true=>uH 1 1 1|false=>b)=b
  cases hxy:(⟨⟨x⟩⟩:Str)==⟨⟨y⟩⟩with
  |false=>rfl
  |true=>
   have e:=eq_of_beq hxy;injection e with e
   injection e with e
   subst e;rw[←h];simp[uH]
theorem aeB(w:ao)(p q:Nat)(x y:List Nat)(t u ep eq:Nat)(b:Bool)(h:(!decide (x<y))=b):
  Spec w 119 (.builtin "list.__eq__.loop" ⟨[.ref p,.ref q,cW 0,cW (5:Nat)],[]⟩) [(false,p,ai [.str ⟨⟨x⟩⟩ t] ep),(false,q,ai [.str ⟨⟨y⟩⟩ u] eq)] Unit (λaf=>.ok (.ret (.bool b))) (λaf=>[]) (λaf=>[]):=by
 refine GU w p q _ _ ep eq 5 (.inr (.inr rfl)) (λaf=>(⟨⟨x⟩⟩:Str)==⟨⟨y⟩⟩) (λaf=>b) (λA s j h1 h2=>?_) (λprog w A E Q s j h1 h2 af hq=>?_) b ?_
 ·obtain rfl:j=0:=by simpa using h1
  exact EqAt.str_str _ _ _ _
 ·obtain rfl:j=0:=by simpa using h1
  refine Dt (op:=.GtE) (sO s _ t) (sO s _ u) F.slot_str_ge F.entry_str_ge (F.args_str_ge_2 _ _) (gives_str_ge ⟨⟨x⟩⟩ ⟨⟨y⟩⟩ t u) (λe=>nomatch e) ?_;show Q (.bool (!decide (x<y))) s;rw[h];exact hq
 ·show(match(⟨⟨x⟩⟩:Str)==⟨⟨y⟩⟩with|true=>uH 5 1 1|false=>b)=b
  cases hxy:(⟨⟨x⟩⟩:Str)==⟨⟨y⟩⟩with
  |false=>rfl
  |true=>
   have e:=eq_of_beq hxy;injection e with e
   injection e with e
   subst e;rw[←h];simp[uH]
end
noncomputable abbrev ki(x:List Nat)(t:Nat):Obj:=ai [.str ⟨⟨x⟩⟩ t] 0
theorem aeC(w0:ao)(fb fc:Bool)(x y:List Nat)(t u p q:Nat):
  Spec (ak w0 fb fc) 112 (.call (.ref 45) ⟨[.ref p,.ref q],[]⟩) [(false,p,ki x t),(false,q,ki y u)] Unit (λaf=>.ok (.ret (.bool (decide (y<x))))) (λaf=>[]) (λaf=>[]):=by
 generalize hw:ak w0 fb fc=w at*;have h1:=one_le w p q x y t u 0 0 _ rfl;generalize decide (y<x)=d at*;refine cX rfl rfl ?_;intro A s R hR;refine⟨aq (dec 5011323592733792962809700417) (.cut 119 _ [(0,false,p,ki x t),(1,false,q,ki y u)] Unit _ (λaf=>[]) (λaf=>[]) λaf af af=>
  aq (dec 5385769285) (.done (.ok (.ret (.bool d))) [] [])),
  au<|ay h1 λaf af af=>au<|cE hR () rfl rfl rfl rfl,?_⟩
 clear hR h1;subst hw;cases d
 ·(apply ck (fb:=fb);kernel_rfl!)
 ·(apply ck (fb:=fb);kernel_rfl!)
theorem aeD(w0:ao)(fb fc:Bool)(x y:List Nat)(t u p q:Nat):
  Spec (ak w0 fb fc) 112 (.call (.ref 52) ⟨[.ref p,.ref q],[]⟩) [(false,p,ki x t),(false,q,ki y u)] Unit (λaf=>.ok (.ret (.bool (decide (x<y))))) (λaf=>[]) (λaf=>[]):=by
 generalize hw:ak w0 fb fc=w at*;have h1:=aeB w p q x y t u 0 0 _ rfl;generalize decide (x<y)=d at*;refine cX rfl rfl ?_;intro A s R hR;refine⟨aq (dec 5011323592733792962809700417) (.cut 119 _ [(0,false,p,ki x t),(1,false,q,ki y u)] Unit _ (λaf=>[]) (λaf=>[]) λaf af af=>
  aq (dec 5385769285) (.done (.ok (.ret (.bool d))) [] [])),
  au<|ay h1 λaf af af=>au<|cE hR () rfl rfl rfl rfl,?_⟩
 clear hR h1;subst hw;cases d
 ·(apply ck (fb:=fb);kernel_rfl!)
 ·(apply ck (fb:=fb);kernel_rfl!)
def jr:bR:=st 23
def GV:Expr:=(D6 (rhs (sub 5 jr))).getD 0 (.Name ⟨#[]⟩ default)
noncomputable def kW:Str:=⟨⟨[60,108,97,109,98,100,97,62]⟩⟩
noncomputable def N5:Str:=⟨⟨[108,97,119,46,60,108,111,99,97,108,115,62,46,60,108,97,109,98,100,97,62]⟩⟩
noncomputable def N6:Str:=⟨⟨[115,101,110,116]⟩⟩
def xH(cs fc ct:Nat):iG:=⟨kW,N5,Kw GV,.expr (eE GV),oO GV,3,[(N6,cs)],.none,.none,.none,t0,none,.ref fc,.ref ct,0⟩
def xJ(v0:aj)(tq:Nat)(r:List aj):Obj:=⟨.type "code",none,.fields ⟨v0::.str N5 tq::r⟩,#[]⟩
theorem N7(w:ao)(a r:Int)(t:Nat)(b:Bool)(h:(a*if b=true then(1:Int)else 0)=r):Spec w 119 (.builtin "int.__mul__" ⟨[.int a t,.bool b],[]⟩) [] Nat (λv=>.ok (.ret (.int r v))) (λaf=>[]) (λaf=>[]):=
 gives_int (by decide+kernel) F.entry_int_mul (h▸AutoIntG9.int___mul___int_bool_0 a t b)
abbrev Bm(f fc cs ct SL ep:Nat)(v0:aj)(tq:Nat)(r:List aj)(vs:List aj):LZ:=⟨f,xH cs fc ct,fc,xJ v0 tq r,cs,SL,vs,ep⟩
noncomputable def zz:Bool→Bool→Int
 |true,true=>2
 |true,false=>5
 |false,true=>-3
 |false,false=>0
noncomputable def xK(x y:List Nat):Int:=zz (decide (y<x)) (decide (x<y))
theorem aeE(w0:ao)(fb pI:Bool)(f fc cs ct SL ep:Nat)(v0:aj)(tq:Nat)(r:List aj)(vs:List aj)(hl:vs.length≤1000)(i j t u:Nat)(x y:List Nat)(tx ty:Nat)(hi:vs[i]?=some (.str ⟨⟨x⟩⟩ tx))(hj:vs[j]?=some (.str ⟨⟨y⟩⟩ ty)):
  Spec (ak w0 fb pI) 108 (ri (Bm f fc cs ct SL ep v0 tq r vs) i j t u) (LZ.eu (Bm f fc cs ct SL ep v0 tq r vs)) Nat (λv=>.ok (.ret (.int (xK x y) v))) (λaf=>[]) (λaf=>[]):=by
 have g1:=pA (ak w0 fb pI) SL vs _ ep t i hi hl;have g2:=pA (ak w0 fb pI) SL vs _ ep u j hj hl;have h1:=λp q=>aeC w0 fb pI x y tx ty p q;have h2:=λp q=>aeD w0 fb pI x y tx ty p q;unfold xK;generalize hw:ak w0 fb pI=w at*;generalize decide (y<x)=d1 at*;generalize decide (x<y)=d2 at*;generalize (i:Int)=i' at*;generalize (j:Int)=j' at*;have m1:=λt=>N7 w 5 _ t d1 rfl;have m2:=λt=>N7 w 3 _ t d2 rfl;refine cX rfl rfl ?_;intro A s R hR;refine⟨aq (dec 117899052493990217924747523) (.cut 119 _ [(3,false,SL,ai vs ep)] Unit _ (λaf=>[]) (λaf=>[]) λaf aU af=>
  aq (dec 418861576514) (.cut 119 _ [(3,false,SL,ai vs ep)] Unit _ (λaf=>[]) (λaf=>[]) λaf aX af=>
  aq (dec 66) (.cut 112 _ [(5,false,aU,ki x tx),(6,false,aX,ki y ty)] Unit _ (λaf=>[]) (λaf=>[]) λaf af af=>
  aq (dec 0) (.cut 119 _ [] Nat _ (λaf=>[]) (λaf=>[]) λv1 af aF=>
  aq (dec 418861576513) (.cut 119 _ [(3,false,SL,ai vs ep)] Unit _ (λaf=>[]) (λaf=>[]) λaf aQ af=>
  aq (dec 418861576514) (.cut 119 _ [(3,false,SL,ai vs ep)] Unit _ (λaf=>[]) (λaf=>[]) λaf bW af=>
  aq (dec 66) (.cut 112 _ [(7,false,aQ,ki x tx),(8,false,bW,ki y ty)] Unit _ (λaf=>[]) (λaf=>[]) λaf af tk=>
  aq (dec 0) (.cut 119 _ [] Nat _ (λaf=>[]) (λaf=>[]) λv2 af b4=>
  aq (dec 0) (.done (.ok (.ret (.int (zz d1 d2) b4))) [] []))))))))),
  au<|ay g1 λaf aU af=>au<|ay g2 λaf aX af=>au<|ay (h1 aU aX) λaf af af=>au<|ay (m1 (s.toks+2)) λv1 af aF=>au<|ay g1 λaf aQ af=>au<|ay g2 λaf bW af=>au<|ay (h2 aQ bW) λaf af tk=>au<|ay (m2 aF) λv2 af b4=>au<|cE hR b4 rfl rfl rfl rfl,?_⟩
 clear hR h1 h2 g1 g2 hl hi hj m1 m2;subst hw;cases d1
 ·cases d2
  ·(apply ck (fb:=fb);kernel_rfl!)
  ·(apply ck (fb:=fb);kernel_rfl!)
 ·cases d2
  ·(apply ck (fb:=fb);kernel_rfl!)
  ·(apply ck (fb:=fb);kernel_rfl!)
theorem aeF:∃y,typeLookup (.type "object") "__lt__"=pure y:=⟨some (.builtin "object.__lt__"),by rw[typeLookup_type,builtinLookup_eq_fast];kernel_rfl⟩
theorem N8{w:ao}{f:Nat}{z:KZ}{h:az}(H:eZ h ((z.eu w f).map (·.2))){a:Nat}{v:aj}(ha:h.get? (a+1)=some (jL z a v)):h.OwnSpecial (a+1) (z.x+1) (z.g+24) "object" "__lt__":=by
 have g:∀p∈z.new w f,h.get? p.1=some p.2:=λp hp=>H p (by simpa[KZ.eu]using hp)
 obtain⟨y,hy⟩:=aeF;refine⟨_,_,xF,xG,z.x,[.type "object"],[.type "object"],false,[lZ],[],false,none,none,_,none,_,_,_,"object.__new__",_,y,ha,rfl,(g (z.x+1,qZ (jb z.g z.t) z.x) CG),⟨_,_,_,(g (z.x,pH w (jb z.g z.t) z.x z.u) kB),rfl,?_,λaf=>rfl⟩,?_,(g (z.g+24,iA (fK 3 uE [(mY,z.g+1)] (.ref (z.g+17)) (z.g+23))) in4),rfl,by kernel_rfl,hy⟩
 ·intro e he;have he:e∈de w qD (jb z.g z.t).k1 (.str GJ (jb z.g z.t).mt)::Bj w (jb z.g z.t)++[de w lZ (z.u+1) (.ref (z.x+2)),de w Q2 (z.u+2) .none]:=by simpa using he
  delta Bj at he;simp only[n8,aM,bO,or_false]at he;rcases he with(rfl|rfl|rfl|rfl|rfl|rfl|rfl|rfl|rfl|rfl|rfl)|rfl|rfl<;>exact⟨_,_,rfl⟩
 ·rw[show(gB "__lt__")=uE from by decide+kernel]
  delta nsFind findBy;rw[←Dn];kernel_rfl!
theorem N9(w0:ao)(fb fc:Bool)(z:KZ)(hx:∃n,z.x=n+236)(l:LZ)(a b:Nat)(i j:Int)(t u:Nat)(c:Int)(hf:Spec (ak w0 fb fc) 108 (ri l i j t u) l.eu Nat (λv=>.ok (.ret (.int c v))) (λaf=>[]) (λaf=>[]))
  {A:aV} {s:aA} {E:aj→aA→Prop} (hA:bK 100 A) (hT:aR (kt (ak w0 fb fc).params) s.heap) (hP:eZ s.heap ((kU (ak w0 fb fc) z l a b i j t u).map (·.2))) (hN:((kU (ak w0 fb fc) z l a b i j t u).map (·.2.1)).Nodup)
  {Q:aj→aA→Prop} (hQ:∀h' t',Keeps [] s.heap h'→Q (.bool (decide (c<0))) ⟨h',s.gens,s.drawn,t',s.os⟩):
  wpAny (model pw (ak w0 fb fc)) A (call (.ref (z.g+24)) [.ref (a+1),.ref (b+1)]) (λv s'=>∃b,v=.bool b∧Q (.bool b) s') E s:=by
 refine zk ?_;exact aez w0 fb fc z hx l a b i j t u c hf A _ _ hA hT hP hN (λp hp hm=>by
  have:p.1=false:=by
   unfold kU at hp;rcases aM.mp hp with rfl|hp
   ·rfl
   rcases aM.mp hp with rfl|hp
   ·rfl
   rcases mA hp with hp|hp
   ·apply fX hp<;>rfl
   ·refine aS (aN.mp hp) λq af aG=>?_;subst aG;rfl
  rw[this]at hm;cases hm) λaf h' t' k1 af af af af=>⟨_,rfl,hQ h' t' k1⟩
theorem aeG(w0:ao)(fb fc:Bool)(z:KZ)(hx:∃n,z.x=n+236)(l:LZ)(a b:Nat)(i j:Int)(t u:Nat)(c:Int)(hf:Spec (ak w0 fb fc) 108 (ri l i j t u) l.eu Nat (λv=>.ok (.ret (.int c v))) (λaf=>[]) (λaf=>[]))
  {A:aV} {s:aA} {E:aj→aA→Prop} (hA:bK 100 A) (hT:aR (kt (ak w0 fb fc).params) s.heap) (hP:eZ s.heap ((kU (ak w0 fb fc) z l a b i j t u).map (·.2))) (hN:((kU (ak w0 fb fc) z l a b i j t u).map (·.2.1)).Nodup)
  {Q:aj→aA→Prop} (hQ:∀h' t',Keeps [] s.heap h'→Q (.bool (decide (c<0))) ⟨h',s.gens,s.drawn,t',s.os⟩):
  wpAny (model pw (ak w0 fb fc)) A (richCompare .Lt (.ref (a+1)) (.ref (b+1))) Q E s:=by
 have hz:eZ s.heap ((z.eu (ak w0 fb fc) l.f).map (·.2)):=λp hp=>hP p (by
  unfold kU;rw[bP,bP,aL];exact .tail _ (.tail _ (inr hp)))
 have hu:A.units<cLine:=by show A.units<9900;exact Cg hA.units
 refine richCompare_own_same (op:=.Lt) (sym:="<") (f:="__lt__") (r:="__gt__") rfl (N8 hz (hP (_,_) (.head _))) (hP (_,_) (.tail _ (.head _))) rfl hu ?_;exact N9 w0 fb fc z hx l a b i j t u c hf hA hT hP hN hQ
theorem aeH(w0:ao)(fb fc:Bool)(z:KZ)(hx:∃n,z.x=n+236)(l:LZ)(a b:Nat)(i j:Int)(t u:Nat)(c:Int)(hf:Spec (ak w0 fb fc) 108 (ri l i j t u) l.eu Nat (λv=>.ok (.ret (.int c v))) (λaf=>[]) (λaf=>[]))
  {A:aV} {s:aA} {E:aj→aA→Prop} (hA:bK 100 A) (hT:aR (kt (ak w0 fb fc).params) s.heap) (hP:eZ s.heap ((kU (ak w0 fb fc) z l a b i j t u).map (·.2))) (hN:((kU (ak w0 fb fc) z l a b i j t u).map (·.2.1)).Nodup)
  {Q:Bool→aA→Prop} (hQ:∀h' t',Keeps [] s.heap h'→Q (decide (c<0)) ⟨h',s.gens,s.drawn,t',s.os⟩):
  wpAny (model pw (ak w0 fb fc)) A (oneLt' true (.ref (a+1)) (.ref (b+1))) Q E s:=by
 have hz:eZ s.heap ((z.eu (ak w0 fb fc) l.f).map (·.2)):=λp hp=>hP p (by
  unfold kU;rw[bP,bP,aL];exact .tail _ (.tail _ (inr hp)))
 have hu:A.units<cLine:=by show A.units<9900;exact Cg hA.units
 rw[oneLt'_eq];dsimp only[if_true];refine av (wpAny_cRoomFor hu ?_);refine av (wpAny_callSpecialIfBound?_own (N8 hz (hP (_,_) (.head _))) (jY (N9 w0 fb fc z hx l a b i j t u c hf hA hT hP hN (Q:=λv s'=>∃b,v=.bool b∧Q b s') λh' t' k=>⟨_,rfl,hQ h' t' k⟩) (λv s' h=>?_) λaf af x=>x));obtain⟨b,rfl,b',e,hq⟩:=h;obtain rfl:b=b':=by injection e
 exact sE hq
section
open Builtin PySem.SeqAt
theorem Oa(e c:Nat→Bool):∀(r k:Nat) (x y:List Nat),min x.length y.length=r→(∀j (h1:j<x.length) (h2:j<y.length),e (k+j)=(x[j]==y[j]))→(∀j (h1:j<x.length) (h2:j<y.length),c (k+j)=decide (x[j]<y[j]))→
  uG e c (decide (x.length<y.length)) r k=lexLt x y
 |0,k,[],[],_,_,_=>rfl
 |0,k,[],b::y,_,_,_=>by
  show decide (0<(b::y).length)=true;rfl
 |0,k,a::x,[],_,_,_=>by
  show decide ((a::x).length<0)=false;rfl
 |0,k,a::x,b::y,h,_,_=>by
  simp at h
 |r+1,k,[],y,h,_,_=>by trivial
 |r+1,k,a::x,[],h,_,_=>by trivial
 |r+1,k,a::x,b::y,h,he,hc=>by
  have h0:=he 0 (jT _) (jT _);have c0:=hc 0 (jT _) (jT _);simp at h0 c0;unfold uG lexLt;rw[h0];by_cases hab:a=b
  ·subst hab;rw[if_pos rfl];rw[(by simp:(a==a)=true)]
   rw[(by simp:decide ((a::x).length<(a::y).length)=decide (x.length<y.length))]
   refine Oa e c r (k+1) x y (by simp at h;assumption) (λj h1 h2=>?_) (λj h1 h2=>?_)
   ·have:=he (j+1) (by simpa using h1) (by simpa using h2)
    rw[show k+1+j=k+(j+1) by exact IB]
    simpa using this
   ·have:=hc (j+1) (by simpa using h1) (by simpa using h2)
    rw[show k+1+j=k+(j+1) by exact IB]
    simpa using this
  ·rw[if_neg hab];rw[(by simpa using hab:(a==b)=false)]
   exact c0
theorem aeI(w:ao)(p q:Nat)(vs us:List (Nat×Nat))(ep eq:Nat)(b:Bool)(h:lexLt (vs.map (·.1)) (us.map (·.1))=b):
  Spec w 119 (.builtin "list.__eq__.loop" ⟨[.ref p,.ref q,cW 0,cW (0:Nat)],[]⟩) [(false,p,ai (aD vs) ep),(false,q,ai (aD us) eq)] Unit (λaf=>.ok (.ret (.bool b))) (λaf=>[]) (λaf=>[]):=by
 refine GU w p q _ _ ep eq 0 (.inl rfl) (λj=>match vs[j]?,us[j]? with|some a,some b=>a.1==b.1|_,_=>false) (λj=>match vs[j]?,us[j]? with|some a,some b=>decide (a.1<b.1)|_,_=>false) (λA s j h1 h2=>?_) (λprog w A E Q s j h1 h2 af hq=>?_) b ?_
 ·have g1:j<vs.length:=by simpa[aD]using h1
  have g2:j<us.length:=by simpa[aD]using h2
  have e1:(aD vs)[j]=.int (vs[j].1:Int) vs[j].2:=by simp[aD]
  rw[e1,(by simp[aD]:(aD us)[j]=.int (us[j].1:Int) us[j].2),fY g1,fY g2]
  have:=EqAt.int_int (A:=A) (s:=s) (vs[j].1:Int) vs[j].2 (us[j].1:Int) us[j].2;rwa [show((vs[j].1:Int)==(us[j].1:Int))=(vs[j].1==us[j].1) by
   rw[mL,beq_iff_eq,beq_iff_eq];exact vD]at this
 ·have g1:j<vs.length:=by simpa[aD]using h1
  have g2:j<us.length:=by simpa[aD]using h2
  have e1:(aD vs)[j]=.int (vs[j].1:Int) vs[j].2:=by simp[aD]
  rw[e1,(by simp[aD]:(aD us)[j]=.int (us[j].1:Int) us[j].2)]
  rw[fY g1,fY g2]at hq;refine Dt (op:=.Lt) (vN s _ _) (vN s _ _) F.slot_int_lt F.entry_int_lt (F.args_int_lt_2 _ _) (gives_int_lt _ _ _ _) (λe=>nomatch e) ?_;show Q (.bool (decide ((vs[j].1:Int)<(us[j].1:Int)))) s;rw[show decide ((vs[j].1:Int)<(us[j].1:Int))=decide (vs[j].1<us[j].1) by simp]
  exact hq
 ·rw[←h];have l1:(aD vs).length=(vs.map (·.1)).length:=by simp[aD]
  rw[l1,(by simp[aD]:(aD us).length=(us.map (·.1)).length)]
  refine Oa _ _ _ 0 _ _ rfl (λj h1 h2=>?_) (λj h1 h2=>?_)
  ·rw[iF,fY (by simpa using h1),fY (by simpa using h2)]
   simp
  ·rw[iF,fY (by simpa using h1),fY (by simpa using h2)]
   simp
end
theorem aeJ(w:ao)(p q:Nat)(vs us:List (Nat×Nat))(ep eq:Nat)(b:Bool)(h:lexLt (vs.map (·.1)) (us.map (·.1))=b):
  Spec w 112 (.call (.builtin "list.__lt__") ⟨[.ref p,.ref q],[]⟩) [(false,p,ai (aD vs) ep),(false,q,ai (aD us) eq)] Unit (λaf=>.ok (.ret (.bool b))) (λaf=>[]) (λaf=>[]):=by
 have h1:=aeI w p q vs us ep eq b h;refine cX rfl rfl ?_;intro A s R hR;refine⟨aq (dec 259) (.cut 119 _ [(0,false,p,ai (aD vs) ep),(1,false,q,ai (aD us) eq)] Unit _ (λaf=>[]) (λaf=>[]) λaf af af=>
  aq (dec 0) (.done (.ok (.ret (.bool b))) [] [])),
  au<|ay h1 λaf af af=>au<|cE hR () rfl rfl rfl rfl,?_⟩
 clear hR h1 h;kernel_rfl!
theorem aeK(w:ao)(p q:Nat)(vs us:List (Nat×Nat))(ep eq:Nat){A:aV}{s:aA}{E:aj→aA→Prop}(hA:bK 100 A)(hT:aR (kt w.params) s.heap)(hpq:p≠q)
  (h1:s.heap.get? p=some (ai (aD vs) ep)) (h2:s.heap.get? q=some (ai (aD us) eq)) {Q:Bool→aA→Prop}
  (hQ:∀h' t',Keeps [] s.heap h'→Q (lexLt (vs.map (·.1)) (us.map (·.1))) ⟨h',s.gens,s.drawn,t',s.os⟩):wpAny (model pw w) A (oneLt' true (.ref p) (.ref q)) Q E s:=by
 have hu:A.units<cLine:=by show A.units<9900;exact Cg hA.units
 rw[oneLt'_eq];dsimp only[if_true];refine av (wpAny_cRoomFor hu ?_);refine av (wpAny_callSpecialIfBound?_slot (T:="list") ⟨_,h1,rfl⟩ F.slot_list_lt (zk ?_));refine aeJ w p q vs us ep eq _ rfl A s _ (hA.le (by decide)) hT (λx hx=>?_) ?_ (λx hx hm=>?_) λaf h' t' k1 af af af af=>?_
 ·apply bJ hx
  ·exact h1
  ·exact h2
 ·simpa using hpq
 ·have hx:=b3 hx;rcases hx with rfl|rfl<;>cases hm
 ·exact sE (hQ h' t' k1)
theorem uI:∀a:List Nat,lexLt a a=false
 |[]=>rfl
 |a::x=>by
  unfold lexLt;rw[if_pos rfl];exact uI x
theorem lex_trans:∀a b c:List Nat,lexLt a b=true→lexLt b c=true→lexLt a c=true
 |[],[],_,h,_=>by trivial
 |_::_,[],_,h,_=>by trivial
 |_,_::_,[],_,h=>by cases h
 |[],_::_,_::_,_,_=>rfl
 |a::x,b::y,c::z,h,k=>by
  unfold lexLt at*;by_cases e1:a=b
  ·subst e1;rw[if_pos rfl]at h;by_cases e2:a=c
   ·rw[if_pos e2]at k⊢;exact lex_trans x y z h k
   ·rw[if_neg e2]at k⊢;exact k
  ·rw[if_neg e1]at h;by_cases e2:b=c
   ·subst e2;rw[if_neg e1];exact h
   ·rw[if_neg e2]at k;rw[decide_eq_true_eq]at h k;rw[if_neg (Wh h k)];rw[decide_eq_true_eq];exact Jb h k
theorem Bo:∀a b:List Nat,lexLt a b=false→lexLt b a=false→a=b
 |[],[],_,_=>rfl
 |[],_::_,h,_=>by trivial
 |_::_,[],_,h=>by trivial
 |a::x,b::y,h,k=>by
  unfold lexLt at h k;by_cases e:a=b
  ·subst e;rw[if_pos rfl]at h k;rw[Bo x y h k]
  ·rw[if_neg e]at h;rw[if_neg λq=>e q.symm]at k;rw[decide_eq_false_iff_not]at h k;omega
noncomputable def cH(T:Nat→List Nat)(i j:Nat):Prop:=lexLt (T i) (T j)=true∨(T i=T j∧i<j)
theorem GW{T:Nat→List Nat}{i j k:Nat}(h:cH T i j)(g:cH T j k):cH T i k:=by
 rcases h with h|⟨h,h'⟩<;>rcases g with g|⟨g,g'⟩
 ·exact .inl (lex_trans _ _ _ h g)
 ·exact .inl (g▸h)
 ·exact .inl (h▸g)
 ·exact .inr ⟨h.trans g,Nat.lt_trans h' g'⟩
theorem Bp{T:Nat→List Nat}{i:Nat}(h:cH T i i):False:=by
 rcases h with h|⟨_,h⟩
 ·rw[uI]at h;cases h
 ·exact Dh _ h
theorem GX{T:Nat→List Nat}{i j:Nat}(hij:j<i)(h:lexLt (T i) (T j)=false):cH T j i:=by
 cases e:lexLt (T j) (T i)with
 |true=>exact .inl e
 |false=>exact .inr ⟨Bo _ _ e h,hij⟩
theorem GY{T:Nat→List Nat}{a:List Nat}{i j:Nat}(h:lexLt a (T i)=true)(g:cH T i j):lexLt a (T j)=true:=by
 rcases g with g|⟨g,_⟩
 ·exact lex_trans _ _ _ h g
 ·exact g▸h
section
variable{M:Model}{A:aV}{E:aj→aA→Prop}{J:aA→Prop}{σ:Type}
noncomputable def fz(M:Model)(A:aV)(E:aj→aA→Prop)(J:aA→Prop){α:Type}(m:StateT σ Sem α)(Q:α→σ→Prop)(st:σ):Prop:=
 ∀s,J s→wpAny M A (m.run st) (λr s'=>J s'∧Q r.1 r.2) E s
theorem fL{α:Type}{a:α}{Q:α→σ→Prop}{st:σ}(h:Q a st):fz M A E J (pure a:StateT σ Sem α) Q st:=λs j=>by
 rw[StateT.run_pure];exact aJ ⟨j,h⟩
theorem cU{α β:Type}{m:StateT σ Sem α}{f:α→StateT σ Sem β}{Q:β→σ→Prop}{st:σ}
  (h:fz M A E J m (λa st'=>fz M A E J (f a) Q st') st):fz M A E J (m>>=f) Q st:=λs j=>by
 rw[StateT.run_bind];exact av (jY (h s j) (λr s' h'=>h'.2 s' h'.1) λaf af e=>e)
theorem uJ{α:Type}{m:StateT σ Sem α}{Q Q':α→σ→Prop}{st:σ}(h:fz M A E J m Q st)(hq:∀a st',Q a st'→Q' a st'):fz M A E J m Q' st:=λs j=>
 jY (h s j) (λr af h'=>⟨h'.1,hq _ _ h'.2⟩) λaf af e=>e
theorem uK{Q:σ→σ→Prop}{st:σ}(h:Q st st):fz M A E J (get:StateT σ Sem σ) Q st:=λs j=>by
 rw[StateT.run_get];exact aJ ⟨j,h⟩
theorem Bq{f:σ→σ}{Q:PUnit→σ→Prop}{st:σ}(h:Q ⟨⟩ (f st)):fz M A E J (modify f:StateT σ Sem PUnit) Q st:=λs j=>by
 rw[StateT.run_modify];exact aJ ⟨j,h⟩
theorem GZ{α:Type}{m:Sem α}{Q:α→σ→Prop}{st:σ}(h:∀s,J s→wpAny M A m (λa s'=>J s'∧Q a st) E s):
  fz M A E J (liftM m:StateT σ Sem α) Q st:=λs j=>by
 show wpAny M A ((StateT.lift m:StateT σ Sem α).run st) _ E s;rw[StateT.run_lift];exact av (jY (h s j) (λa s' h'=>aJ h') λaf af e=>e)
theorem Ob{β:Type}(f:Nat→β→StateT σ Sem (ForInStep β))(I:List Nat→β→σ→Prop)(Q:β→σ→Prop)
  (hstep:∀x rest b st,I (x::rest) b st→fz M A E J (f x b) (λr st'=>match r with|.done b'=>Q b' st'|.yield b'=>I rest b' st') st)
  (hend:∀b st,I [] b st→Q b st):∀(l:List Nat) (b:β) (st:σ),I l b st→fz M A E J (forIn l b f) Q st
 |[],b,st,h=>by rw[C7];exact fL (hend _ _ h)
 |x::rest,b,st,h=>by
  rw[C5];refine cU (uJ (hstep x rest b st h) λr st' h'=>?_);cases r with
  |done b'=>exact fL h'
  |yield b'=>exact Ob f I Q hstep hend rest b' st' h'
theorem uL{β:Type}{a b:Nat}{f:Nat→β→StateT σ Sem (ForInStep β)}(I:Nat→β→σ→Prop){Q:β→σ→Prop}
  (hstep:∀i c st,a≤i→i<b→I i c st→fz M A E J (f i c) (λr st'=>match r with|.done c'=>Q c' st'|.yield c'=>I (i+1) c' st') st)
  (hend:∀c st,I (max a b) c st→Q c st) {c:β} {st:σ} (h:I a c st):fz M A E J (forIn [a:b] c f) Q st:=by
 rw[Std.Legacy.Range.forIn_eq_forIn_range'];show fz M A E J (forIn (yR a ([a:b]:Std.Legacy.Range).size 1) c f) Q st;rw[(by simp[Std.Legacy.Range.size]:([a:b]:Std.Legacy.Range).size=b-a)]
 refine Ob f (λl c st=>∃i,a≤i∧i≤max a b∧l=yR i (max a b-i) 1∧I i c st) Q ?_ ?_ _ c st ⟨a,bk _,by exact Vn,by congr 1;exact TY,h⟩
 ·rintro x rest c st ⟨i,hai,hib,hl,hI⟩
  have hlt:i<max a b:=by
   rcases mH i (max a b)with h'|h'
   ·exact h'
   ·rw[show max a b-i=0 by exact WQ h']at hl;trivial
  obtain⟨n,hn⟩:∃n,max a b-i=n+1:=⟨max a b-i-1,by exact Je hlt⟩
  rw[hn,C1]at hl;obtain⟨rfl,rfl⟩:=List.cons.inj hl;refine uJ (hstep x c st hai (Xw hai hn) hI) λr st' h'=>?_;cases r with
  |done c'=>exact h'
  |yield c'=>exact⟨x+1,by exact yx hai,by exact Xx hn,by congr 1;exact Xy hn,h'⟩
 ·rintro c st ⟨i,hai,hib,hl,hI⟩
  have:i=max a b:=by
   rcases mH i (max a b)with h'|h'
   ·obtain⟨n,hn⟩:∃n,max a b-i=n+1:=⟨max a b-i-1,by exact Je h'⟩
    rw[hn,C1]at hl;trivial
   ·exact WO hib h'
  subst this;exact hend _ _ hI
theorem Br{st:fE}{i j:Nat}{Q:Unit→fE→Prop}(h:Q () (setArr st (j4 (aZ st) i j ((j-i)/2)))):
  fz M A E J (reverseSlice' i j) Q st:=by
 rw[reverseSlice'_eq];exact Bq h
end
noncomputable def ix(xs:Array jB)(i:Nat):Nat:=match xs[i]? with
 |some p=>(numOf p.2).toNat
 |none=>0
theorem xM{xs ys:Array jB}{i j:Nat}(h:xs[i]?=ys[j]?):ix xs i=ix ys j:=by delta ix;rw[h]
theorem aeL{xs:Array jB}{src d:Nat}(hs:src<xs.size)(hd:d≤src)(k:Nat):
  ix (bubble xs src d) k=if k=src-d then ix xs src else if src-d<k∧k≤src then ix xs (k-1)else ix xs k:=by
 have e:=getElem?_bubble hs d hd k;by_cases h1:k=src-d
 ·rw[if_pos h1]at e⊢;exact xM e
 ·rw[if_neg h1]at e⊢;by_cases h2:src-d<k∧k≤src
  ·rw[if_pos h2]at e⊢;exact xM e
  ·rw[if_neg h2]at e⊢;exact xM e
theorem mh{xs:Array jB}{i j:Nat}(hj:j≤xs.size)(k:Nat):
  ix (j4 xs i j ((j-i)/2)) k=if i≤k∧k<j then ix xs (i+j-1-k)else ix xs k:=by
 have e:=getElem?_mirror_all (i:=i) hj k;by_cases h1:i≤k∧k<j
 ·rw[if_pos h1]at e⊢;exact xM e
 ·rw[if_neg h1]at e⊢;exact xM e
structure cS(N:Nat)(e:Nat→jB)(m:Nat)(st:fE):Prop where
 base:SBase ((dm N).map e).toArray st
 fresh:∀k,m≤k→k<N→ix (aZ st) k=k
 old:∀k,k<m→ix (aZ st) k<m
section
variable{M:Model}{A:aV}{E:aj→aA→Prop}{J:aA→Prop}{N:Nat}{e:Nat→jB}{T:Nat→List Nat}
theorem cS.size{m:Nat}{st:fE}(h:cS N e m st):(aZ st).size=N:=by
 rw[h.base.size];simp
theorem cS.at{m:Nat}{st:fE}(h:cS N e m st)(he:∀n,n<N→numOf (e n).2=(n:Int)){i:Nat}(hi:i<N):(aZ st)[i]?=some (e (ix (aZ st) i))∧ix (aZ st) i<N:=by
 have hi':i<(aZ st).size:=by rw[h.size];exact hi
 refine aS (aN.mp (by simpa using((JU.mp h.base.perm).mem_iff.mp (by simp)):(aZ st)[i]∈(dm N).map e)) λn hn e1=>?_
 have hn:=vt.mp hn;have e2:(aZ st)[i]?=some (aZ st)[i]:=getElem?_pos _ i hi';have e3:ix (aZ st) i=n:=by
  delta ix;rw[e2,←e1];show(numOf (e n).2).toNat=n;rw[he n hn];exact oh n
 rw[e3,e2,←e1];exact⟨rfl,hn⟩
theorem cS.up{m:Nat}{st:fE}(h:cS N e m st){k:Nat}(hk:m≤k):k≤N→cS N e k st:=λhN=>
 ⟨h.base,λi h1 h2=>h.fresh i (bh hk h1) h2,λi h1=>by
  rcases mH i m with h2|h2
  ·exact rZ (h.old i h2) hk
  ·rw[h.fresh i h2 (rZ h1 hN)];exact h1⟩
theorem cS.xN{m:Nat}{st:fE}(h:cS N e m st){i j:Nat}(hj:j≤m)(hm:m≤N):cS N e m (setArr st (j4 (aZ st) i j ((j-i)/2))):=by
 have hs:j≤(aZ st).size:=by rw[h.size];exact E5 hj hm
 refine⟨h.base.setArr (mirror_perm _ _ _ _),λk h1 h2=>?_,λk h1=>?_⟩
 ·show ix (j4 _ _ _ _) k=k;rw[mh hs,if_neg (Xr hj h1)];exact h.fresh k h1 h2
 ·show ix (j4 _ _ _ _) k<m;rw[mh hs];split<;>exact h.old _ (by(first|exact Xv hj ‹_›|assumption))
structure Told(M:Model)(A:aV)(E:aj→aA→Prop)(J:aA→Prop)(N:Nat)(e:Nat→jB)(T:Nat→List Nat):Prop where
 num:∀n,n<N→numOf (e n).2=(n:Int)
 lt:∀i j,i<N→j<N→i≠j→∀(s:aA) (E':aj→aA→Prop),J s→wpAny M A (oneLt' true (e i).1 (e j).1) (λb s'=>b=lexLt (T i) (T j)∧J s') E' s
theorem xO{m:Nat}{st:fE}{i j:Nat}{Q:Option Bool→fE→Prop}(hT:Told M A E J N e T)(h:cS N e m st)(hi:i<N)(hj:j<N)(hne:ix (aZ st) i≠ix (aZ st) j)
  (hQ:Q (some (lexLt (T (ix (aZ st) i)) (T (ix (aZ st) j)))) st):fz M A E J (ltAt' i j) Q st:=by
 refine dY (h.at hT.num hi) λe1 l1=>?_;refine dY (h.at hT.num hj) λe2 l2=>?_;rw[ltAt'_eq];refine cU (uK ?_);show fz _ _ _ _ (do let x←elem' (aZ st) i;let y←elem' (aZ st) j;lt' x y) Q st
 rw[elem'_eq,elem'_eq,e1,e2];refine cU (fL (cU (fL ?_)));rw[lt'_eq];refine cU (uK ?_);rw[h.base.kind,keyLt'_oneType];refine cU (GZ λs j=>wpAny_attempt (jY (hT.lt _ _ l1 l2 hne s _ j) (λb s' hb=>⟨hb.2,?_⟩) λaf af e=>e));rw[hb.1];exact fL hQ
noncomputable def iB(T:Nat→List Nat)(xs:Array jB)(k:Nat):Prop:=∀i j,i<j→j<k→cH T (ix xs i) (ix xs j)
noncomputable def nL(T:Nat→List Nat)(xs:Array jB)(k:Nat):Prop:=∀i j,i<j→j<k→cH T (ix xs j) (ix xs i)
theorem iB.step{xs:Array jB}{x:Nat}(h:iB T xs x)(g:x=0∨cH T (ix xs (x-1)) (ix xs x)):iB T xs (x+1):=λi j hij hj=>by
 rcases mH j x with h1|h1
 ·exact h i j hij h1
 ·have hj:j=x:=by exact Uc hj h1
  subst hj;have g:=g.resolve_left (IZ hij);by_cases hi:i=j-1
  ·subst hi;exact g
  ·exact GW (h i (j-1) (Cq hij hi) (Cp hij)) g
theorem Oc{st:fE}{a:Nat}{Q:AscSt→fE→Prop}(hT:Told M A E J N e T)(ha:1≤a)(han:a≤N)(hB:cS N e a st)(hs:iB T (aZ st) a)
  (h:∀n,a≤n→n≤N→cS N e n st→iB T (aZ st) n→(n=N∨lexLt (T n) (T (ix (aZ st) (n-1)))=true)→Q (none,n) st):fz M A E J (ascLoop a N) Q st:=by
 delta ascLoop;refine uL (I:=λx c st'=>st'=st∧c=(none,x)∧cS N e x st∧iB T (aZ st) x) ?step ?fin ⟨rfl,rfl,hB,hs⟩;case fin=>
  rintro c st' ⟨rfl,rfl,cj,hs'⟩
  rw[show max a N=N by exact E9 han]at hs' cj⊢
  exact h N han (bk _) cj hs' (.inl rfl)
 case step=>
  rintro x c st' hax hxn ⟨rfl,rfl,cj,hs'⟩
  dsimp only;have f1:=cj.fresh x (bk _) hxn;have f2:=cj.old (x-1) (S6 ha hax);refine cU (xO hT cj (by assumption) (yw hxn) (Cy f2 f1) ?_)
  rw[f1];cases hl:lexLt (T x) (T (ix (aZ st') (x-1)))with
  |true=>exact fL (h x hax (rN hxn) cj hs' (.inr hl))
  |false=>exact fL ⟨rfl,rfl,cj.up E2 (yv hxn),hs'.step (.inr (by rw[f1];exact GX f2 hl))⟩
theorem Od{st:fE}{n:Nat}{Q:Option Nat→fE→Prop}(hT:Told M A E J N e T)(h1:1≤n)(hnn:n≤N)(hB:cS N e n st)
  (hs:nL T (aZ st) n) (h:∀m st',cS N e m st'→1≤m→m≤N→iB T (aZ st') m→Q (some m) st'):fz M A E J (tail3 n N) Q st:=by
 delta tail3;have hsz:n≤(aZ st).size:=by rw[hB.size];assumption
 refine cU (Br ?_);refine cU (Oc hT h1 hnn (hB.xN (bk _) hnn) (λi j hij hj=>?_) λm hm1 hm2 hB2 hsm af=>fL (h m _ hB2 (S4 h1 hm1) hm2 hsm));show cH T (ix (j4 (aZ st) 0 n ((n-0)/2)) i) (ix (j4 (aZ st) 0 n ((n-0)/2)) j);rw[mh hsz,mh hsz,if_pos (Ja hij hj),if_pos (IQ hj)];exact hs _ _ (Cw hij hj) (Cu hj)
structure mj(T:Nat→List Nat)(xs:Array jB)(x q:Nat):Prop where
 hd:nL T xs q
 xP:∀i,q≤i→i<x→T (ix xs i)=T (ix xs (x-1))
 up:∀i j,q≤i→i<j→j<x→ix xs i<ix xs j
 lo:∀i,i<q→lexLt (T (ix xs (x-1))) (T (ix xs i))=true
theorem mj.turn{m:Nat}{st:fE}{x q:Nat}(h:mj T (aZ st) x q)(hq:q≤x)(hx:x≤(aZ st).size):nL T (j4 (aZ st) q x ((x-q)/2)) x:=λi j hij hj=>by
 rw[mh hx j,mh hx i];by_cases h1:i<q
 ·rw[if_neg (show ¬(q≤i∧i<x) by exact Jd h1)]
  by_cases h2:j<q
  ·rw[if_neg (Jd h2)];exact h.hd i j hij h2
  ·rw[if_pos (Wr hj h2)];exact .inl ((h.xP (q+x-1-j) (Cz hj) (Wq hj h2))▸h.lo i h1)
 ·rw[if_pos (Xg hij hj h1),if_pos (Xf hij hj h1)];exact .inr ⟨(h.xP _ (Cz hj) (Xe hij hj h1)).trans (h.xP _ (Xd hij hj) (Jo hj h1)).symm,h.up _ _ (Cz hj) (Xc hij hj) (Jo hj h1)⟩
theorem mj.one{xs:Array jB}{x q:Nat}(h:mj T xs x q)(hq:x≤q+1):nL T xs x:=λi j hij hj=>by
 by_cases h2:j<q
 ·exact h.hd i j hij h2
 ·have hj:j=x-1:=by exact Wl hj hq h2
  subst hj;exact .inl (h.lo i (Wc hij hq))
theorem nL.fall{xs:Array jB}{x:Nat}(h:nL T xs x)(g:x=0∨lexLt (T (ix xs x)) (T (ix xs (x-1)))=true):mj T xs (x+1) x:=by
 refine⟨h,λi h1 h2=>?_,λi j h1 h2 h3=>by exact XE h3 h1 h2,λi hi=>?_⟩
 ·rw[show i=x+1-1 by exact Ud h2 h1]
 ·rw[show x+1-1=x by exact yq]
  have g:=g.resolve_left (IZ hi);by_cases e:i=x-1
  ·rw[e];exact g
  ·exact GY g (h i (x-1) (Cq hi e) (Cp hi))
theorem aeM{st:fE}{n:Nat}{Q:DescSt→fE→Prop}(hT:Told M A E J N e T)(h1:1≤n)(hnn:n≤N)(hB:cS N e n st)(hs:mj T (aZ st) n (n-1))
  (h:∀m neq st',cS N e m st'→n≤m→m≤N→neq+1≤m→mj T (aZ st') m (m-(neq+1))→Q (none,m,neq) st'):fz M A E J (descLoop n N) Q st:=by
 delta descLoop;refine uL (I:=λx c st'=>∃neq,c=(none,x,neq)∧cS N e x st'∧neq+1≤x∧mj T (aZ st') x (x-(neq+1))) ?step ?fin ⟨0,rfl,hB,by assumption,hs⟩
 case fin=>
  rintro c st' ⟨neq,rfl,cj,hq,hs'⟩
  rw[show max n N=N by exact E9 hnn]at hs' hq cj⊢
  exact h N neq st' cj hnn (bk _) hq hs'
 case step=>
  rintro x c st' hax hxn ⟨neq,rfl,cj,hq,hs'⟩
  dsimp only;have hsz:x≤(aZ st').size:=by rw[cj.size];exact rN hxn
  have f1:=cj.fresh x (bk _) hxn;have f2:=cj.old (x-1) (TF hq);refine cU (xO hT cj (by assumption) (yw hxn) (Cy f2 f1) ?_)
  rw[f1];cases hl:lexLt (T x) (T (ix (aZ st') (x-1)))with
  |true=>
   dsimp only;rw[if_pos rfl];have Oe:∀st2,cS N e x st2→nL T (aZ st2) x→T (ix (aZ st2) (x-1))=T (ix (aZ st') (x-1))→mj T (aZ st2) (x+1) (x+1-(0+1)):=λst2 b2 d2 e2=>by
    rw[show x+1-(0+1)=x by exact Rw]
    refine d2.fall (.inr ?_);rw[b2.fresh x (bk _) hxn,e2];exact hl
   by_cases hneq:neq>0
   ·rw[if_pos hneq];refine cU (Br (fL ⟨0,rfl,(cj.xN (bk _) (rN hxn)).up E2 (yv hxn),by exact HV,Oe _ (cj.xN (bk _) (rN hxn)) (hs'.turn (m:=0) IL hsz) ?_⟩))
    show T (ix (j4 _ _ _ _) (x-1))=_;rw[mh hsz,if_pos (Wg f2)];exact hs'.xP _ TV (Wf f2)
   ·rw[if_neg hneq];exact fL ⟨0,rfl,cj.up E2 (yv hxn),by exact HV,Oe _ cj (hs'.one (I5 hneq)) rfl⟩
  |false=>
   dsimp only;rw[if_neg (by decide)]
   refine cU (xO hT cj (yw hxn) (by assumption) (Wo f2 f1) ?_)
   rw[f1];cases hg:lexLt (T (ix (aZ st') (x-1))) (T x)with
   |true=>exact fL (h x neq st' cj hax (rN hxn) hq hs')
   |false=>
    dsimp only;rw[if_neg (by decide)]
    have he:=Bo _ _ hl hg;refine fL ⟨neq+1,rfl,cj.up E2 (yv hxn),by exact TA hq,?_⟩
    rw[show x+1-(neq+1+1)=x-(neq+1) by exact Tn]
    refine⟨hs'.hd,λi a b=>?_,λi j a b c=>?_,λi a=>?_⟩
    ·rw[show x+1-1=x by exact yq,f1]
     by_cases hi:i=x
     ·rw[hi,f1]
     ·rw[hs'.xP i a (IP b hi),he]
    ·by_cases hj:j=x
     ·rw[hj,f1];exact cj.old i (Jc b hj)
     ·exact hs'.up i j a b (IP c hj)
    ·rw[show x+1-1=x by exact yq,f1,he]
     exact hs'.lo i a
theorem Og{st:fE}{n:Nat}{Q:Option Nat→fE→Prop}(hT:Told M A E J N e T)(hnn:n+1≤N)(hB:cS N e n st)
  (hs:mj T (aZ st) (n+1) n) (h:∀m st',cS N e m st'→1≤m→m≤N→iB T (aZ st') m→Q (some m) st'):fz M A E J (descPart n N) Q st:=by
 delta descPart;refine cU (GZ λs j=>lA ⟨j,?_⟩);refine cU (aeM hT QV hnn (hB.up E2 hnn) hs λm neq st' cj hm1 hm2 hq hs'=>?_);dsimp only;have hsz:m≤(aZ st').size:=by rw[cj.size];assumption
 by_cases hneq:neq>0
 ·rw[if_pos hneq];exact cU (Br (Od hT (IG hq) hm2 (cj.xN (bk _) hm2) (hs'.turn (m:=0) IL hsz) h))
 ·rw[if_neg hneq];exact Od hT (IG hq) hm2 cj (hs'.one (I5 hneq)) h
theorem aeN{st:fE}{Q:Option Nat→fE→Prop}(hT:Told M A E J N e T)(h1:1≤N)(hB:cS N e 0 st)
  (h:∀m st',cS N e m st'→1≤m→m≤N→iB T (aZ st') m→Q (some m) st'):fz M A E J (countRun' 0 N) Q st:=by
 rw[countRun0_eq];refine cU (Oc hT (bk 1) h1 (hB.up (by decide) h1) (λi j hij hj=>by omega) λn hn1 hn2 rj rm hor=>?_)
 dsimp only;by_cases hnn:n=N
 ·rw[if_pos (by simpa using hnn)]
  exact fL (h n st rj hn1 hn2 rm)
 ·rw[if_neg (by simpa using hnn)]
  have hlt:=hor.resolve_left hnn;have fn:=rj.fresh n (bk _) (I3 hn2 hnn);by_cases hgt:n>1
  ·rw[if_pos hgt];have hb0:=rm 0 (n-1) (QT hgt) (HY hgt);refine cU (xO hT rj (S0 hgt hn2) (S3 hgt hn2) (λq=>?_) ?_)
   ·rw[q]at hb0;exact Bp hb0
   ·cases hr:lexLt (T (ix (aZ st) 0)) (T (ix (aZ st) (n-1)))with
    |true=>exact fL (h n st rj hn1 hn2 rm)
    |false=>
     dsimp only;rw[if_neg (by decide)]
     have hsz:n≤(aZ st).size:=by rw[rj.size];assumption
     have hall:∀i j,i<j→j<n→T (ix (aZ st) i)=T (ix (aZ st) j):=λi j hij hj=>by
      rcases rm i j hij hj with g|g
      ·exfalso
       have:lexLt (T (ix (aZ st) 0)) (T (ix (aZ st) j))=true:=by
        by_cases hi:i=0
        ·rw[←hi];exact g
        ·rcases rm 0 i (SH hi) (Jb hij hj)with a|a
         ·exact lex_trans _ _ _ a g
         ·rw[a.1];exact g
       have:lexLt (T (ix (aZ st) 0)) (T (ix (aZ st) (n-1)))=true:=by
        by_cases hi:j=n-1
        ·rw[←hi];exact this
        ·exact GY this (rm j (n-1) (Cq hj hi) (Cp hj))
       rw[hr]at this;cases this
      ·exact g.1
     have hup:∀i j,i<j→j<n→ix (aZ st) i<ix (aZ st) j:=λi j hij hj=>by
      rcases rm i j hij hj with g|g
      ·rw[hall i j hij hj,uI]at g;cases g
      ·exact g.2
     have hB2:=rj.xN (i:=0) (bk _) hn2;refine cU (Br (Og hT (Vk hn2 hnn) hB2 (nL.fall (λi j hij hj=>?_) (.inr ?_)) h))
     ·show cH T (ix (j4 _ _ _ _) j) (ix (j4 _ _ _ _) i);rw[mh hsz,mh hsz,if_pos (IQ hj),if_pos (Ja hij hj)];exact .inr ⟨hall _ _ (Cw hij hj) (Cu hj),hup _ _ (Cw hij hj) (Cu hj)⟩
     ·rw[hB2.fresh n (bk _) (I3 hn2 hnn)];show lexLt (T n) (T (ix (j4 _ _ _ _) (n-1)))=true;rw[mh hsz,if_pos (QU hgt),hall _ (n-1) (QS hgt) (HY hgt)];exact hlt
  ·rw[if_neg hgt];have aeO:n=1:=by exact QZ hn1 hgt
   subst aeO;refine Og hT (QY hn2 hnn) rj (nL.fall (λi j hij hj=>by omega) (.inr ?_)) h
   rw[fn];exact hlt
theorem aeP{st:fE}{ok:Nat}{Q:Bool→fE→Prop}(hT:Told M A E J N e T)(h1:1≤ok)(hok:ok≤N)(hB:cS N e ok st)(hs:iB T (aZ st) ok)
  (h:∀st',cS N e N st'→iB T (aZ st') N→Q true st'):fz M A E J (binarySort' 0 N ok) Q st:=by
 rw[binarySort'_eq];simp only[iF];rw[show max ok 1=ok by exact QX h1]
 refine cU (uJ (uL (I:=λk c st'=>c=(none,())∧cS N e k st'∧iB T (aZ st') k)
  (Q:=λc st'=>c=(none,())∧cS N e N st'∧iB T (aZ st') N) ?step ?fin ⟨rfl,hB,hs⟩) ?post)
 case post=>
  rintro c st' ⟨rfl,cj,hs'⟩
  exact fL (h st' cj hs')
 case fin=>
  rintro c st' ⟨hc,cj,hs'⟩
  rw[show max ok N=N by exact E9 hok]at cj hs'
  exact⟨hc,cj,hs'⟩
 case step=>
  rintro k c st' hak hkn ⟨rfl,cj,hs'⟩
  have fk:=cj.fresh k (bk _) hkn;refine cU (uJ (uL (I:=λx c st''=>st''=st'∧∃l r,c=(none,l,r)∧l≤r∧r≤k∧r-l≤k-x∧
    (∀i,i<l→cH T (ix (aZ st') i) k)∧(∀i,r≤i→i<k→cH T k (ix (aZ st') i)))
   (Q:=λc st''=>st''=st'∧∃l r,c=(none,l,r)∧l≤k∧
    (∀i,i<l→cH T (ix (aZ st') i) k)∧(∀i,l≤i→i<k→cH T k (ix (aZ st') i))) ?aeQ ?aeR ?aeS) ?aeT)
  case aeS=>exact⟨rfl,0,k,rfl,by exact HX,by exact Ci,by exact RC,λi hi=>by omega,λi h1 h2=>by omega⟩
  case aeR=>
   rintro c st'' ⟨rfl,l,r,rfl,hlr,hrk,hm,hlo,hhi⟩
   have:l=r:=by exact V7 hm hlr
   subst this;exact⟨rfl,l,l,rfl,hrk,hlo,hhi⟩
  case aeQ=>
   rintro x c st'' _ hxk ⟨rfl,l,r,rfl,hlr,hrk,hm,hlo,hhi⟩
   dsimp only;by_cases hge:l≥r
   ·rw[if_pos hge];have:l=r:=by exact Vh hlr hge
    subst this;exact fL ⟨rfl,l,l,rfl,hrk,hlo,hhi⟩
   ·rw[if_neg hge];have fo:=cj.old ((l+r)/2) (Jj hrk hge);refine cU (xO hT cj hkn (Xo hkn hrk hge) (Cy fo fk) ?_);rw[fk];cases hl:lexLt (T k) (T (ix (aZ st'') ((l+r)/2)))with
    |true=>
     refine fL ⟨rfl,l,(l+r)/2,rfl,by exact Vr hge,by exact WN hrk hge,by exact W6 hm,hlo,λi h1 h2=>?_⟩
     by_cases e:i=(l+r)/2
     ·exact .inl (e▸hl)
     ·exact .inl (GY hl (hs' _ i (Vs h1 e) h2))
    |false=>
     refine fL ⟨rfl,(l+r)/2+1,r,rfl,by exact Vq hge,by assumption,by exact W7 hm,λi h1=>?_,hhi⟩
     by_cases e:i=(l+r)/2
     ·exact e▸GX fo hl
     ·exact GW (hs' i ((l+r)/2) (V8 h1 e) (Jj hrk hge)) (GX fo hl)
  case aeT=>
   rintro c st'' ⟨rfl,l,r,rfl,hlk,hlo,hhi⟩
   show fz _ _ _ _ (do moveDown' k l;pure (ForInStep.yield (none,()))) _ _
   rw[moveDown'_eq];have hks:k<(aZ st'').size:=by rw[cj.size];exact hkn
   have ib:=λi=>aeL hks (d:=k-l) TZ i;refine cU (Bq (fL ⟨rfl,⟨cj.base.setArr (bubble_perm _ _ _),λi a b=>?_,λi a=>?_⟩,λi j hij hj=>?_⟩))
   ·show ix (bubble _ _ _) i=i;rw[ib,if_neg (VX a),if_neg (VW a)];exact cj.fresh i (II a) b
   ·show ix (bubble _ _ _) i<k+1;rw[ib];split
    ·exact UH fk
    ·split
     ·exact Nat.lt_succ_of_lt (cj.old _ (V6 ‹_›))
     ·exact Nat.lt_succ_of_lt (cj.old _ (Wb a ‹_› ‹_›))
   ·show cH T (ix (bubble (aZ st'') k (k-l)) i) (ix (bubble (aZ st'') k (k-l)) j);rw[ib,ib,show k-(k-l)=l by exact Vf hlk,fk]
    repeat' split
    all_goals first
     |(exfalso;(first|exact We hij ‹_› ‹_›|exact W9 hj hij ‹_› ‹_›|exact Xh hij ‹_› ‹_›|exact Xa hj hij ‹_› ‹_›))
     |exact hlo _ (Jc hij ‹_›)
     |exact hhi _ (by(first|exact Ws ‹_›|assumption)) (HU ‹_›)
     |exact hs' _ _ (by(first|exact Xk hij ‹_›|exact Xn hij ‹_› ‹_› ‹_›|assumption)) (by(first|exact HU ‹_›|exact Wa hj hlk ‹_› ‹_›))
theorem aeU{st:fE}{Q:Unit→fE→Prop}(hT:Told M A E J N e T)(hB:cS N e 0 st)(h2:2≤N)(h64:N<64)
  (h:∀st',(aZ st').Perm ((dm N).map e).toArray→failedOf st'=none→(∀i,i<N→(aZ st')[i]?=some (e (ix (aZ st') i)))→iB T (aZ st') N→Q () st'):fz M A E J sortRuns' Q st:=by
 rw[sortRuns'_eq];refine cU (uK ?_);dsimp only;have hmr:minRun' N N 0=N:=by
  obtain⟨f,hf⟩:∃f,N=f+1:=⟨N-1,by exact Q7 h2⟩
  have:minRun' (f+1) N 0=N:=by rw[minRun'_succ,if_pos h64];rfl
  rwa [←hf]at this
 rw[hB.size,hmr];refine cU (uJ (uL
  (I:=λx c st'=>(x=0∧c=(none,0)∧cS N e 0 st')∨(1≤x∧c=(none,N)∧∃st2,cS N e N st2∧iB T (aZ st2) N∧st'=sX st2 #[(0,N,0)]))
  (Q:=λc st'=>c=(none,N)∧∃st2,cS N e N st2∧iB T (aZ st2) N∧st'=sX st2 #[(0,N,0)]) ?step ?fin (.inl ⟨rfl,rfl,hB⟩)) ?post)
 case fin=>
  rintro c st' (⟨hx,_,_⟩|⟨_,hc,hD⟩)
  ·omega
  ·exact⟨hc,hD⟩
 case step=>
  rintro x c st' _ hx (⟨rfl,rfl,cj⟩|⟨Gg,rfl,hD⟩)
  ·dsimp only;rw[if_neg (QO hx)];simp only[Nat.sub_zero,Nat.min_self,iF];refine cU (aeN hT (QK hx) cj λm st2 hB2 hm1 hm2 hs2=>?_);dsimp only;have fin:∀st3,cS N e N st3→iB T (aZ st3) N→sX st3 ((pendingOf st3).push (0,N,0))=sX st3 #[(0,N,0)]:=λst3 xQ af=>by
    rw[xQ.base.pend];rfl
   by_cases hlt:m<N
   ·rw[if_pos hlt];refine cU (GZ λs j=>lA ⟨j,?_⟩);refine cU (aeP hT hm1 hm2 hB2 hs2 λst3 xQ g7=>?_);simp only[Bool.not_true,mK,if_false];refine cU (uK ?_);have hb:(pendingOf st3).back?=none:=by rw[xQ.base.pend];rfl
    rw[hb];dsimp only;exact cU (Bq (fL (.inr ⟨by decide,rfl,st3,xQ,g7,fin st3 xQ g7⟩)))
   ·rw[if_neg hlt];have hm:m=N:=by exact Vj hm2 hlt
    subst hm;refine cU (uK ?_);have hb:(pendingOf st2).back?=none:=by rw[hB2.base.pend];rfl
    rw[hb];dsimp only;exact cU (Bq (fL (.inr ⟨by decide,rfl,st2,hB2,hs2,fin st2 hB2 hs2⟩)))
  ·dsimp only;rw[if_pos (bk _)];exact fL ⟨rfl,hD⟩
 case post=>
  rintro c st' ⟨rfl,st2,hB2,hs2,rfl⟩
  dsimp only;refine cU (uJ (uL (I:=λaf c st''=>st''=sX st2 #[(0,N,0)]∧c=(none,())) (Q:=λc st''=>st''=sX st2 #[(0,N,0)]∧c=(none,())) ?_ (λaf af hh=>hh) ⟨rfl,rfl⟩) ?_)
  ·rintro x c st'' _ _ ⟨rfl,rfl⟩
   refine cU (uK ?_);rw[if_pos (show((#[(0,N,0)]:Array (Nat×Nat×Nat)).size)≤1 from bk 1)];exact fL ⟨rfl,rfl⟩
  ·rintro c st'' ⟨rfl,rfl⟩
   exact fL (h _ hB2.base.perm hB2.base.failed (λi hi=>(hB2.at hT.num hi).1) hs2)
end
structure xR(w:ao)(b:Nat)(q N:Nat)(v:Nat→aj)(T:Nat→List Nat)(SP:List Nat)(P:az→Prop)(K:Nat→Nat→az→Prop)(ty:aj):Prop where
 num:∀n,n<N→numOf (v n)=(n:Int)
 pk:∀U h h',aR (kt w.params) h'→(∀u∈U,u∉SP)→Keeps U h h'→P h→P h'
 kk:∀U i k h h',aR (kt w.params) h'→(∀u∈U,u∉SP∧u≠k)→Keeps U h h'→P h→K i k h→K i k h'
 lo:∀h,P h→∀u∈SP,u<h.objs.size
 key:∀i,i<N→Wide w b (.call (.ref q) ⟨[v i],[]⟩) P Nat (λk=>.ok (.ret (.ref k))) (λk h h'=>Keeps [] h h'∧K i k h'∧(k∈SP∨h.objs.size≤k))
 typ:∀i k h,K i k h→∃o,h.get? k=some o∧o.cls=ty
 tyk:(ty !=Value.type "tuple")=true
 lt:∀i j k l,i<N→j<N→i≠j→∀(A:aV) (s:aA) (E:aj→aA→Prop) (Q:Bool→aA→Prop),bK b A→aR (kt w.params) s.heap→P s.heap→K i k s.heap→K j l s.heap→
  (∀h' t',aR (kt w.params) h'→Keeps [] s.heap h'→Q (lexLt (T i) (T j)) ⟨h',s.gens,s.drawn,t',s.os⟩)→wpAny (model pw w) A (oneLt' true (.ref k) (.ref l)) Q E s
section
variable{w:ao}{b q N:Nat}{v:Nat→aj}{T:Nat→List Nat}{SP:List Nat}{P:az→Prop}{K:Nat→Nat→az→Prop}{ty:aj}
structure nM(w:ao)(N:Nat)(SP:List Nat)(P:az→Prop)(K:Nat→Nat→az→Prop)(a S e1:Nat)(s₀ s:aA)(ks:List Nat)(e:Nat):Prop where
 top:aR (kt w.params) s.heap
 p:P s.heap
 hk:∀(i:Nat) k,ks[i]?=some k→K i k s.heap∧k≠S
 ls:s.heap.get? S=some (ai (ks.map bg) e)
 la:s.heap.get? a=some (ai [] e1)
 keeps:Keeps [a] s₀.heap s.heap
 fr:s₀.heap.objs.size≤S
 gens:s.gens=s₀.gens
 drawn:s.drawn=s₀.drawn
 os:s.os=s₀.os
theorem nM.turn{a S e1:Nat}{s₀ s:aA}{ks:List Nat}{e:Nat}(H:xR w b q N v T SP P K ty)(D:nM w N SP P K a S e1 s₀ s ks e){h':az}{t':Nat}(T':aR (kt w.params) h')(k:Keeps [] s.heap h'):
  nM w N SP P K a S e1 s₀ ⟨h',s.gens,s.drawn,t',s.os⟩ ks e:=
 ⟨T',H.pk [] _ _ T' (λaf h=>nomatch h) k D.p,λi x hx=>⟨H.kk [] _ _ _ _ T' (λaf h=>nomatch h) k D.p (D.hk i x hx).1,(D.hk i x hx).2⟩,k.2 _ _ (λh=>nomatch h) D.ls,k.2 _ _ (λh=>nomatch h) D.la,D.keeps.trans k.ext,D.fr,D.gens,D.drawn,D.os⟩
theorem Bs{h:az}{a:Nat}{vs:List aj}{e:Nat}(ho:h.get? a=some (ai vs e))(g:Array aj→Array aj):∃e',(h.update a (cz g)).get? a=some (ai (g ⟨vs⟩).toList e'):=
 ⟨_,get?_update_seq (c:="list") ho g⟩
theorem nM.push{a S e1:Nat}{s₀ s:aA}{ks:List Nat}{e:Nat}(H:xR w b q N v T SP P K ty)(hlo:∀u∈SP,u<s₀.heap.objs.size)(ha:a<s₀.heap.objs.size)(D:nM w N SP P K a S e1 s₀ s ks e)(hS:(kt w.params).get S=none){k:Nat}(hk:K ks.length k s.heap)(G1:k≠S):
  ∃e',nM w N SP P K a S e1 s₀ {s with heap:=s.heap.update S (cz (·.push (.ref k)))} (ks++[k]) e':=by
 refine fC (Bs D.ls (·.push (.ref k))) λe' he=>?_;have kp:Keeps [S] s.heap (s.heap.update S (cz (·.push (.ref k)))):=Keeps.upd _ (.head _);have T':aR (kt w.params) (s.heap.update S (cz (·.push (.ref k)))):=λx o q=>kp.2 x o (λm=>by rw[sA m,hS]at q;cases q) (D.top x o q)
 have Oh:∀u∈[S],u∉SP:=λu hu m=>by
  rw[sA hu]at m;exact Dh _ (rZ (hlo _ m) D.fr)
 refine⟨e',T',H.pk _ _ _ T' Oh kp D.p,λi x hx=>?_,?_,?_,⟨bh D.keeps.1 kp.1,λx o hx q=>?_⟩,D.fr,D.gens,D.drawn,D.os⟩
 ·have hx':K i x s.heap∧x≠S:=by
   rcases mH i ks.length with l|l
   ·rw[CN l]at hx;exact D.hk i x hx
   ·rw[CK l]at hx;cases e:i-ks.length with
    |zero=>
     rw[e]at hx;obtain rfl:k=x:=vE hx;obtain rfl:i=ks.length:=Nat.le_antisymm (Nat.sub_eq_zero_iff_le.mp e) l;exact⟨hk,G1⟩
    |succ n=>rw[e]at hx;cases hx
  exact⟨H.kk _ _ _ _ _ T' (λu hu=>⟨Oh u hu,λq=>hx'.2 (by rw[←q,sA hu])⟩) kp D.p hx'.1,hx'.2⟩
 ·rw[aL];show(s.heap.update S _).get? S=some (ai (ks.map bg++[bg k]) e');have e2:((⟨ks.map bg⟩:Array aj).push (.ref k)).toList=ks.map bg++[bg k]:=by simp
  rw[←e2];exact he
 ·exact kp.2 _ _ (λm=>by
   have:=sA m;exact E1 ha ‹_› D.fr) D.la
 ·exact kp.2 _ _ (λm=>by
   have:=sA m;have:=D.fr;have:=cK q;exact E1 this ‹_› ‹_›) (D.keeps.2 x o hx q)
theorem uM(xs:List aj)(h:xs.length<64):(⟨xs⟩:Array aj).size≤sizeLine:=by
 show xs.length≤_;rw[fQ];exact RJ h
theorem aeW{α:Type}(f:Nat→α){j:Nat}{x:α}(h:((dm N).map f)[j]?=some x):j<N∧x=f j:=by
 have hj:j<N:=by
  have:=(kD.mp h).1;simpa using this
 refine⟨hj,?_⟩;rw[dK,CX hj]at h;exact(vE h).symm
theorem aeX(ks:List Nat)(h:ks.length=N):ks=(dm N).map λn=>ks.getD n 0:=by
 subst h;refine List.ext_getElem (by simp) λi h1 h2=>?_
 simp[yS,fY h1]
theorem Oi(H:xR w (b+1) q N v T SP P K ty)(h2:2≤N)(h64:N<64)(a ep:Nat):
  Wide w b (.builtin "list.sort" ⟨[.ref a],[(gB "key",.ref q)]⟩) (λh=>(Lies (kt w.params) h [(true,a,ai ((dm N).map v) ep)]∧a∉SP)∧P h) (List Nat×Nat) (λaf=>.ok (.ret .none))
   (λx h h'=>(h'.get? a=some (ai (x.1.map v) x.2)∧Keeps [a] h h')∧x.1.length=N∧(∀n∈x.1,n<N)∧x.1.Pairwise (cH T)):=by
 intro A s R hA hT hP hR;refine Jw hP λhl aeY hp=>?_;have ho:s.heap.get? a=some (ai ((dm N).map v) ep):=hl.get (p:=(true,a,_)) (.head _);have hoff:(kt w.params).get a=none:=hl.off (true,a,_) (.head _) rfl;have ha:=cK ho;have hlo:=H.lo _ hp;have hlen:((dm N).map v).length=N:=by simp
 have Bt:((dm N).map v).length<64:=by rw[hlen];exact h64
 refine cN entry_list_sort ?_;have G2:bK (b+1) (A.under (.builtin "list.sort" ⟨[.ref a],[(gB "key",.ref q)]⟩)):=hA.under rfl;generalize A.under (.builtin "list.sort" ⟨[.ref a],[(gB "key",.ref q)]⟩)=A1 at G2;rw[ksk_t1];delta ksk_tree;refine av (zp ho rfl ?_);refine av (sW ho rfl ?_ (uM _ Bt) (iT _));refine fC (Bs ho (λaf=>#[])) λe1 kX=>?_;refine av (seqEpoch_at kX rfl ?_);refine av (wpAny_newTuple ?_ (uM _ Bt));refine av (wpAny_newList ?_ (iT _));refine jX ?_;dsimp only;generalize hS:((s.heap.update a (cz λaf=>(#[]:Array aj))).push {cls:=.type "tuple",data:=.seq (mG (vF ⟨(dm N).map v⟩))}).objs.size=S;have hS':S=s.heap.objs.size+1:=by rw[←hS,iH,jA]
 have Oj:nM w N SP P K a S e1 s {s with heap:=((s.heap.update a (cz λaf=>(#[]:Array aj))).push {cls:=.type "tuple",data:=.seq (mG (vF ⟨(dm N).map v⟩))}).push {cls:=.type "list",data:=.seq (mG [])}} [] 0:=by
  have k1:Keeps [a] s.heap (((s.heap.update a (cz λaf=>(#[]:Array aj))).push {cls:=.type "tuple",data:=.seq (mG (vF ⟨(dm N).map v⟩))}).push {cls:=.type "list",data:=.seq (mG [])}):=
   ((Keeps.upd _ (.head _)).trans (Keeps.push _ _ _)).trans (Keeps.push _ _ _)
  have T1:aR (kt w.params) (((s.heap.update a (cz λaf=>(#[]:Array aj))).push {cls:=.type "tuple",data:=.seq (mG (vF ⟨(dm N).map v⟩))}).push {cls:=.type "list",data:=.seq (mG [])}):=λx o q=>k1.2 x o (λm=>by rw[sA m,hoff]at q;cases q) (hT x o q)
  refine⟨T1,H.pk _ _ _ T1 (λu hu m=>aeY (by rw[sA hu]at m;exact m)) k1 hp,(λi x hx=>by cases hx),?_,gV _ (gV _ kX),k1,by exact Uy hS',rfl,rfl,rfl⟩
  rw[←hS];exact jg _ rfl
 have hSn:(kt w.params).get S=none:=by
  cases q:(kt w.params).get S with
  |none=>rfl
  |some o=>
   have:=cK (hT _ o q);omega
 generalize ({s with heap:=((s.heap.update a (cz λaf=>(#[]:Array aj))).push {cls:=.type "tuple",data:=.seq (mG (vF ⟨(dm N).map v⟩))}).push {cls:=.type "list",data:=.seq (mG [])}}:aA)=s1 at Oj⊢
 delta ksk_rest;refine av (lA ?_);rw[←Array.forIn_toList];refine av (ksk_fold (λi s'=>∃ks e,ks.length=i∧nM w N SP P K a S e1 s s' ks e) ((dm N).map v) 0 s1 ⟨[],0,rfl,Oj⟩ ?step ?done);case step=>
  rintro j x s' hx ⟨ks,e,hk,D⟩
  refine dY (aeW v hx) λhj aG=>?_;subst aG;rw[iF]at hk⊢;refine av (wpAny_attempt (zk (H.key j hj A1 s' _ G2 D.top D.p λk h' t' T' pk=>?_)));have D1:=D.turn (t':=t') H T' pk.1;have hSz:S<s'.heap.objs.size:=cK D.ls;have G1:k≠S:=λq=>by
   rcases pk.2.2 with m|m
   ·have:=hlo _ m;exact Cv this q hS'
   ·exact E3 hSz m q
  refine fC (D1.push H hlo ha hSn (hk▸pk.2.1) G1) λe' D2=>?_;dsimp only;have hks:ks.length<64:=by exact W8 Bt hlen hj hk
  refine av (sW D1.ls rfl ?_ (uM _ (by rw[bl];exact hks)) (bh (qb (Dp ..)) (ig (uM _ (by rw[bl];exact hks)))))
  exact aJ ⟨rfl,_,e',by rw[fZ,hk];rfl,D2⟩
 case done=>
  rintro s' ⟨ks,e,hk,D⟩
  rw[iF,hlen]at hk;have hks:ks.length<64:=by exact V9 Bt hlen hk
  refine av (zp D.ls rfl ?_);delta ksk_end;have hn2:¬(⟨(dm N).map v⟩:Array aj).size<2:=by show ¬((dm N).map v).length<2;exact S8 h2 hlen
  simp only[mK,if_false,if_neg hn2];refine av (kas_kind (vs:=ks.map bg) (T:=ty) (by rw[bl];exact S7 h2 hk) (λx hx=>?_) H.tyk (by simp) ?_)
  ·refine aS (aN.mp hx) λk hkm aG=>?_;subst aG;refine fC (CQ.mp hkm) λi hi=>?_;refine aS (H.typ _ _ _ (D.hk i k hi).1) λo ho' aG=>?_;subst aG;exact(Looks.ld ho').andThen .now
  have told:Told (model pw w) A1 (λe s'=>R (.error e) s') (λs'=>nM w N SP P K a S e1 s s' ks e) N (λn=>(bg (ks.getD n 0),v n)) T:=by
   refine⟨H.num,λi j hi hj hij s' E' D'=>?_⟩;have gi:ks[i]?=some (ks.getD i 0):=by simp[yS,fY (show i<ks.length by exact Cx hi hk)]
   have gj:ks[j]?=some (ks.getD j 0):=by simp[yS,fY (show j<ks.length by exact Cx hj hk)]
   exact H.lt i j _ _ hi hj hij A1 s' E' _ G2 D'.top D'.p (D'.hk _ _ gi).1 (D'.hk _ _ gj).1 λh' t' T' k=>⟨rfl,D'.turn H T' k⟩
  have Ol:aZ (SortSt.mk' oneType' (Array.zip ⟨ks.map bg⟩ ⟨(dm N).map v⟩) #[] 7 none)=((dm N).map λn=>(bg (ks.getD n 0),v n)).toArray:=by
   show Array.zip ⟨ks.map bg⟩ ⟨(dm N).map v⟩=_;apply Array.toList_inj.mp;rw[show(⟨(dm N).map v⟩:Array aj)=((dm N).map v).toArray from rfl,ksk_zip];show(ks.map bg).zip _=_;conv=>lhs;rw[aeX ks hk,bQ,List.zip_map']
   rfl
  have hB:cS N (λn=>(bg (ks.getD n 0),v n)) 0 (SortSt.mk' oneType' (Array.zip ⟨ks.map bg⟩ ⟨(dm N).map v⟩) #[] 7 none):=by
   refine⟨⟨by rw[Ol],rfl,rfl,rfl⟩,λk af hkN=>?_,λk hk=>absurd hk (Nat.not_lt_zero _)⟩
   delta ix;rw[Ol,List.getElem?_toArray,dK,CX hkN];show(numOf (v k)).toNat=k;rw[H.num k hkN];exact oh k
  refine av (jY (aeU told hB h2 h64 (Q:=λaf st'=>∃o:List Nat,((aZ st').map (·.2))=⟨o.map v⟩∧failedOf st'=none∧o.length=N∧(∀n∈o,n<N)∧o.Pairwise (cH T)) ?_ s' D) ?_ λaf af e=>e)
  ·intro st' perm fl hat asc;have hsz:(aZ st').size=N:=by rw[perm.size_eq];simp
   have hlt:∀i,i<N→ix (aZ st') i<N:=λi hi=>by
    have hi':i<(aZ st').size:=by exact Cx hi hsz
    have hm:(aZ st')[i]∈(((dm N).map λn=>(bg (ks.getD n 0),v n)).toArray).toList:=(JU.mp perm).mem_iff.mp (by simp)
    refine aS (aN.mp (by simpa using hm:(aZ st')[i]∈(dm N).map λn=>(bg (ks.getD n 0),v n))) λn hn e1=>?_
    have hn:=vt.mp hn;delta ix;rw[(getElem?_pos _ i hi'),←e1];show(numOf (v n)).toNat<N;rw[H.num n hn,oh];exact hn
   refine⟨(dm N).map (ix (aZ st')),?_,fl,by simp,λn hn=>?_,?_⟩
   ·apply Array.toList_inj.mp;rw[Array.toList_map];show _=((dm N).map (ix (aZ st'))).map v;refine List.ext_getElem? λi=>?_;rw[dK,dK,dK,JV];rcases mH i N with l|l
    ·rw[hat i l,CX l];rfl
    ·rw[Array.getElem?_eq_none (Wy hsz l),CU (by simpa using l)]
     rfl
   ·refine aS (aN.mp hn) λi hi aG=>?_;subst aG;exact hlt i (vt.mp hi)
   ·rw[vn];intro i j hi hj hij;simp only[List.getElem_map,List.getElem_range];exact asc i j hij (by simpa using hj)
  ·rintro⟨⟨⟩,st'⟩ s3 ⟨D3,o,hout,hf,ol,oN,op⟩
   delta ksk_tail;dsimp only;refine fC (Bs D3.ls (λaf=>#[])) λe4 h4=>?_;have kS:Keeps [S] s3.heap (s3.heap.update S (cz λaf=>(#[]:Array aj))):=Keeps.upd _ (.head _);have la:=kS.2 _ _ (λm=>by exact Cv ha (sA m) hS') D3.la
   refine av (sW D3.ls rfl ?_ (uM _ (by rw[bl];exact hks)) (iT _))
   refine av (vL ?_);refine av (seqEpoch_at la rfl ?_);rw[hout];have kA:Keeps [a] (s3.heap.update S (cz λaf=>(#[]:Array aj))) ((s3.heap.update S (cz λaf=>(#[]:Array aj))).update a (cz λaf=>⟨o.map v⟩)):=Keeps.upd _ (.head _);refine av (sW la rfl ?_ (iT _) (sd (uM _ (by rw[bl,ol];exact h64))))
   rw[hf];simp only[bne_self_eq_false,mK,if_false];refine fC (Bs la (λaf=>⟨o.map v⟩)) λe5 h5=>?_;have KK:Keeps [a] s.heap ((s3.heap.update S (cz λaf=>(#[]:Array aj))).update a (cz λaf=>⟨o.map v⟩)):=⟨bh D3.keeps.1 (bh kS.1 kA.1),λx ob hx q=>kA.2 _ _ hx (kS.2 _ _ (λm=>by
    have:=sA m;exact Cv (cK q) ‹_› hS') (D3.keeps.2 _ _ hx q))⟩
   have TT:aR (kt w.params) ((s3.heap.update S (cz λaf=>(#[]:Array aj))).update a (cz λaf=>⟨o.map v⟩)):=λx ob q=>KK.2 x ob (λm=>by rw[sA m,hoff]at q;cases q) (hT x ob q)
   have fin:=hR (o,e5) _ s3.toks TT ⟨⟨h5,KK⟩,ol,oN,op⟩;rw[←D3.gens,←D3.drawn,←D3.os]at fin;exact aJ fin
end
def pJ:bR:=st 22
def G3:Expr:=((Yk (rhs (sub 1 pJ))).map λk=>k.value).getD 0 (.Name ⟨#[]⟩ default)
noncomputable def Om:Str:=⟨⟨[95,108,97,119,95,99,108,97,115,115,101,115,46,60,108,111,99,97,108,115,62,46,60,108,97,109,98,100,97,62]⟩⟩
noncomputable def xS:Str:=⟨⟨[116,111,108,100]⟩⟩
def G4(cs fc ct:Nat):iG:=⟨kW,Om,Kw G3,.expr (eE G3),oO G3,3,[(xS,cs)],.none,.none,.none,t0,none,.ref fc,.ref ct,0⟩
def Oo(v0:aj)(tq:Nat)(r:List aj):Obj:=⟨.type "code",none,.fields ⟨v0::.str Om tq::r⟩,#[]⟩
def G5(f fc cs ct TL ep:Nat)(v0:aj)(tq:Nat)(r:List aj)(vs:List aj):List (Bool×Nat×Obj):=[(false,f,iA (G4 cs fc ct)),(false,fc,Oo v0 tq r),(false,cs,ic (.ref TL)),(false,TL,ai vs ep)]
theorem ae1(w:ao)(f fc cs ct TL ep:Nat)(v0:aj)(tq:Nat)(r:List aj)(vs:List aj)(hl:vs.length≤1000)(i t a:Nat)(hi:vs[i]?=some (.ref a)):
  Spec w 104 (.call (.ref f) ⟨[.int (i:Int) t],[]⟩) (G5 f fc cs ct TL ep v0 tq r vs) Unit (λaf=>.ok (.ret (.ref a))) (λaf=>[]) (λaf=>[]):=by
 have g1:=pA w TL vs _ ep t i hi hl;generalize (i:Int)=i' at*;refine cX rfl rfl ?_;intro A s R hR;refine⟨aq (dec 449749193168703463683) (.cut 119 _ [(3,false,TL,ai vs ep)] Unit _ (λaf=>[]) (λaf=>[]) λaf aU af=>
  aq (dec 0) (.done (.ok (.ret (.ref a))) [] [])),
  au<|ay g1 λaf aU af=>au<|cE hR () rfl rfl rfl rfl,?_⟩
 clear hR g1 hl hi;kernel_rfl!
section
variable(target:Expr)(it:aj)(x l r:Expr)(cp bp ip:Pos)(b1 b2:List bR)(env:Env)
noncomputable def G6:Sem (Option (Option (aj×aj))):=do
 ou target.pos
 match←(pyNext it).onRaise (λaf=>ou {target.pos with line:=0})with
 |none=>pure none
 |some v=>
  letOwnedTupleGo target it v
  assign target env v
  ou ip
  match←isTrue x env (eval x env)with
  |false=>pure (some none)
  |true=>do
   let a←eval l env
   let b←holding [a] (eval r env)
   ou cp
   pure (some (some (a,b)))
noncomputable def G7(s:bR)(t:Bool):Sem Fin:=do
 match←(if t=true then execs b1 env else execs b2 env)with
 |.next|.cont=>again (.forLoop target it [s] [] env)
 |.brk=>pure (.done .next)
 |.ret v=>pure (.done (.ret v))
noncomputable def G8(s:bR):Option (Option (aj×aj))→Sem Fin
 |none=>again (.block [] env)
 |some none=>G7 target it b1 b2 env s false
 |some (some (a,b))=>do
  let c←operate [a,b] (compareOp .Eq a b)
  let t←holding [c] (truthy c)
  G7 target it b1 b2 env s t
theorem G9(m:Sem f7):(m>>=λf=>match f with|.next=>execs [] env|f=>pure f)=m:=by
 have:(λf:f7=>match f with|.next=>execs [] env|f=>pure f)=(pure:f7→Sem f7):=by
  funext f
  cases f<;>rfl
 rw[this,bind_pure]
theorem ae2(hm:qc .Eq r=false)(s:bR)(hs:s=.If (.BoolOp .And [x,.Compare l [.Eq] [r] cp] bp) b1 b2 ip):
  forTurn target it [s] [] env=G6 target it x l r cp ip env>>=G8 target it b1 b2 env s:=by
 delta forTurn G6;simp only[bind_assoc];congr 1
 funext _
 congr 1
 funext o
 cases o with
 |none=>simp only[pure_bind];rfl
 |some v=>
  simp only[bind_assoc];congr 1
  funext _
  congr 1
  funext _
  have e:execs [s] env=(do
    ou ip
    match←isTrue x env (eval x env)with
    |false=>execs b2 env
    |true=>do
     let a←eval l env
     let b←holding [a] (eval r env)
     ou cp
     let c←operate [a,b] (compareOp .Eq a b)
     let t←holding [c] (truthy c)
     if t=true then execs b1 env else execs b2 env):=by
   subst hs;rw[arm_execs_cons,exec_If,arm_isTrue_BoolOp,arm_allTrue_cons];simp only[arm_allTrue_cons,arm_allTrue_nil,isTrue_Compare1,markedBehindIn_of_false hm,bind_assoc];congr 1
   funext _
   congr 1
   funext b
   cases b with
   |false=>
    simp only[pure_bind,mK,if_false];exact G9 env _
   |true=>
    simp only[bind_assoc];congr 1
    funext a
    congr 1
    funext b
    congr 1
    funext _
    congr 1
    funext c
    congr 1
    funext t
    cases t with
    |true=>
     show(pure (BoolOp.And==BoolOp.And)>>=_:Sem f7)=_;rw[pure_bind];exact G9 env _
    |false=>
     show(pure false>>=_:Sem f7)=_;rw[pure_bind];exact G9 env _
  rw[e];simp only[bind_assoc];congr 1
  funext _
  congr 1
  funext b
  cases b with
  |false=>
   dsimp only[pure_bind];rfl
  |true=>
   simp only[bind_assoc,pure_bind];rfl
end
def nN:bR:=sub 0 (sub 1 pJ)
def Bu:Expr:=iu 1 (dg nN)
theorem ae3:nN=.If (.BoolOp .And [iu 0 (dg nN),.Compare (eE Bu) [.Eq] [iu 0 Bu] Bu.pos] (dg nN).pos) (fBody nN) (DZ nN) (zT nN):=by
 kernel_rfl!
theorem ae4:fBody (sub 1 pJ)=[nN]:=by
 kernel_rfl!
theorem ae5:qc .Eq (iu 0 Bu)=false:=by
 kernel_rfl!
section
open PySem.SeqAt
noncomputable def mq(x:List Int):PyData:=.list (x.map sZ)
noncomputable def Hf(x:List (List Nat)):PyData:=.list (x.map λt=>vR ⟨⟨t⟩⟩)
noncomputable def Hg(x:List (List Int)):PyData:=.list (x.map mq)
theorem lay_ints:∀x:List Int,sY (x.map sZ)=true∧DE (x.map sZ)≤0
 |[]=>⟨rfl,bk _⟩
 |_::r=>⟨by
   rw[bP,sY,(lay_ints r).1];rfl,Nat.max_le.mpr ⟨bk _,(lay_ints r).2⟩⟩
theorem xT:∀x:List (List Nat),(∀t∈x,∀c∈t,c<0x110000)→sY (x.map λt=>vR ⟨⟨t⟩⟩)=true∧DE (x.map λt=>vR ⟨⟨t⟩⟩)≤0
 |[],_=>⟨rfl,bk _⟩
 |t::r,h=>⟨by
   rw[bP,sY,(xT r λt ht=>h t (.tail _ ht)).1,Bool.and_true];show(Array.all ⟨t⟩ (·<0x110000))=true;rw[←Array.all_toList,List.all_eq_true];exact λc hc=>decide_eq_true (h t (.head _) c hc),Nat.max_le.mpr ⟨bk _,(xT r λt ht=>h t (.tail _ ht)).2⟩⟩
theorem xU:∀x:List (List Int),sY (x.map mq)=true∧DE (x.map mq)≤1
 |[]=>⟨rfl,iT _⟩
 |t::r=>⟨by
   rw[bP,sY,(xU r).1,Bool.and_true];exact(lay_ints t).1,Nat.max_le.mpr ⟨ig (lay_ints t).2,(xU r).2⟩⟩
theorem Bv:∀x y:List Int,oA (x.map sZ) (y.map sZ)=(x==y)
 |[],[]=>rfl
 |[],_::_=>rfl
 |_::_,[]=>rfl
 |a::x,b::y=>by
  rw[bP,bP,oA,Bv x y];rfl
theorem Oq:∀x y:List (List Nat),oA (x.map λt=>vR ⟨⟨t⟩⟩) (y.map λt=>vR ⟨⟨t⟩⟩)=(x==y)
 |[],[]=>rfl
 |[],_::_=>rfl
 |_::_,[]=>rfl
 |a::x,b::y=>by
  rw[bP,bP,oA,Oq x y];show((⟨⟨a⟩⟩:Str)==⟨⟨b⟩⟩ && _)=(a==b && _);congr 1
  rw[mL,beq_iff_eq,beq_iff_eq];exact⟨λe=>by injection e with e;injection e,λe=>by rw[e]⟩
theorem Ot:∀x y:List (List Int),oA (x.map mq) (y.map mq)=(x==y)
 |[],[]=>rfl
 |[],_::_=>rfl
 |_::_,[]=>rfl
 |a::x,b::y=>by
  rw[bP,bP,oA,Ot x y];show(oA _ _ && _)=(a==b && _);rw[Bv];rfl
theorem ae6{h:az}(v:List (Int×Nat)):ReadsAll h (v.map iv) ((v.map (·.1)).map sZ) []:=by
 induction v with
 |nil=>exact .nil
 |cons p r ih=>exact .cons (.int p.1 p.2) ih
theorem Hh{h:az}{a ep:Nat}{v:List (Int×Nat)}(e:h.get? a=some (ai (v.map iv) ep)):Reads h (.ref a) (mq (v.map (·.1))) [a]:=.list e rfl rfl (ae6 v)
theorem ae7(v:List (Nat×Nat)):aD v=(v.map λp=>((p.1:Int),p.2)).map iv:=by
 unfold aD;rw[bQ];rfl
theorem Hi{h:az}{a ep:Nat}{v:List (Nat×Nat)}(e:h.get? a=some (ai (aD v) ep)):Reads h (.ref a) (mq (v.map λp=>(p.1:Int))) [a]:=by
 rw[ae7]at e;have:=Hh e;rwa [bQ]at this
theorem Ou{h:az}{a ep:Nat}{v:List (List Nat×Nat)}(e:h.get? a=some (ai (c5 v) ep)):Reads h (.ref a) (Hf (v.map (·.1))) [a]:=by
 refine .list e rfl rfl (?_:ReadsAll h (c5 v) _ []);clear e;induction v with
 |nil=>exact .nil
 |cons p r ih=>exact .cons (.str ⟨⟨p.1⟩⟩ p.2) ih
theorem Ov{h:az}{a ep:Nat}{o:bF}(e:h.get? a=some (ai (aT o) ep))(ho:∀x∈o,h.get? x.1=some (ai (x.2.1.map iv) x.2.2)):Reads h (.ref a) (Hg (dM o)) (a::o.map (·.1)):=by
 refine .list e rfl rfl (?_:ReadsAll h (aT o) ((dM o).map mq) (o.map (·.1)));clear e;induction o with
 |nil=>exact .nil
 |cons x r ih=>exact .cons (as:=[x.1]) (Hh (ho x (.head _))) (ih λy hy=>ho y (.tail _ hy))
section
variable{w:ao}{A:aV}{E:aj→aA→Prop}{s:aA}{Q:aj→aA→Prop}
theorem Bw(hu:A.units≤9000){d:PyData}(e:PyData)(hd:d.depth≤2):A.units+min d.depth e.depth<cLine:=by
 show _<9900;exact WK hd hu
theorem ae8(hu:A.units≤9000){p q ep eq:Nat}{vs us:List (Nat×Nat)}(h1:s.heap.get? p=some (ai (aD vs) ep))(h2:s.heap.get? q=some (ai (aD us) eq))(h:Q (.bool (vs.map (·.1)==us.map (·.1))) s):wpAny (model pw w) A (compareOp .Eq (.ref p) (.ref q)) Q E s:=by
 refine compareEq_reads (Hi h1) (Hi h2) (lay_ints _).1 (lay_ints _).1 (Bw hu _ (ig (bh (lay_ints _).2 (iT _)))) ?_;show Q (.bool (oA _ _)) s;rw[Bv];have e:∀x y:List (Nat×Nat),(x.map (λp=>(p.1:Int))==y.map λp=>(p.1:Int))=(x.map (·.1)==y.map (·.1)):=λx y=>by
  rw[mL,beq_iff_eq,beq_iff_eq];have e2:∀z:List (Nat×Nat),z.map (λp=>(p.1:Int))=(z.map (·.1)).map yZ:=λz=>by rw[bQ];rfl
  rw[e2,e2];exact List.map_inj_right λa b=>Int.ofNat.inj
 rw[e];exact h
end
end
noncomputable def ae9:Str:=⟨⟨[95,108,97,119,95,99,108,97,115,115,101,115,46,60,108,111,99,97,108,115,62,46]⟩⟩
def Hj(loc cl:Nat):Env:={envOf pJ ae9 229 228 loc with cells:=[(Et,cl)]}
def Bx(it loc cl:Nat):bf:=.forLoop (dg (sub 1 pJ)) (.ref it) (fBody (sub 1 pJ)) [] (Hj loc cl)
def gK(w:ao)(CL k1:Nat)(fr:Option (Nat×aj)):Obj:=iK ([de w Ab k1 (.ref CL)]++Gf w m5 fr)
structure Row where
 a:Nat
 vs:List (Nat×Nat)
 e:Nat
def ju(l:List Row):Led:=l.map λr=>(false,r.a,ai (aD r.vs) r.e)
noncomputable def c6(l:List Row):List aj:=l.map λr=>.ref r.a
noncomputable def fM(l:List Row)(n:Nat):List Nat:=match l[n]? with
 |some r=>r.vs.map (·.1)
 |none=>[]
structure CZ where
 SL:Nat
 sep:Nat
 it:Nat
 loc:Nat
 cl:Nat
 CL:Nat
 k1:Nat
 TL:Nat
 fN:Nat
 told:List Row
 items:List (Nat×Nat)
def CZ.head(w:ao)(z:CZ)(i:Nat)(fr:Option (Nat×aj))(cv:List aj)(ep:Nat):Led:=
 [(false,z.SL,ai (aD z.items) z.sep),(false,z.cl,ic (.ref z.TL)),(false,z.TL,ai (c6 z.told) z.fN),(true,z.loc,gK w z.CL z.k1 fr),(true,z.it,aC "list_iterator" (.ref z.SL) i),(true,z.CL,ai cv ep)]
def CZ.led(w:ao)(z:CZ)(i:Nat)(fr:Option (Nat×aj))(cv:List aj)(ep:Nat)(o:bF):Led:=z.head w i fr cv ep++(ju z.told++bI o)
noncomputable def jv(T:Nat→List Nat)(cs:List (List Int))(p:Nat):List (List Int):=match cs.reverse with
 |[]=>[[(p:Int)]]
 |c::r=>if T (c.headD 0).toNat=T p then r.reverse++[c++[(p:Int)]]else cs++[[(p:Int)]]
theorem Hl(T:Nat→List Nat)(cs:List (List Int))(c:List Int)(p:Nat):jv T (cs++[c]) p=if T (c.headD 0).toNat=T p then cs++[c++[(p:Int)]]else cs++[c]++[[(p:Int)]]:=by
 delta jv;rw[List.reverse_append];show(if T (c.headD 0).toNat=T p then cs.reverse.reverse++_ else _)=_
 rw[JM]
noncomputable def rq(n i:Nat)(o:bF):Prop:=o.length≤i∧∀x∈o,(∃(m t:Nat) (qs:List (Int×Nat)),x.2.1=((m:Int),t)::qs∧m<n)∧x.2.1.length≤i
theorem rq.mono{n i:Nat}{o:bF}(h:rq n i o):rq n (i+1) o:=⟨sd h.1,λx hx=>⟨(h.2 x hx).1,sd (h.2 x hx).2⟩⟩
theorem Ho{l:Led}(nd:(l.map (·.2.1)).Nodup){p q:Bool×Nat×Obj}(hp:p∈l)(hq:q∈l)(e:p.2.1=q.2.1):p=q:=by
 induction l with
 |nil=>cases hp
 |cons x l ih=>
  obtain⟨n1,n2⟩:=bA.mp nd;rcases aM.mp hp with h|h<;>rcases aM.mp hq with k|k
  ·rw[h,k]
  ·rw[h]at e;exact absurd (aN.mpr ⟨q,k,e.symm⟩) n1
  ·rw[k]at e;exact absurd (aN.mpr ⟨p,h,e⟩) n1
  ·exact ih n2 h k
theorem Ow{w:ao}{z:CZ}{i i':Nat}{fr cQ:Option (Nat×aj)}{cv kj:List aj}{ep dj:Nat}{o o':bF}{U:List Nat}{h h':az}(H:Lies (kt w.params) h (z.led w i fr cv ep o))(T:aR (kt w.params) h')(K:Keeps U h h')
  (hU:∀u∈U,u=z.loc∨u=z.it∨u=z.CL∨u∈o.map (·.1)) (g1:h'.get? z.loc=some (gK w z.CL z.k1 cQ)) (g2:h'.get? z.it=some (aC "list_iterator" (.ref z.SL) i')) (g3:h'.get? z.CL=some (ai kj dj))
  (ho:o'.map (·.1)=o.map (·.1)) (hx:∀x∈o',h'.get? x.1=some (ai (x.2.1.map iv) x.2.2)):Lies (kt w.params) h' (z.led w i' cQ kj dj o'):=by
 have ho2:(bI o').map (λp=>(p.1,p.2.1))=(bI o).map (λp=>(p.1,p.2.1)):=by
  have:=congrArg (List.map λa=>(true,a)) ho;delta bI;rw[bQ,bQ]at this⊢;exact this
 refine H.turn T K (by delta CZ.led;rw[aL,aL,aL,aL,ho2];rfl) λp hp=>?_
 have keep:∀q∈z.led w i fr cv ep o,q.1=false→q.2.1∉U:=λq hq hm m=>by
  have e:(true,q.2.1)∈(z.led w i fr cv ep o).map λp=>(p.1,p.2.1):=by
   refine dw (hU _ m) (λe=>?_) λe=>dw e (λe=>?_) λe=>dw e (λe=>?_) λe=>?_
   ·rw[e];exact .tail _ (.tail _ (.tail _ (.head _)))
   ·rw[e];exact .tail _ (.tail _ (.tail _ (.tail _ (.head _))))
   ·rw[e];exact .tail _ (.tail _ (.tail _ (.tail _ (.tail _ (.head _)))))
   ·refine aS (aN.mp e) λx hx e=>?_;refine aN.mpr ⟨(true,x.1,_),inr (inr (aN.mpr ⟨x,hx,rfl⟩)),?_⟩;show(true,x.1)=_;rw[e]
  refine aS (aN.mp e) λr hr e=>?_;have e1:r.1=true:=congrArg Prod.fst e;have:=Ho H.nd hr hq (congrArg Prod.snd e);rw[this,hm]at e1;cases e1
 rcases mA hp with hp|hp
 ·apply nV hp
  ·exact .inr ⟨.head _,keep _ (.head _) rfl⟩
  ·exact .inr ⟨.tail _ (.head _),keep _ (.tail _ (.head _)) rfl⟩
  ·exact .inr ⟨.tail _ (.tail _ (.head _)),keep _ (.tail _ (.tail _ (.head _))) rfl⟩
  ·exact .inl g1
  ·exact .inl g2
  ·exact .inl g3
 ·rcases mA hp with hp|hp
  ·refine aS (aN.mp hp) λr af aG=>?_;subst aG;exact .inr ⟨inr (inl hp),keep _ (inr (inl hp)) rfl⟩
  ·refine aS (aN.mp hp) λx hxo aG=>?_;subst aG;exact .inl (hx x hxo)
theorem Ox{α:Type}(l:List α):l=[]∨∃r x,l=r++[x]:=by
 rcases h:l.reverse with _|⟨x,r⟩
 ·exact .inl (List.reverse_eq_nil_iff.mp h)
 ·exact .inr ⟨r.reverse,x,by rw[←JM l,h,List.reverse_cons]⟩
theorem Hp{w:ao}{z:CZ}{i:Nat}{fr:Option (Nat×aj)}{cv:List aj}{ep:Nat}{o:bF}{h:az}(H:Lies (kt w.params) h (z.led w i fr cv ep o)){a:Nat}(ha:a∈adr (ju z.told++bI o)):a∉[z.loc,z.it,z.CL]:=λm=>by
 refine H.apart (?_:a∈adr (z.head w i fr cv ep)) ha;exact .tail _ (.tail _ (.tail _ m))
theorem uN(l l':Led):adr (l++l')=adr l++adr l':=aL ..
theorem By{o:bF}{x:Nat×List (Int×Nat)×Nat}(hx:x∈o)(l:Led):x.1∈adr (l++bI o):=by
 rw[uN];exact inr (aN.mpr ⟨_,aN.mpr ⟨x,hx,rfl⟩,rfl⟩)
theorem afb(o:bF):adr (bI o)=o.map (·.1):=by
 delta adr bI;rw[bQ];rfl
theorem Oz{w:ao}{z:CZ}{i i':Nat}{fr cQ:Option (Nat×aj)}{cv kj:List aj}{ep dj:Nat}{o:bF}{h h':az}(H:Lies (kt w.params) h (z.led w i fr cv ep o))(T:aR (kt w.params) h')(K:Keeps [z.loc,z.it,z.CL] h h')
  (g1:h'.get? z.loc=some (gK w z.CL z.k1 cQ)) (g2:h'.get? z.it=some (aC "list_iterator" (.ref z.SL) i')) (g3:h'.get? z.CL=some (ai kj dj)):Lies (kt w.params) h' (z.led w i' cQ kj dj o):=
 Ow H T K (λu hu=>by
  exact(fB hu).imp id λx=>x.imp id .inl) g1 g2 g3 rfl λx hx=>K.2 _ _ (Hp H (By hx _)) (H.right.right.get (aN.mpr ⟨x,hx,rfl⟩))
theorem OA{w:ao}{z:CZ}{i i':Nat}{fr cQ:Option (Nat×aj)}{cv kj:List aj}{ep dj:Nat}{o:bF}{h h':az}(H:Lies (kt w.params) h (z.led w i fr cv ep o))(T0:aR (kt w.params) h)(T:aR (kt w.params) h')(K:Keeps [z.loc,z.it,z.CL] h h')
  (g1:h'.get? z.loc=some (gK w z.CL z.k1 cQ)) (g2:h'.get? z.it=some (aC "list_iterator" (.ref z.SL) i')) (g3:h'.get? z.CL=some (ai kj dj))
  {n:Nat} {qs:List (Int×Nat)} {e:Nat} (hn:h.objs.size≤n) (g4:h'.get? n=some (ai (qs.map iv) e)):Lies (kt w.params) h' (z.led w i' cQ kj dj (o++[(n,qs,e)])):=by
 have L2:=(Oz H T K g1 g2 g3).join (Lies.one (m:=true) g4 (gR T0 hn) T) λb hb hc=>by
  have e:adr (z.led w i' cQ kj dj o)=adr (z.led w i fr cv ep o):=by
   delta CZ.led;rw[uN (z.head w i' cQ kj dj),uN (z.head w i fr cv ep)];rfl
  rw[e]at hb;have:=H.lt hb;rw[sA hc]at this;exact absurd hn (vA this)
 have e:z.led w i' cQ kj dj o++[(true,n,ai (qs.map iv) e)]=z.led w i' cQ kj dj (o++[(n,qs,e)]):=by
  delta CZ.led bI;rw[fP,fP,aL];rfl
 exact e▸L2
noncomputable def encP:Option (Option (aj×aj))→f7
 |some (some (a,b))=>match a,b with
  |.ref a,.ref b=>.ret (.int (a:Int) b)
  |_,_=>.brk
 |_=>.brk
theorem afc{f:Option (Option (aj×aj))}{a b:Nat}(h:encP f=.ret (.int (a:Int) b)):f=some (some (.ref a,.ref b)):=by
 rcases f with _|_|⟨x,y⟩
 ·injection h
 ·injection h
 ·cases x<;>first|injection h;done|skip
  cases y<;>first|injection h;done|skip
  injection h with h
  injection h with h1 h2
  rw[vD.mp h1,h2]
noncomputable def OB{α:Type}(enc:α→f7)(Q:α→aA→Prop):aW→aA→Prop:=λr s=>match r with
 |.ok fl=>∀f,enc f=fl→Q f s
 |.error _=>False
theorem mw{α:Type}(enc:α→f7){w:ao}{s₀:aA}{h:az}{b:Nat}{A:aV}{t:Sem α}{Q:α→aA→Prop}{E:aj→aA→Prop}{l:List (Bool×Nat×Obj)}{tk:Nat}(cert:Cert)(G:Good (bD w s₀ (OB enc Q)) cert ⟨h,l.length,muts l⟩)(S:Lies (kt w.params) h l)(hA:bK b A)
  (e:∀R,fR (bD w s₀ R) 1000000000 .base A A (b+1) (t.bind λf=>.pure (.done (enc f))) (dB l) h.objs.size tk l.length cert=fS cert (l.map (·.2.1)) h.objs.size) (hb:fD b 120=true):
  wpAny (model pw w) A t Q E ⟨h,s₀.gens,s₀.drawn,tk,s₀.os⟩:=
 aed enc (V:=bD w s₀ (OB enc Q)) cert G S hA (λf af h=>h f rfl) (λaf af h=>h.elim) (e _) hb
theorem BA{w:ao}{s₀:aA}{R:aW→aA→Prop}{h:az}{b:Nat}{Ac A:aV}{t:Sem Fin}{E:aj→aA→Prop}{l:List (Bool×Nat×Obj)}{tk:Nat}(cert:Cert)(G:Good (bD w s₀ (AX R)) cert ⟨h,l.length,muts l⟩)(S:Lies (kt w.params) h l)(AY:bK b Ac)(hA:bK (b+1) A)
  (e:∀R,fR (bD w s₀ R) 1000000000 .base Ac A (b+1) t (dB l) h.objs.size tk l.length cert=fS cert (l.map (·.2.1)) h.objs.size) (hb:fD b 120=true):
  wpAny (model pw w) A t (λfin s'=>match fin with|.done f=>R (.ok f) s'|.again c'=>c'.quiet=true∧gU (model pw w) Ac c' R s') E ⟨h,s₀.gens,s₀.drawn,tk,s₀.os⟩:=
 MP cert G S AY hA (e _) hb
structure OC(w:ao)(z:CZ)(o:bF)(fr:Option (Nat×aj))(r:List (Nat×Nat))(x:bF×Nat×Option (Nat×aj))(h h':az):Prop where
 lies:Lies (kt w.params) h' ([(true,z.loc,gK w z.CL z.k1 x.2.2),(true,z.CL,ai (aT x.1) x.2.1)]++bI x.1)
 told:fr.isSome=true∨r≠[]→x.2.2.isSome=true
 keeps:Keeps ([z.loc,z.it,z.CL]++o.map (·.1)) h h'
 is:dM x.1=(r.map (·.1)).foldl (jv (fM z.told)) (dM o)
 fresh:∀a∈x.1.map (·.1),a∈o.map (·.1)∨h.objs.size≤a
theorem afd(w0:ao)(fb fc:Bool)(z:CZ)(hn:z.told.length≤900)(hI:∀p∈z.items,p.1<z.told.length):∀(r:List (Nat×Nat)) (i:Nat) (o:bF) (ep:Nat) (fr:Option (Nat×aj)),z.items.drop i=r→rq z.told.length i o→i+r.length≤900→
  Wide (ak w0 fb fc) 90 (Bx z.it z.loc z.cl) (λh=>Lies (kt (ak w0 fb fc).params) h (z.led (ak w0 fb fc) i fr (aT o) ep o)) (bF×Nat×Option (Nat×aj)) (λaf=>.ok .next) (OC (ak w0 fb fc) z o fr r):=by
 intro r;generalize hw:ak w0 fb fc=w at*;induction r with
 |nil=>
  intro i o ep fr hr ok hi;refine d7 rfl rfl λA s R hT hP hR=>?_;have hx:(aD z.items)[i]?=none:=by
   delta aD;simpa using(kE.mp hr)
  have hend:=oQ w z.it z.SL i (aD z.items) z.sep hx;refine⟨_,hP.left,aq (dec 455) (.cut 110 _ [(0,false,z.SL,ai (aD z.items) z.sep),(4,true,z.it,aC "list_iterator" (.ref z.SL) i)] Nat _ (λaf=>[(4,z.it,aC "list_iterator" .none i)]) (λx=>[(x,aK []),(x+1,gf x)]) λx af af=>
   aq (dec 10) (.done (.ok .next) [(3,z.loc,gK w z.CL z.k1 fr),(5,z.CL,ai (aT o) ep)] [])),au (ay hend λx af af=>au (bu λhp t' K T hu af af af=>?F7)),?F8⟩
  case F7=>
   have K:Keeps [z.loc,z.it,z.CL] s.heap hp:=K;refine hR (o,ep,fr) hp t' T ⟨?_,λh=>h.elim id λh=>absurd rfl h,K.mono λa ha=>inl ha,rfl,λa ha=>.inl ha⟩;have off:∀a∈adr (bI o),a∉[z.loc,z.it,z.CL]:=λa ha=>Hp hP (by rw[uN];exact inr ha)
   have nLC:z.loc≠z.CL:=λe=>by
    exact((bA.mp (bA.mp (bA.mp (bA.mp (hP.left.nd:(adr (z.head w i fr (aT o) ep)).Nodup)).2).2).2).1) (e▸.tail _ (.head _))
   have two:Lies (kt w.params) hp [(true,z.loc,gK w z.CL z.k1 fr),(true,z.CL,ai (aT o) ep)]:=
    Lies.join (l:=[(true,z.loc,_)]) (Lies.one (hu (z.loc,gK w z.CL z.k1 fr) (.head _)) (hP.off (true,z.loc,gK w z.CL z.k1 fr) (.tail _ (.tail _ (.tail _ (.head _)))) rfl) T) (Lies.one (hu (z.CL,ai (aT o) ep) (.tail _ (.head _))) (hP.off (true,z.CL,ai (aT o) ep) (.tail _ (.tail _ (.tail _ (.tail _ (.tail _ (.head _)))))) rfl) T) λb hb hc=>nLC ((sA hb).symm.trans (sA hc))
   exact two.join (hP.right.right.keep T K λp hp=>off _ (mD hp)) λb hb hc=>off b hc (by
    have hb:b∈[z.loc,z.CL]:=hb;simp only[aM,bO,or_false]at hb⊢;exact hb.imp id .inr)
  case F8=>
   clear hP hR hT hx hend hr ok hi hI hn;(apply jC hw fr;kernel_rfl!)
 |cons y r ih=>
  intro i o ep fr hr ok hi;have hi:i+(r.length+1)≤900:=hi;have hy:z.items[i]?=some y:=by
   have:=congrArg (λl=>l[0]?) hr;simpa using this
  have hr':z.items.drop (i+1)=r:=by
   rw[←iR,hr];rfl
  have rt:=hI y (eB hy);have s1:=lG w z.it z.SL i (aD z.items) z.sep (.int (y.1:Int) y.2) (by delta aD;rw[dK,hy];rfl)
  rcases Ox o with rfl|⟨o0,x,rfl⟩
  ·refine d7 rfl rfl λA s R hT hP hR=>?_;have qS:∀sz:Nat,rq z.told.length (i+1) [(sz,[((y.1:Int),y.2)],0)]:=λsz=>⟨Dg _ _,λx hx=>by
    rw[sA hx];exact⟨⟨y.1,y.2,[],rfl,rt⟩,Dg _ _⟩⟩
   refine⟨_,hP.left,aq (dec 455) (.cut 119 _ [(0,false,z.SL,ai (aD z.items) z.sep),(4,true,z.it,aC "list_iterator" (.ref z.SL) i)] Unit _ (λaf=>[(4,z.it,aC "list_iterator" (.ref z.SL) (i+1))]) (λaf=>[]) λaf sz tk=>
    aq (dec 2637357017832539106831301076869510) (.wide 90 _ [(3,true,z.loc,gK w z.CL z.k1 (some (bE fr tk,.int (y.1:Int) y.2))),(4,true,z.it,aC "list_iterator" (.ref z.SL) (i+1)),(5,true,z.CL,ai [.ref sz] (ep+1)),(6,true,sz,ai [.int (y.1:Int) y.2] 0)] (bF×Nat×Option (Nat×aj)) _ (λaf=>[]) λx h1 af af=>
    aq (dec 0) (.done (.ok .next) [] []))),au (ay s1 λaf sz tk=>au (cC (ih (i+1) [(sz,[((y.1:Int),y.2)],0)] (ep+1) (some (bE fr tk,.int (y.1:Int) y.2)) hr' (qS sz) (vj hi)) (λh a=>?pre) (λaf af h' af T af=>⟨(λaf h=>nomatch h),.nil,(λaf h=>nomatch h),T⟩) λx h h1 af af a1 T1 q1=>au (bu λhp t' K T af af af af=>?afg))),?FL⟩
   case pre=>
    exact OA (o:=[]) hP hT a.lies.top a.keeps (a.lies.get (p:=(true,z.loc,_)) (.head _)) (a.lies.get (p:=(true,z.it,_)) (.tail _ (.head _))) (a.lies.get (p:=(true,z.CL,_)) (.tail _ (.tail _ (.head _)))) (a.fresh _ (.tail _ (.tail _ (.tail _ (.head _)))) (bk _)) (a.lies.get (p:=(true,sz,_)) (.tail _ (.tail _ (.tail _ (.head _)))))
   case afg=>
    have K:Keeps [] h1 hp:=K;have K0:Keeps [z.loc,z.it,z.CL] s.heap h:=a1.keeps;have fr:=a1.fresh _ (.tail _ (.tail _ (.tail _ (.head _)))) (bk _);refine hR x hp t' T ⟨q1.lies.ext T K,λaf=>q1.told (.inl rfl),(K0.trans' q1.keeps λa ha=>?_).trans K.ext,q1.is,λa ha=>?_⟩
    ·rcases mA ha with ha|ha
     ·exact .inl ha
     ·exact .inr (sA ha▸fr)
    ·rcases q1.fresh a ha with c|c
     ·exact .inr (sA c▸fr)
     ·exact .inr (bh K0.1 c)
   case FL=>
    clear hP hR hT s1 ih ok rt hy hr hr' hi hI hn qS;generalize (y.1:Int)=y1;(apply jC hw fr;kernel_rfl!)
  ·intro A s R hA hT hP hR;have dc:bK 91 (A.under (Bx z.it z.loc z.cl)):=hA.under rfl;obtain⟨C,OD,ce⟩:=x;obtain⟨⟨m,u,qs,hqs,hm⟩,pK⟩:=ok.2 (C,OD,ce) (inr (.head _));obtain rfl:OD=((m:Int),u)::qs:=hqs;have pK:(((m:Int),u)::qs).length≤i:=pK;refine zh ?_;generalize A.under (Bx z.it z.loc z.cl)=A' at dc⊢;show wpAny (model pw w) A' ((forTurn (dg (sub 1 pJ)) (.ref z.it) (fBody (sub 1 pJ)) [] (Hj z.loc z.cl)).onRaise λx=>do sQ x (Hj z.loc z.cl);zg x) _ _ s
   refine zj ?_;rw[ae4,ae2 _ _ _ _ _ _ _ _ _ _ _ ae5 nN ae3];delta G6;rw[zq,J0,Dy,ZFast.ze15418851999007992765,mR];obtain⟨ra,uO⟩:∃q,z.told[m]?=some q:=⟨_,fY hm⟩;obtain⟨rb,hrb⟩:∃q,z.told[y.1]?=some q:=⟨_,fY rt⟩;have hlen:(c6 z.told).length≤1000:=by delta c6;rw[bl];exact E4 hn
   have g1:=λt=>pA w z.TL (c6 z.told) (.ref ra.a) z.fN t m (by delta c6;rw[dK,uO];rfl) hlen
   have g2:=pA w z.TL (c6 z.told) (.ref rb.a) z.fN y.2 y.1 (by delta c6;rw[dK,hrb];rfl) hlen
   have g3:=λt=>pA w C ((((m:Int),u)::qs).map iv) (.int (m:Int) u) ce t 0 rfl (by rw[bl];exact Ct hi pK)
   have kX:o0.length+1≤i:=by simpa using ok.1
   have ru:aT (o0++[(C,((m:Int),u)::qs,ce)])=aT o0++[.ref C]:=by delta aT;rw[aL];rfl
   have g4:=λt=>FA w z.CL (aT o0) (.ref C) ep t (by delta aT;rw[bl];exact VF hi kX)
   have g5:=nu w z.CL (aT o0++[.ref C]) ep (o0.length+1) (by delta aT;simp) (Ct hi kX)
   have kY:(C,((m:Int),u)::qs,ce)∈o0++[(C,((m:Int),u)::qs,ce)]:=inr (.head _);have xV:∀{a:Nat},a=C→a∈(o0++[(C,((m:Int),u)::qs,ce)]).map (·.1):=λe=>aN.mpr ⟨_,kY,e.symm⟩;rw[ru]at hP;generalize aT o0++[.ref C]=cv at*;have LA:Lies (kt w.params) s.heap (z.head w i fr cv ep++[(false,C,ai ((((m:Int),u)::qs).map iv) ce)]):=hP.left.join (Lies.one (hP.right.right.get (p:=(true,C,_)) (aN.mpr ⟨_,kY,rfl⟩)) (hP.right.right.off (true,C,ai ((((m:Int),u)::qs).map iv) ce) (aN.mpr ⟨_,kY,rfl⟩) rfl) hT) λb hb hc=>hP.apart hb (sA hc▸By kY _);refine av (mw encP (b:=91) (l:=z.head w i fr cv ep++[(false,C,ai ((((m:Int),u)::qs).map iv) ce)]) (aq (dec 455) (.cut 119 _ [(0,false,z.SL,ai (aD z.items) z.sep),(4,true,z.it,aC "list_iterator" (.ref z.SL) i)] Unit _ (λaf=>[(4,z.it,aC "list_iterator" (.ref z.SL) (i+1))]) (λaf=>[]) λaf af tk=>
    aq (dec 136339846) (.cut 118 _ [(5,false,z.CL,ai cv ep)] Nat _ (λaf=>[]) (λaf=>[]) λaf af aF=>
    aq (dec 8726282628) (.cut 119 _ [(5,false,z.CL,ai cv ep)] Unit _ (λaf=>[]) (λaf=>[]) λaf af b4=>
    aq (dec 2396745) (.cut 119 _ [(6,false,C,ai ((((m:Int),u)::qs).map iv) ce)] Unit _ (λaf=>[]) (λaf=>[]) λaf af bV=>
    aq (dec 1331525) (.cut 119 _ [(2,false,z.TL,ai (c6 z.told) z.fN)] Unit _ (λaf=>[]) (λaf=>[]) λaf af eO=>
    aq (dec 5453926788) (.cut 119 _ [(2,false,z.TL,ai (c6 z.told) z.fN)] Unit _ (λaf=>[]) (λaf=>[]) λaf af eO=>
    aq (dec 0) (.done (.ok (.ret (.int (ra.a:Int) rb.a))) [(3,z.loc,gK w z.CL z.k1 (some (bE fr tk,.int (y.1:Int) y.2))),(4,z.it,aC "list_iterator" (.ref z.SL) (i+1)),(5,z.CL,ai cv ep)] []))))))))
    (au (ay s1 λaf af tk=>au (ay g5 λaf af aF=>au (ay (g4 (aF+1)) λaf af b4=>au (ay (g3 b4) λaf af af=>au (ay (g1 u) λaf af af=>au (ay g2 λaf af af=>au (bu λhp t' K T hu af af af=>?_)))))))) LA dc ?_ rfl)
   ·intro f hf;obtain rfl:=afc hf;have K:Keeps [z.loc,z.it,z.CL] s.heap hp:=K;have gl:hp.get? z.loc=_:=hu (z.loc,_) (.head _);have gi:hp.get? z.it=_:=hu (z.it,_) (.tail _ (.head _));have gc:hp.get? z.CL=_:=hu (z.CL,_) (.tail _ (.tail _ (.head _)));have L1:=Oz hP T K gl gi gc;have row:∀(n:Nat) (q:Row),z.told[n]?=some q→hp.get? q.a=some (ai (aD q.vs) q.e):=λn q hq=>L1.right.left.get (p:=(false,q.a,_)) (aN.mpr ⟨q,eB hq,rfl⟩);have hT1:fM z.told m=ra.vs.map (·.1):=by delta fM;rw[uO]
    have hT2:fM z.told y.1=rb.vs.map (·.1):=by delta fM;rw[hrb]
    have eo:dM (o0++[(C,((m:Int),u)::qs,ce)])=dM o0++[(m:Int)::qs.map (·.1)]:=by delta dM;rw[aL];rfl
    show wpAny (model pw w) A' (G8 _ _ _ _ _ _ (some (some (.ref ra.a,.ref rb.a)))) _ _ _;delta G8;refine av (wpAny_operateT (ae8 (bh dc.units (by decide)) (row m ra uO) (row y.1 rb hrb) (av (jX (sE ?_)))))
    delta G7;rw[qh];cases heq:(ra.vs.map (·.1)==rb.vs.map (·.1))with
    |true=>
     have ne:∀x∈o0,x.1≠C:=λx hx e=>by
      have nd:(adr (bI (o0++[(C,((m:Int),u)::qs,ce)]))).Nodup:=L1.right.right.nd;rw[afb,aL,cJ]at nd;exact nd.2.2 x.1 (c7 hx) C (.head _) e
     have hm1:(C,((m:Int),u)::qs,ce)∈o0++[(C,((m:Int),u)::qs,ce)]:=kY;have LB:Lies (kt w.params) hp (z.head w (i+1) (some (bE fr tk,.int (y.1:Int) y.2)) cv ep++[(true,C,ai ((((m:Int),u)::qs).map iv) ce)]):=
      L1.left.join (Lies.one (L1.right.right.get (p:=(true,C,_)) (aN.mpr ⟨_,kY,rfl⟩)) (L1.right.right.off (true,C,ai ((((m:Int),u)::qs).map iv) ce) (aN.mpr ⟨_,kY,rfl⟩) rfl) T) λb hb hc=>L1.apart hb (sA hc▸By kY _)
     have xW:aT (o0++[(C,((m:Int),u)::qs++[((y.1:Int),y.2)],ce+1)])=cv:=by rw[←ru];delta aT;rw[aL,aL];rfl
     have xX:rq z.told.length (i+1) (o0++[(C,((m:Int),u)::qs++[((y.1:Int),y.2)],ce+1)]):=⟨by have:=ok.1;rw[fZ]at this⊢;exact sd this,λx hx=>by
      rcases mA hx with hx|hx
      ·exact ok.mono.2 x (inl hx)
      ·rw[sA hx];exact⟨⟨m,u,qs++[((y.1:Int),y.2)],rfl,hm⟩,by rw[fZ];exact ig pK⟩⟩
     have ih2:=ih (i+1) (o0++[(C,((m:Int),u)::qs++[((y.1:Int),y.2)],ce+1)]) ep (some (bE fr tk,.int (y.1:Int) y.2)) hr' xX (vj hi);rw[xW]at ih2;refine BA (b:=90) (l:=z.head w (i+1) (some (bE fr tk,.int (y.1:Int) y.2)) cv ep++[(true,C,ai ((((m:Int),u)::qs).map iv) ce)])
      (aq (dec 136348166) (.cut 119 _ [(5,false,z.CL,ai cv ep)] Unit _ (λaf=>[]) (λaf=>[]) λaf af af=>
      aq (dec 9766736457) (.cut 119 _ [(6,true,C,ai ((((m:Int),u)::qs).map iv) ce)] Unit _ (λaf=>[(6,C,ai ((((m:Int),u)::qs).map iv++[iV (y.1:Int) y.2]) (ce+1))]) (λaf=>[]) λaf af af=>
      aq (dec 0) (.wide 90 _ [(3,true,z.loc,gK w z.CL z.k1 (some (bE fr tk,.int (y.1:Int) y.2))),(4,true,z.it,aC "list_iterator" (.ref z.SL) (i+1)),(5,true,z.CL,ai cv ep),(6,true,C,ai ((((m:Int),u)::qs).map iv++[iV (y.1:Int) y.2]) (ce+1))] (bF×Nat×Option (Nat×aj)) _ (λaf=>[]) λx h1 af af=>
      aq (dec 0) (.done (.ok .next) [] [])))))
      (au (ay (g4 (t'+1)) λaf af af=>au (ay (iJ w C _ ce (.int (y.1:Int) y.2) (by rw[bl];exact Ct hi pK)) λaf af af=>au (cC ih2 (λh a=>?_) (λaf af h' af T af=>⟨(λaf h=>nomatch h),.nil,(λaf h=>nomatch h),T⟩) λx h h1 af af a1 T1 q1=>au (bu λhp2 t2 K2 T2 af af af af=>?_))))) LB hA dc ?_ rfl
     ·have K4:Keeps [z.loc,z.it,z.CL,C] hp h:=a.keeps;refine Ow L1 a.lies.top K4 (λu hu=>?_) (a.lies.get (p:=(true,z.loc,_)) (.head _)) (a.lies.get (p:=(true,z.it,_)) (.tail _ (.head _))) (a.lies.get (p:=(true,z.CL,_)) (.tail _ (.tail _ (.head _)))) (by rw[aL,aL];rfl) λx hx=>?_
      ·exact(jO hu).imp id λx=>x.imp id λx=>x.imp id λ(e:_=C)=>xV e
      ·rcases mA hx with hx|hx
       ·refine K4.2 _ _ (λu=>?_) (L1.right.right.get (p:=(true,x.1,_)) (aN.mpr ⟨x,inl hx,rfl⟩));rcases mA (show x.1∈[z.loc,z.it,z.CL]++[C]from u)with u|u
        ·exact(Hp L1 (By (inl hx) _)) u
        ·exact ne x hx (sA u)
       ·rw[sA hx];show h.get? C=some (ai ((((m:Int),u)::qs++[((y.1:Int),y.2)]).map iv) (ce+1));rw[aL];exact a.lies.get (p:=(true,C,_)) (.tail _ (.tail _ (.tail _ (.head _))))
     ·have em:(o0++[(C,((m:Int),u)::qs++[((y.1:Int),y.2)],ce+1)]).map (·.1)=(o0++[(C,((m:Int),u)::qs,ce)]).map (·.1):=by rw[aL,aL];rfl
      have k:=q1.keeps;rw[em]at k;have g9:Keeps ([z.loc,z.it,z.CL]++(o0++[(C,((m:Int),u)::qs,ce)]).map (·.1)) s.heap h:=(K.mono λa ha=>inl ha).trans (a1.keeps.mono λa ha=>by
       rcases mA (show a∈[z.loc,z.it,z.CL]++[C]from ha)with u|u
       ·exact inl u
       ·exact inr (xV (sA u)))
      have K2:Keeps [] h1 hp2:=K2;refine hR x hp2 t2 T2 ⟨q1.lies.ext T2 K2,λaf=>q1.told (.inl rfl),(g9.trans k).trans K2.ext,?_,λb hb=>?_⟩
      ·rw[q1.is,eo,bP,lz,Hl];have e1:dM (o0++[(C,((m:Int),u)::qs++[((y.1:Int),y.2)],ce+1)])=dM o0++[(m:Int)::qs.map (·.1)++[(y.1:Int)]]:=by delta dM;rw[aL];simp
       have e2:fM z.told (((m:Int)::qs.map (·.1)).headD 0).toNat=fM z.told y.1:=by
        show fM z.told m=_;rw[hT1,hT2];exact eq_of_beq heq
       rw[if_pos e2,e1]
      ·rcases q1.fresh b hb with c|c
       ·exact .inl (em▸c)
       ·exact .inr (bh g9.1 c)
     ·intro R;clear hP hR hT s1 ih ih2 ok xX rt hy hr hr' hi hI hn g1 g2 g3 g4 g5 ru xW LA LB hA dc uO hrb hlen pK hm hm1 kY xV kX hT1 hT2 eo row L1 gl gi gc K hf hu ne heq;generalize (y.1:Int)=y1;generalize (m:Int)=m1;(apply jC hw fr;kernel_rfl!)
    |false=>
     have xW:aT ((o0++[(C,((m:Int),u)::qs,ce)])++[(hp.objs.size,[((y.1:Int),y.2)],0)])=cv++[bg hp.objs.size]:=by rw[←ru];delta aT;rw[aL];rfl
     have xX:rq z.told.length (i+1) ((o0++[(C,((m:Int),u)::qs,ce)])++[(hp.objs.size,[((y.1:Int),y.2)],0)]):=⟨by rw[fZ];exact ig ok.1,λx hx=>by
      rcases mA hx with hx|hx
      ·exact ok.mono.2 x hx
      ·rw[sA hx];exact⟨⟨y.1,y.2,[],rfl,rt⟩,Dg _ _⟩⟩
     have ih2:=ih (i+1) ((o0++[(C,((m:Int),u)::qs,ce)])++[(hp.objs.size,[((y.1:Int),y.2)],0)]) (ep+1) (some (bE fr tk,.int (y.1:Int) y.2)) hr' xX (vj hi);rw[xW]at ih2;have g6:=iJ w z.CL cv ep (.ref hp.objs.size) (by rw[←ru];delta aT;simp;exact VG hi kX)
     refine BA (b:=90) (l:=z.head w (i+1) (some (bE fr tk,.int (y.1:Int) y.2)) cv ep)
      (aq (dec 35328389841414) (.cut 119 _ [(5,true,z.CL,ai cv ep)] Unit _ (λaf=>[(5,z.CL,ai (cv++[bg hp.objs.size]) (ep+1))]) (λaf=>[]) λaf af af=>
      aq (dec 0) (.wide 90 _ [(3,true,z.loc,gK w z.CL z.k1 (some (bE fr tk,.int (y.1:Int) y.2))),(4,true,z.it,aC "list_iterator" (.ref z.SL) (i+1)),(5,true,z.CL,ai (cv++[bg hp.objs.size]) (ep+1)),(6,true,hp.objs.size,ai [.int (y.1:Int) y.2] 0)] (bF×Nat×Option (Nat×aj)) _ (λaf=>[]) λx h1 af af=>
      aq (dec 0) (.done (.ok .next) [] []))))
      (au (ay g6 λaf af af=>au (cC ih2 (λh a=>?_) (λaf af h' af T af=>⟨(λaf h=>nomatch h),.nil,(λaf h=>nomatch h),T⟩) λx h h1 af af a1 T1 q1=>au (bu λhp2 t2 K2 T2 af af af af=>?_)))) L1.left hA dc ?_ rfl
     ·exact OA L1 T a.lies.top a.keeps (a.lies.get (p:=(true,z.loc,_)) (.head _)) (a.lies.get (p:=(true,z.it,_)) (.tail _ (.head _))) (a.lies.get (p:=(true,z.CL,_)) (.tail _ (.tail _ (.head _)))) (bk _) (a.lies.get (p:=(true,hp.objs.size,_)) (.tail _ (.tail _ (.tail _ (.head _)))))
     ·have K2:Keeps [] h1 hp2:=K2;have g9:=K.trans a1.keeps;refine hR x hp2 t2 T2 ⟨q1.lies.ext T2 K2,λaf=>q1.told (.inl rfl),((g9.mono λa ha=>inl ha).trans' q1.keeps λb hb=>?_).trans K2.ext,?_,λb hb=>?_⟩
      ·rw[aL,←fP]at hb;rcases mA hb with hb|hb
       ·exact .inl hb
       ·exact .inr (sA hb▸K.1)
      ·rw[q1.is,eo,bP,lz,Hl];have e1:dM ((o0++[(C,((m:Int),u)::qs,ce)])++[(hp.objs.size,[((y.1:Int),y.2)],0)])=dM o0++[(m:Int)::qs.map (·.1)]++[[(y.1:Int)]]:=by rw[←eo];delta dM;rw[aL];rfl
       have e2:¬fM z.told (((m:Int)::qs.map (·.1)).headD 0).toNat=fM z.told y.1:=by
        show ¬fM z.told m=_;rw[hT1,hT2];exact λe=>by rw[e]at heq;simp at heq
       rw[if_neg e2,e1]
      ·rcases q1.fresh b hb with c|c
       ·rw[aL]at c;rcases mA c with c|c
        ·exact .inl c
        ·exact .inr (sA c▸K.1)
       ·exact .inr (bh g9.1 c)
     ·intro R;clear hP hR hT s1 ih ih2 ok xX rt hy hr hr' hi hI hn g1 g2 g3 g4 g5 g6 ru xW LA hA dc uO hrb hlen pK hm kY xV kX hT1 hT2 eo row L1 gl gi gc K hf hu heq;generalize (y.1:Int)=y1;generalize (m:Int)=m1;(apply jC hw fr;kernel_rfl!)
   ·intro R;clear hP hR hT s1 ih ok rt hy hr hr' hi hI hn g1 g2 g3 g4 g5 ru LA dc uO hrb hlen pK hm kY xV kX;generalize (y.1:Int)=y1;generalize (m:Int)=m1;(apply jC hw fr;kernel_rfl!)
noncomputable def six(t:Nat):List aj:=[.int 0 t,.int 1 (t+1),.int 2 (t+2),.int 3 (t+3),.int 4 (t+4),.int 5 (t+5)]
theorem OG(w0:ao)(fb fc:Bool)(L r e t u v:Nat)(X:aj)(hne:L≠r){Ac A:aV}{s:aA}{R:aW→aA→Prop}(hA0:bK 99 Ac)(hA:bK 100 A)(hT:aR (kt (ak w0 fb fc).params) s.heap)(hP:Lies (kt (ak w0 fb fc).params) s.heap [(true,L,ai [] e),(false,r,kQ 6 t u v)])
  (hR:∀x h' t',aR (kt (ak w0 fb fc).params) h'→Keeps [L] s.heap h'→h'.get? L=some (ai (six x) (e+8))→R (.ok (.ret X)) ⟨h',s.gens,s.drawn,t',s.os⟩):
  wpAny (model pw (ak w0 fb fc)) A (zx (.ref L) (.ref r) X) (λfin s'=>match fin with|.done f=>R (.ok f) s'|.again c'=>c'.quiet=true∧gU (model pw (ak w0 fb fc)) Ac c' R s') (λe s'=>R (.error e) s') s:=by
 unfold zx;have hr:s.heap.get? r=some (kQ 6 t u v):=hP.get (p:=(false,r,_)) (.tail _ (.head _));refine av (vK (T:="range") ⟨_,hr,rfl⟩ ?_);have h1:Builtin.List.listSameRef (.ref L) (.ref r)=false:=by
  show(L==r)=false;simpa using hne
 rw[h1];rw[if_neg (by decide),ZFast.ze8711993805878244202,ZFast.ze15112759502256325868,ZFast.ze16271295295120926622,ZFast.ze922294955767894045]
 refine BA (b:=99) (l:=[(true,L,ai [] e),(false,r,kQ 6 t u v)]) (aq (dec 29178387876353195161198366196361201148552522379462011797879349797930706337074506050777689085343150106668903385222222470953663251819566613150798852291336804885947026743100618348445956) (.done (.ok (.ret X)) [(0,L,ai (six (s.toks+2)) (e+8))] [])) (au (bu λhp t' K T hu af af af=>hR (s.toks+2) hp t' T K (hu (L,_) (.head _)))) hP hA0 hA ?_ rfl;intro R;clear hP hT hR hA hr h1 hne;(apply ck (fb:=fb);kernel_rfl!)
theorem Lies.seen{kt:bZ}{h:az}{a:Nat}{o:Obj}(e:h.get? a=some o)(T:aR kt h):Lies kt h [(false,a,o)]:=⟨λq hq=>by obtain rfl:=sA hq;exact e,by simp,(λp hp hm=>by obtain rfl:=sA hp;cases hm),T⟩
theorem bK.in1{b:Nat}{A:aV}(h:bK b A):bK (b+1) A.in1:=⟨λq=>h.hd (yT q),bh h.depth Rp,by show A.units+1≤_;exact U3 h.units,h.fr⟩
theorem afj(w0:ao)(fb fc:Bool)(r t u v:Nat):Spec (ak w0 fb fc) 98 (.builtin "proto.collect" ⟨[.ref r],[]⟩) [(false,r,kQ 6 t u v)] (Nat×Nat) (λx=>.ok (.ret (.ref x.1))) (λaf=>[]) (λx=>[(x.1,ai (six x.2) 8)]):=by
 intro A s R hA hT hP _ _ hR;have ho:s.heap.get? r=some (kQ 6 t u v):=cL hP;refine cN F.entry_proto_collect ?_;rw[gO F.plain_proto_collect _];show wpAny _ A.in1 (newList []>>=λx=>again (.builtin "list.__iadd__" ⟨[x,.ref r],[]⟩)) _ _ s;refine av (gu ?_);refine aJ ⟨vJ zC _,cN F.entry_list_iadd ?_⟩;rw[gO zC _];have T0:aR (kt (ak w0 fb fc).params) (s.heap.push (ai [] 0)):=λa o e=>gV _ (hT a o e);refine OG w0 fb fc s.heap.objs.size r 0 t u v (.ref s.heap.objs.size) (qa (cK ho)) (hA.le (jU _)) (hA.in1.le (by decide)) T0 ((Lies.one (jg _ rfl) (gR hT (bk _)) T0).join (Lies.seen (gV _ ho) T0) λb hb hc=>?_) λx h' t' T' K g=>?_
 ·exact qa (cK ho) ((sA hb).symm.trans (sA hc))
 ·exact hR (s.heap.objs.size,x) h' t' ⟨bh (Keeps.push [] s.heap (ai [] 0)).1 K.1,λb o af e=>K.2 b o (λm=>pZ (cK e) (sA m)) (gV _ e)⟩ (λaf h=>nomatch h) (λp hp=>by rw[sA hp];exact g) (λp hp=>by rw[sA hp];exact bk _) (by simp)
noncomputable def vI(t n:Nat):aj:=.int (n:Int) (t+n)
theorem afk(w:ao)(f fc cs ct TL fN:Nat)(v0:aj)(tq:Nat)(r:List aj)(told:List Row)(hl:told.length≤900)(t:Nat):
  xR w 99 f told.length (vI t) (fM told) (adr (G5 f fc cs ct TL fN v0 tq r (c6 told)++ju told)) (λh=>Lies (kt w.params) h (G5 f fc cs ct TL fN v0 tq r (c6 told)++ju told))
   (λi k h=>∃q,told[i]?=some q∧k=q.a∧h.get? k=some (ai (aD q.vs) q.e)) (.type "list"):=by
 refine⟨λn af=>rfl,λU h h' T hU K P=>P.keep T K λp hp m=>hU _ m (mD hp),?_,λh P u hu=>P.lt hu,?_,?_,by decide,?_⟩
 ·rintro U i k h h' T hU K P ⟨q,e,rfl,g⟩
  exact⟨q,e,rfl,K.2 _ _ (λm=>(hU _ m).2 rfl) g⟩
 ·intro i hi A s R hA hT hP hR;have e:=fY hi;refine ae1 w f fc cs ct TL fN v0 tq r (c6 told) (by delta c6;rw[bl];exact E4 hl) i (t+i) told[i].a (by delta c6;rw[dK,e];rfl) A s R (hA.le (by decide)) hT hP.left.has hP.left.nd hP.left.off λaf h' t' k af af af af=>?_
  have k:Keeps [] s.heap h':=k;exact hR told[i].a h' t' (hT.keep k λaf h=>nomatch h) ⟨k,⟨told[i],e,rfl,k.2 _ _ (λh=>nomatch h) ((λe P=>P.right.get (p:=(false,_,_)) (aN.mpr ⟨_,eB e,rfl⟩)) e hP)⟩,.inl (by
   rw[uN];exact inr (aN.mpr ⟨_,aN.mpr ⟨_,eB e,rfl⟩,rfl⟩))⟩
 ·rintro i k h ⟨q,e,rfl,g⟩
  exact⟨_,g,rfl⟩
 ·rintro i j k l hi hj hij A s E Q hA hT hP ⟨q,e,rfl,g⟩ ⟨p,e',rfl,g'⟩ hQ
  have hne:q.a≠p.a:=λeq=>by
   have nd:(told.map Row.a).Nodup:=by
    have:=hP.right.nd;unfold ju at this;rw[bQ]at this;exact this
   rw[yE,vn]at nd;obtain⟨h1,e1⟩:=kD.mp e;obtain⟨h2,e2⟩:=kD.mp e';rcases De hij with l|l
   ·exact nd i j (by simpa using h1) (by simpa using h2) l (by simp[e1,e2,eq])
   ·exact nd j i (by simpa using h2) (by simpa using h1) l (by simp[e1,e2,eq])
  refine aeK w q.a p.a q.vs p.vs q.e p.e (hA.le (by decide)) hT hne g g' λh' t' k=>?_
  have:=hQ h' t' (hT.keep k λaf h=>nomatch h) k;unfold fM at this;rw[e,e']at this;exact this
theorem Wide.weak{w:ao}{b:Nat}{c:bf}{Pre:az→Prop}{X Y:Type}{res:X→aW}{res':Y→aW}{Post:X→az→az→Prop}{w5:Y→az→az→Prop}(W:Wide w b c Pre X res Post)
  (g:∀x h h',Pre h→Post x h h'→∃y,res' y=res x∧w5 y h h'):Wide w b c Pre Y res' w5:=λA s R hA hT hP hR=>W A s R hA hT hP λx h' t' T q=>by
 refine aS (g x s.heap h' hP q) λy e p=>?_;rw[←e];exact hR y h' t' T p
theorem Lies.sub{kt:bZ}{h:az}{l l':Led}(H:Lies kt h l)(s:l'.Sublist l):Lies kt h l':=H.part (λp hp=>.inl (s.subset hp)) (s.map _)
theorem Lies.rev{kt:bZ}{h:az}{l:Led}(H:Lies kt h l):Lies kt h l.reverse:=
 ⟨λq hq=>H.has q (by rw[List.map_reverse]at hq;exact List.mem_reverse.mp hq),by rw[List.map_reverse];exact(List.reverse_perm _).nodup_iff.mpr H.nd,λp hp hm=>H.off p (List.mem_reverse.mp hp) hm,H.top⟩
noncomputable def jc(t:Nat)(o:List Nat):List (Nat×Nat):=o.map λn=>(n,t+n)
theorem OH(t:Nat)(o:List Nat):o.map (vI t)=aD (jc t o):=by
 delta aD jc;rw[bQ];rfl
def OI(sz tk:Nat):List aj:=[.str iX (tk+4),.int 199 0,.int 1 0,.int 0 0,.int 0 0,.int 19 0,.ref (sz+2),.bool true,.int 276 0,.ref (sz+3),.none,.ref (sz+4),.ref (sz+5),.ref (sz+6),.int ((tk+7:Nat):Int) 0,.int 199 0,.str iX (tk+8)]
def OJ(sz tk:Nat):Obj:=Oo (.str kW (tk+2)) (tk+3) (OI sz tk)
noncomputable def BC(sz:Nat):Obj:=⟨.none,none,.fields ⟨[.int 199 0,.int 46 0,.ref (sz+7)]⟩,⟨[]⟩⟩
noncomputable def xY(T:Nat→List Nat)(rs:List (List Int)):Prop:=∃o:List Nat,o.length=6∧(∀n∈o,n<6)∧o.Pairwise (cH T)∧rs=o.foldl (jv T) []
noncomputable def gk(vs:List aj):Obj:=⟨.none,none,.fields ⟨vs⟩,⟨[]⟩⟩
theorem afl{l:List Nat}(h:l.Nodup)(I:List Nat)(n:Nat)(hn:l.length=n)(c:I.Nodup∧∀i∈I,i<n):(I.map λi=>l.getD i 0).Nodup:=by
 subst hn;refine yJ.mpr (c.1.imp_of_mem λ{i j} hi hj ne e=>ne ?_);rw[CM,CM,fY (c.2 i hi),fY (c.2 j hj)]at e;exact(List.getElem_inj h).mp e
theorem afm(w0:ao)(fb fc:Bool)(TL fN:Nat)(told:List Row)(h6:told.length=6):
  Wide (ak w0 fb fc) 80 (.call (.ref 229) ⟨[.ref TL],[]⟩) (λh=>Lies (kt (ak w0 fb fc).params) h ([(false,TL,ai (c6 told) fN),(true,224,fy)]++ju told)) (Nat×bF×Nat) (λx=>.ok (.ret (.ref x.1)))
   (λx h h'=>Lies (kt (ak w0 fb fc).params) h' ([(true,x.1,ai (aT x.2.1) x.2.2)]++bI x.2.1)∧Keeps [224] h h'∧xY (fM told) (dM x.2.1)∧(∀a∈x.1::x.2.1.map (·.1),h.objs.size≤a)∧∃vs,h'.get? 224=some (gk vs)):=by
 have g1:=nu (ak w0 fb fc) TL (c6 told) fN 6 (by delta c6;rw[bl,h6]) (by decide)
 have g2:=λr t u=>afj w0 fb fc r t u (t+1);have g3:∀z:CZ,z.told.length≤900→(∀p∈z.items,p.1<z.told.length)→z.items≠[]→z.items.length≤900→Wide (ak w0 fb fc) 90 (Bx z.it z.loc z.cl) (λh=>Lies (kt (ak w0 fb fc).params) h (z.led (ak w0 fb fc) 0 none [] 0 [])) (bF×Nat×Nat×aj) (λaf=>.ok .next) (λx h h'=>OC (ak w0 fb fc) z [] none z.items (x.1,x.2.1,some x.2.2) h h'):=λz hn hI hne hl=>
  (afd w0 fb fc z hn hI z.items 0 [] 0 none rfl ⟨bk _,λaf h=>nomatch h⟩ (Sl hl)).weak λx h h' af q=>by
   obtain⟨p,hp⟩:=sD.mp (q.told (.inr hne));obtain⟨x1,x2,x3⟩:=x;obtain rfl:x3=some p:=hp;exact⟨(x1,x2,p),rfl,q⟩
 generalize hw:ak w0 fb fc=w at*;refine d7 rfl rfl λA s R hT hP hR=>?_;have hs:=λaU aX v0 tq r pI ct t=>Oi (afk w (aU+8) pI (s.heap.objs.size+1) ct TL fN v0 tq r told (Cd h6) t) (RQ h6) (RT h6) aX 0;rw[h6]at hs;have old:∀b∈adr (ju told),b<s.heap.objs.size∧b≠224:=λb hb=>⟨hP.right.lt hb,λe=>hP.apart (a:=224) (.tail _ (.head _)) (e▸hb)⟩;have keepR:∀{U:List Nat} {h h':az},(∀u∈U,u=224∨s.heap.objs.size≤u)→Keeps U h h'→aR (kt w.params) h'→Lies (kt w.params) h (ju told)→Lies (kt w.params) h' (ju told):=λhU K T L=>L.keep T K λp hp m=>by
  have o:=old _ (mD hp);rcases hU _ m with e|e
  ·exact o.2 e
  ·exact vA o.1 e
 have hTL:TL<s.heap.objs.size:=hP.lt (.head _);refine⟨_,hP.left,aq (dec 476626564966838012468129177665) (.cut 118 _ [(0,false,TL,ai (c6 told) fN)] Nat _ (λaf=>[]) (λaf=>[]) λux aU tk0=>
  aq (dec 2679555090102425920179511052594086402) (.cut 98 _ [(5,false,aU,kQ 6 tk0 ux (tk0+1))] (Nat×Nat) _ (λaf=>[]) (λx=>[(x.1,ai (six x.2) 8)]) λx aX aF=>
  aq (dec 73873) (.wide 98 _ [(0,false,TL,ai (c6 told) fN),(1,true,224,BC aU),(2,true,s.heap.objs.size,gK w (s.heap.objs.size+2) s.toks none),(3,false,s.heap.objs.size+1,ic (.ref TL)),(4,true,s.heap.objs.size+2,ai [] 0),(12,false,aU+7,OJ aU tk0),(13,false,aU+8,iA (G4 (s.heap.objs.size+1) (aU+7) (aU+1))),(15,true,aX,ai (six x.2) 0)] (List Nat×Nat) _
   (λx2=>[(false,TL,ai (c6 told) fN),(true,224,BC aU),(true,s.heap.objs.size,gK w (s.heap.objs.size+2) s.toks none),(false,s.heap.objs.size+1,ic (.ref TL)),(true,s.heap.objs.size+2,ai [] 0),(true,aX,ai (aD (jc x.2 x2.1)) x2.2)]) λx2 h2 aQ b4=>
  aq (dec 151552520) (.wide 90 _ [(0,false,TL,ai (c6 told) fN),(1,true,224,BC aU),(2,true,s.heap.objs.size,gK w (s.heap.objs.size+2) s.toks none),(3,false,s.heap.objs.size+1,ic (.ref TL)),(4,true,s.heap.objs.size+2,ai [] 0),(5,false,aX,ai (aD (jc x.2 x2.1)) x2.2),(6,true,aQ,aC "list_iterator" (.ref aX) 0)] (bF×Nat×Nat×aj) _
   (λx3=>[(true,s.heap.objs.size,gK w (s.heap.objs.size+2) s.toks (some x3.2.2)),(true,s.heap.objs.size+2,ai (aT x3.1) x3.2.1)]) λx3 h3 af af=>
  aq (dec 3) (.done (.ok (.ret (.ref (s.heap.objs.size+2)))) [(1,s.heap.objs.size+2,ai (aT x3.1) x3.2.1)] []))))),
  au (ay g1 λux aU tk0=>au (ay (g2 aU tk0 ux) λx aX aF=>au (cC (hs aU aX (.str kW (tk0+2)) (tk0+3) (OI aU tk0) (aU+7) (aU+1) x.2) (λh a=>?pre) (λx2 h h' a T q=>?led) λx2 h1 h2 aQ b4 a2 T2 q2=>au (cC (g3 ⟨aX,x2.2,aQ,s.heap.objs.size,s.heap.objs.size+1,s.heap.objs.size+2,s.toks,TL,fN,told,jc x.2 x2.1⟩ ?c1 ?c2 ?c3 ?c4) (λh a=>?afo) (λx3 h h' a T q=>?afp) λx3 h3 h4 af af a4 T4 q4=>au (bu λhp t' K T hu af af af=>?fin))))),?run⟩
 case run=>
  clear hP hR hT g1 g2 g3 hs h6 old keepR hTL;(apply cO hw;kernel_rfl!)
 case pre=>
  have f1:s.heap.objs.size≤aU+7:=a.fresh (12,_) (.tail _ (.tail _ (.tail _ (.tail _ (.tail _ (.head _)))))) (show 2≤12 from by decide)
  have l4:Lies (kt w.params) h [(false,TL,ai (c6 told) fN),(false,s.heap.objs.size+1,ic (.ref TL)),(false,aU+7,OJ aU tk0),(false,aU+8,iA (G4 (s.heap.objs.size+1) (aU+7) (aU+1)))]:=
   a.lies.sub (.cons_cons _ (.cons _ (.cons _ (.cons_cons _ (.cons _ (.cons_cons _ (.cons_cons _ (.cons _ .slnil))))))))
  have J:=l4.rev.join (keepR (U:=[224]) (λu hu=>.inl (sA hu)) a.keeps a.lies.top hP.right) λb hb hc=>by
   have o:=old b hc;have hb:b∈[aU+8,aU+7,s.heap.objs.size+1,TL]:=hb;have hb:=jO hb;rcases hb with rfl|rfl|rfl|rfl
   ·exact TR o.1 f1
   ·exact TQ o.1 f1
   ·exact vg o.1
   ·exact hP.apart (.head _) hc
  refine⟨⟨(a.lies.sub (.cons _ (.cons _ (.cons _ (.cons _ (.cons _ (.cons _ (.cons _ (.cons_cons _ .slnil))))))))),λm=>?_⟩,J⟩;rw[uN]at m;rcases mA m with m|m
  ·have m:aX∈[aU+8,aU+7,s.heap.objs.size+1,TL]:=m;have nd:[TL,224,s.heap.objs.size,s.heap.objs.size+1,s.heap.objs.size+2,aU+7,aU+8,aX].Nodup:=a.lies.nd;rw[show[TL,224,s.heap.objs.size,s.heap.objs.size+1,s.heap.objs.size+2,aU+7,aU+8,aX]=[TL,224,s.heap.objs.size,s.heap.objs.size+1,s.heap.objs.size+2,aU+7,aU+8]++[aX]from rfl,cJ]at nd;refine nd.2.2 aX ?_ aX (.head _) rfl;simp only[aM,bO,or_false]at m⊢;refine dw m (λm=>?_) λm=>dw m (λm=>?_) λm=>dw m (λm=>?_) λm=>?_<;>simp[m]
  ·exact vA (old _ m).1 (a.fresh (15,_) (.tail _ (.tail _ (.tail _ (.tail _ (.tail _ (.tail _ (.tail _ (.head _)))))))) (show 2≤15 from by decide))
 case led=>
  refine Jw q λg k af=>?_;have l6:Lies (kt w.params) h ([(false,TL,ai (c6 told) fN),(true,224,BC aU),(true,s.heap.objs.size,gK w (s.heap.objs.size+2) s.toks none),(false,s.heap.objs.size+1,ic (.ref TL)),(true,s.heap.objs.size+2,ai [] 0)]++(true,aX,ai (six x.2) 0)::[]):=
   a.lies.sub (.cons_cons _ (.cons_cons _ (.cons_cons _ (.cons_cons _ (.cons_cons _ (.cons _ (.cons _ (.cons_cons _ .slnil))))))))
  exact l6.swap T k (OH _ _▸g) λb hb=>.inl (sA hb)
 case c1=>show told.length≤900;exact Cd h6
 case c2=>
  intro p hp;refine aS (aN.mp hp) λn hn aG=>?_;subst aG;show n<told.length;rw[h6];exact q2.2.2.1 n hn
 case c3=>
  intro e;have:=q2.2.1;rw[vp.mp e]at this;cases this
 case c4=>
  show(jc x.2 x2.1).length≤900;delta jc;rw[bl,q2.2.1];decide
 case afo=>
  have K1:Keeps [224] s.heap h1:=a2.keeps;have f2:s.heap.objs.size≤aX:=a2.fresh (15,_) (.tail _ (.tail _ (.tail _ (.tail _ (.tail _ (.tail _ (.tail _ (.head _)))))))) (show 2≤15 from by decide)
  have r3:=keepR (λu hu=>by
   apply fX hu
   ·exact .inl rfl
   ·exact .inr (bk _)
   ·exact .inr (sj _ _)
   ·exact .inr f2) a.keeps a.lies.top (keepR (U:=[aX]) (λu hu=>.inr (sA hu▸f2)) q2.1.2 T2 (keepR (U:=[224]) (λu hu=>.inl (sA hu)) K1 a2.lies.top hP.right))
  have hd:Lies (kt w.params) h [(false,aX,ai (aD (jc x.2 x2.1)) x2.2),(false,s.heap.objs.size+1,ic (.ref TL)),(false,TL,ai (c6 told) fN),(true,s.heap.objs.size,gK w (s.heap.objs.size+2) s.toks none),(true,aQ,aC "list_iterator" (.ref aX) 0),(true,s.heap.objs.size+2,ai [] 0)]:=by
   refine a.lies.pick (λp hp=>.inl ?_) ?_
   ·apply nV hp
    ·exact .tail _ (.tail _ (.tail _ (.tail _ (.tail _ (.head _)))))
    ·exact .tail _ (.tail _ (.tail _ (.head _)))
    ·exact .head _
    ·exact .tail _ (.tail _ (.head _))
    ·exact .tail _ (.tail _ (.tail _ (.tail _ (.tail _ (.tail _ (.head _))))))
    ·exact .tail _ (.tail _ (.tail _ (.tail _ (.head _))))
   ·exact afl a.lies.nd [5,3,0,2,6,4] 7 rfl (by decide)
  show Lies (kt w.params) h (_++(ju told++[]));rw[dZ];refine hd.join r3 λb hb hc=>?_;have o:=old b hc;have hb:b∈[aX,s.heap.objs.size+1,TL,s.heap.objs.size,aQ,s.heap.objs.size+2]:=hb;have hb:=CF hb;rcases hb with rfl|rfl|rfl|rfl|rfl|rfl
  ·exact E0 o.1 f2
  ·exact vg o.1
  ·exact hP.apart (.head _) hc
  ·exact vh o.1
  ·exact HS o.1 K1.1 q2.1.2.1 (a.fresh (6,_) (.tail _ (.tail _ (.tail _ (.tail _ (.tail _ (.tail _ (.head _))))))) (bk 6))
  ·exact H8 o.1
 case afp=>exact q.lies.left
 case fin=>
  have K1:Keeps [224] s.heap h1:=a2.keeps;have K3:Keeps [224,s.heap.objs.size,s.heap.objs.size+2,aX] h2 h3:=a4.keeps;have K:Keeps [s.heap.objs.size,s.heap.objs.size+2] h4 hp:=K;have f2:s.heap.objs.size≤aX:=a2.fresh (15,_) (.tail _ (.tail _ (.tail _ (.tail _ (.tail _ (.tail _ (.tail _ (.head _)))))))) (show 2≤15 from by decide)
  have f3:h2.objs.size≤aQ:=a4.fresh (6,_) (.tail _ (.tail _ (.tail _ (.tail _ (.tail _ (.tail _ (.head _))))))) (bk 6);have s1:=K1.1;have s12:=q2.1.2.1;have Kq:Keeps [s.heap.objs.size,aQ,s.heap.objs.size+2] h3 h4:=q4.keeps;have KK:Keeps [224] s.heap hp:=(((K1.trans' q2.1.2 λb hb=>.inr (sA hb▸f2)).trans' K3 λb hb=>by
   apply fX hb
   ·exact .inl (.head _)
   ·exact .inr (bk _)
   ·exact .inr (sj _ _)
   ·exact .inr f2).trans' Kq λb hb=>by
   apply cB hb
   ·exact .inr (bk _)
   ·exact .inr (CD s1 s12 f3)
   ·exact .inr (sj _ _)).trans' K λb hb=>by
   apply bJ hb
   ·exact .inr (bk _)
   ·exact .inr (sj _ _)
  have ql:Lies (kt w.params) h4 ([(true,s.heap.objs.size,gK w (s.heap.objs.size+2) s.toks (some x3.2.2)),(true,s.heap.objs.size+2,ai (aT x3.1) x3.2.1)]++bI x3.1):=q4.lies;refine hR (s.heap.objs.size+2,x3.1,x3.2.1) hp t' T ⟨(Lies.one (hu (s.heap.objs.size+2,ai (aT x3.1) x3.2.1) (.head _)) (gR hT (sj _ _)) T).join (ql.right.keep T K λp hp m=>ql.apart (a:=p.2.1) m (mD hp)) λb hb hc=>ql.apart (a:=b) (sA hb▸.tail _ (.head _)) hc,KK,⟨x2.1,q2.2.1,q2.2.2.1,q2.2.2.2,?_⟩,λb hb=>?_,?_⟩;rotate_left 2
  ·have lt:224<s.heap.objs.size:=hP.lt (.tail _ (.head _));exact⟨_,K.2 _ _ (λm=>by exact Q8 lt (b3 m)) (Kq.2 _ _ (λm=>by exact Xu f3 s1 s12 lt (fB m)) (a4.lies.get (p:=(true,224,_)) (.tail _ (.head _))))⟩
  ·have e:=q4.is;have e2:(jc x.2 x2.1).map (·.1)=x2.1:=by delta jc;rw[bQ];exact Dd _
   rw[e2]at e;exact e
  ·refine lu hb ?_ λhb=>?_
   ·exact sj _ _
   ·rcases q4.fresh b hb with c|c
    ·cases c
    ·exact XI s1 s12 K3.1 c
theorem afq(w:ao)(l sl:Nat)(vs:List aj)(ep u k:Nat)(hl:vs.length≤1000):Spec w 119 (.builtin "list.__getitem__" ⟨[.ref l,.ref sl],[]⟩) [(false,l,ai vs ep),(false,sl,fq .none (.int (k:Int) u))] Nat (λx=>.ok (.ret (.ref x))) (λaf=>[]) (λx=>[(x,ai (vs.take k) 0)]):=by
 intro A s R hA hT hP _ _ hR;have hos:s.heap.get? sl=some (fq .none (.int (k:Int) u)):=hP (sl,_) (.tail _ (.head _));have OL:s.TypeIs (.ref sl) "slice":=⟨_,hos,rfl⟩;refine jE (by decide+kernel) Ds ?_
 show wpAny _ _ (J2 (.ref sl)>>=_) _ _ s;refine av ?_;unfold J2;refine av (wpAny_specialOf OL slice_no_index ?_);dsimp only[Option.isNone_none,if_true];refine aJ ?_;show wpAny _ _ (typeOf (.ref sl)>>=_) _ _ s;refine av (vK OL ?_);rw[if_neg (by decide),listSliceParts_eq]
 refine av (av (gM hos rfl (x:=.none) rfl (av (Dw .none ?_))));refine c9 (decide_eq_false (by decide)) ?_
 refine av (gM hos rfl (x:=.none) rfl (av (Dw .none ?_)));refine av (gM hos rfl (x:=.int (k:Int) u) rfl (av (Dw (.int _ _) (aJ ?_))));refine av (zp (cL hP) rfl ?_);refine av (kH (sliceIndices_raw none (some (k:Int)) none _ (by trivial)) ?_)
 have e:(((sliceRange (sliceBounds none (some (k:Int)) none vs.length).1 (sliceBounds none (some (k:Int)) none vs.length).2.1 (sliceBounds none (some (k:Int)) none vs.length).2.2).filterMap ((⟨vs⟩:Array aj)[·]?)).toArray)=(vs.take k).toArray:=slicePick_upto' ⟨vs⟩ k;refine av (gu (aJ ⟨_,rfl,?_⟩) ?_)
 ·show R _ {s with heap:=s.heap.push {cls:=.type "list",data:=.seq _}}
  rw[show(⟨vs⟩:Array aj).size=vs.length from rfl,e];exact wL (o:=ai (vs.take k) 0) s.heap.objs.size hR rfl _ rfl
 ·show Array.size _≤_;rw[show(⟨vs⟩:Array aj).size=vs.length from rfl,e,List.size_toArray,rX,fQ];exact UZ hl
noncomputable def xZ:Str:=⟨⟨[108,97,119,46,60,108,111,99,97,108,115,62,46]⟩⟩
def afr(it acc aB loc:Nat):bf:=.compLoop (rhs (sub 0 jr)) 0 (.ref it) (.ref acc) (Av (rhs (sub 0 jr)) xZ 233 aB loc [])
def OM(it acc aB loc:Nat):bf:=.compStart (rhs (sub 0 jr)) 0 (.ref it) (.ref acc) (Av (rhs (sub 0 jr)) xZ 233 aB loc [])
noncomputable def jw(n:Int):Nat:=(n.fmod 1000000).toNat
theorem afs(n:Int):n.fmod 1000000=(jw n:Int):=(Int.toNat_of_nonneg (Dl n (by decide))).symm
noncomputable abbrev OQ(b:Bool)(vs:List (Nat×Nat))(r:List (Int×Nat)):Type:={q:List (Nat×Nat)×Nat×Option (Nat×aj)//(q.1.map (·.1)=vs.map (·.1)++r.map λp=>jw p.1)∧q.2.2.isSome=(b||!r.isEmpty)}
noncomputable abbrev BD(r:List (Int×Nat)):Type:={q:List (Nat×Nat)×Nat×(Nat×aj)//q.1.map (·.1)=r.map λp=>jw p.1}
theorem aft(w:ao)(src it acc aB loc:Nat)(items:List (Int×Nat))(hi:items.length≤900):∀(r:List (Int×Nat)) (i:Nat) (vs:List (Nat×Nat)) (ep:Nat) (fr:Option (Nat×aj)),items.drop i=r→i+r.length=items.length→vs.length+r.length≤900→
  Spec w 90 (afr it acc aB loc) [(false,src,ai (items.map iv) 0),(true,it,aC "list_iterator" (.ref src) i),(true,acc,ai (aD vs) ep),(true,aB,bz w iI fr)] (OQ fr.isSome vs r) (λaf=>.ok .next)
   (λq=>[(it,aC "list_iterator" .none items.length),(acc,ai (aD q.1.1) q.1.2.1),(aB,bz w iI q.1.2.2)]) (λaf=>[]):=by
 intro r;induction r with
 |nil=>
  intro i vs ep fr hr hn hv;obtain rfl:i=items.length:=hn;have s1:=oQ w it src items.length (items.map iv) 0 (by simp)
  refine cX rfl rfl λA s R hR=>?_;refine⟨aq (dec 260) (.cut 110 _ [(0,false,src,ai (items.map iv) 0),(1,true,it,aC "list_iterator" (.ref src) items.length)] Nat _ (λaf=>[(1,it,aC "list_iterator" .none items.length)]) _ λaf af af=>
   aq (dec 8) (.done (.ok .next) [(1,it,aC "list_iterator" .none items.length),(2,acc,ai (aD vs) ep),(3,aB,bz w iI fr)] [])),
   au<|ay s1 λaf af af=>au<|cE hR ⟨(vs,ep,fr),(dZ _).symm,(sy _).symm⟩ rfl rfl rfl rfl,?_⟩
  clear hR s1 hr hv hi;generalize items.length=n;kernel_rfl!
 |cons y r ih=>
  intro i vs ep fr hr hn hv;have hn:i+(r.length+1)=items.length:=hn;have hv:vs.length+(r.length+1)≤900:=hv;have hy:items[i]?=some y:=by
   have:=congrArg (λl=>l[0]?) hr;simpa using this
  have hr':items.drop (i+1)=r:=by
   rw[←iR,hr];rfl
  have s1:=lG w it src i (items.map iv) 0 (.int y.1 y.2) (by rw[dK,hy];rfl)
  have s2:=λu=>tT w y.1 1000000 y.2 u (jw y.1) (by decide) (afs y.1)
  have s3:=λx=>iJ w acc (aD vs) ep (.int (jw y.1:Int) x) (by unfold aD;rw[bl];exact IA hv)
  have s4:=λx cQ=>ih (i+1) (vs++[(jw y.1,x)]) (ep+1) cQ hr' (E7 hn) (by rw[fZ];show vs.length+1+r.length≤900;exact vj hv)
  have e3:=λx=>Gj vs (jw y.1) x;generalize (jw y.1:Int)=d at*;refine cX rfl rfl λA s R hR=>?_;refine⟨aq (dec 260) (.cut 119 _ [(0,false,src,ai (items.map iv) 0),(1,true,it,aC "list_iterator" (.ref src) i)] Unit _ (λaf=>[(1,it,aC "list_iterator" (.ref src) (i+1))]) (λaf=>[]) λaf af tk=>
   aq (dec 24966) (.cut 119 _ [] Nat _ (λaf=>[]) (λaf=>[]) λx af af=>
   aq (dec 5) (.cut 119 _ [(2,true,acc,ai (aD vs) ep)] Unit _ (λaf=>[(2,acc,ai (aD (vs++[(jw y.1,x)])) (ep+1))]) (λaf=>[]) λaf af af=>
   aq (dec 0) (.cut 90 _ [(0,false,src,ai (items.map iv) 0),(1,true,it,aC "list_iterator" (.ref src) (i+1)),(2,true,acc,ai (aD (vs++[(jw y.1,x)])) (ep+1)),(3,true,aB,bz w iI (some (bE fr tk,.int y.1 y.2)))] (OQ true (vs++[(jw y.1,x)]) r) _
    (λq=>[(1,it,aC "list_iterator" .none items.length),(2,acc,ai (aD q.1.1) q.1.2.1),(3,aB,bz w iI q.1.2.2)]) (λaf=>[]) λq af af=>
   aq (dec 0) (.done (.ok .next) [(1,it,aC "list_iterator" .none items.length),(2,acc,ai (aD q.1.1) q.1.2.1),(3,aB,bz w iI q.1.2.2)] []))))),
   au<|ay s1 λaf af tk=>au<|ay (s2 (tk+1)) λx af af=>au<|ay (e3 x▸s3 x) λaf af af=>au<|ay (s4 x (some (bE fr tk,.int y.1 y.2))) λq af af=>au<|cE hR ⟨q.1,by rw[q.2.1,aL,bP,fP];rfl,by rw[q.2.2];exact(sC _).symm⟩ rfl rfl rfl rfl,?_⟩
  clear hR s1 s2 s3 s4 e3 ih hr hr' hy hv hi hn;generalize items.length=n;rcases fr with _|⟨f1,f2⟩
  ·kernel_rfl!
  ·kernel_rfl!
theorem afu(w0:ao)(fb fc:Bool)(src it acc aB loc:Nat)(items:List (Int×Nat))(hi:items.length≤900):
  Spec (ak w0 fb fc) 89 (OM it acc aB loc) [(false,src,ai (items.map iv) 0),(true,it,aC "list_iterator" (.ref src) 0),(true,acc,ai [] 0),(true,aB,bz (ak w0 fb fc) iI none)] (BD items) (λaf=>.ok .next)
   (λq=>[(it,aC "list_iterator" .none items.length),(acc,ai (aD q.1.1) q.1.2.1),(aB,bz (ak w0 fb fc) iI (jJ (!items.isEmpty) q.1.2.2))]) (λaf=>[]):=by
 have h:=A4 (X':=BD items) (res':=λaf=>.ok .next) (upd':=λq=>[(it,aC "list_iterator" .none items.length),(acc,ai (aD q.1.1) q.1.2.1),(aB,bz (ak w0 fb fc) iI (jJ (!items.isEmpty) q.1.2.2))]) (new':=λaf=>[]) (aft (ak w0 fb fc) src it acc aB loc items hi items 0 [] 0 none rfl (iF _) (by rw[yM,iF];exact hi)) λq=>by
  obtain⟨⟨vs,ep,fr⟩,ok,hs⟩:=q;refine fC (Nj hs) λp aG=>?_;subst aG;exact⟨⟨(vs,ep,p),ok⟩,rfl,rfl,rfl⟩
 refine cX rfl rfl λA s R hR=>?_;generalize (!items.isEmpty)=b at*;have g:∀es,Good (bD (ak w0 fb fc) s R) (aq es (.cut 90 _ [(0,false,src,ai (items.map iv) 0),(1,true,it,aC "list_iterator" (.ref src) 0),(2,true,acc,ai (aD []) 0),(3,true,aB,bz (ak w0 fb fc) iI none)] (BD items) _
   (λq=>[(1,it,aC "list_iterator" .none items.length),(2,acc,ai (aD q.1.1) q.1.2.1),(3,aB,bz (ak w0 fb fc) iI (jJ b q.1.2.2))]) (λaf=>[]) λq af af=>
   .done (.ok .next) [(1,it,aC "list_iterator" .none items.length),(2,acc,ai (aD q.1.1) q.1.2.1),(3,aB,bz (ak w0 fb fc) iI (jJ b q.1.2.2))] [])) (jk s [(false,src,ai (items.map iv) 0),(true,it,aC "list_iterator" (.ref src) 0),(true,acc,ai [] 0),(true,aB,bz (ak w0 fb fc) iI none)]):=λes=>au<|ay h λq af af=>cE hR q rfl rfl rfl rfl
 cases fc
 ·refine⟨_,g (dec 1065220),?_⟩;clear hR h g hi;generalize items.length=n;(apply ck (fb:=fb);kernel_rfl!)
 ·refine⟨_,g (dec 0),?_⟩;clear hR h g hi;generalize items.length=n;(apply ck (fb:=fb);kernel_rfl!)
noncomputable def WT(w:ao)(f:Option (List Env))(b:Nat)(t:Sem f7)(Pre:az→Prop)(X:Type)(res:X→f7)(Post:X→az→az→Prop):Prop:=
 ∀(A:aV) (s:aA) (Q:f7→aA→Prop) (E:aj→aA→Prop),bK b A→A.frames=f→aR (kt w.params) s.heap→Pre s.heap→
  (∀x h' t',aR (kt w.params) h'→Post x s.heap h'→Q (res x) ⟨h',s.gens,s.drawn,t',s.os⟩)→wpAny (model pw w) A t Q E s
noncomputable def OS(Q:f7→aA→Prop):aW→aA→Prop:=λr s=>match r with
 |.ok f=>Q f s
 |.error _=>False
theorem x7{w:ao}{f:Option (List Env)}{b:Nat}{t:Sem f7}{Pre:az→Prop}{X:Type}{res:X→f7}{Post:X→az→az→Prop}(hb:fD b 120=true)
  (run:∀(A:aV) (s:aA) (R:aW→aA→Prop),A.frames=f→aR (kt w.params) s.heap→Pre s.heap→(∀x h' t',aR (kt w.params) h'→Post x s.heap h'→R (.ok (res x)) ⟨h',s.gens,s.drawn,t',s.os⟩)→
   ∃(l:Led) (_:Lies (kt w.params) s.heap l) (cert:Cert),Good (bD w s R) cert (jk s l)∧fR (bD w s R) 1000000000 .base A A (b+1) (t.bind λf=>.pure (.done f)) (dB l) s.heap.objs.size s.toks l.length cert=fS cert (l.map (·.2.1)) s.heap.objs.size):WT w f b t Pre X res Post:=by
 intro A s Q E hA hF hT hP hR;obtain⟨l,hl,cert,g,e⟩:=run A s (OS Q) hF hT hP hR;exact Kv (V:=bD w s (OS Q)) cert g hl hA (λaf af h=>h) (λaf af h=>h.elim) e hb
theorem OT(env:Env)(ys:List bR):∀xs:List bR,execs (xs++ys) env=(do match←execs xs env with|.next=>execs ys env|f=>pure f)
 |[]=>by
  show execs ys env=(pure Flow.next>>=_)
  rw[pure_bind]
 |x::xs=>by
  rw[List.cons_append,execs_cons,execs_cons,bind_assoc];congr 1
  funext f
  cases f with
  |next=>exact OT env ys xs
  |_=>rfl
theorem ry{M:Model}{A:aV}{E:aj→aA→Prop}{s:aA}{env:Env}{xs ys:List bR}{Q:f7→aA→Prop}(h:wpAny M A (execs xs env) (λf s'=>match f with|.next=>wpAny M A (execs ys env) Q E s'|f=>Q f s') E s):wpAny M A (execs (xs++ys) env) Q E s:=by
 rw[OT];refine av (jY h (λf s' h'=>?_) λaf af x=>x);cases f with
 |next=>exact h'
 |_=>exact aJ h'
noncomputable def OU:Str:=⟨⟨[109,101,97,115,117,114,101]⟩⟩
noncomputable def afv:Str:=⟨⟨[112,108,97,99,101,115]⟩⟩
noncomputable def x8:Str:=⟨⟨[100,114,97,119,110]⟩⟩
noncomputable def uP:Str:=⟨⟨[115,99,114,105,112,116]⟩⟩
noncomputable def bG(v:Option aj):Obj:=⟨.type "cell",none,.cell v,#[]⟩
def eV(g:Nat):Env:={envOf jr xZ 234 233 g with cells:=[(N6,g+3),(afv,g+2),(OU,g+1)]}
def fV(i n:Nat):List bR:=((fBody jr).drop i).take n
def uQ(w:ao)(SC k1:Nat):Obj:=iK [de w uP k1 (.ref SC)]
def x9(w:ao)(SC k1 DR k2:Nat):Obj:=iK [de w uP k1 (.ref SC),de w x8 k2 (.ref DR)]
theorem afw(w0:ao)(fb fc:Bool)(f:Option (List Env))(SC ep g k1:Nat)(items:List (Int×Nat))(hl:items.length≤900):
  WT (ak w0 fb fc) f 61 (execs (fV 0 1) (eV g)) (λh=>Lies (kt (ak w0 fb fc).params) h [(false,SC,ai (items.map iv) ep),(true,g,uQ (ak w0 fb fc) SC k1)]) (Nat×List (Nat×Nat)×Nat×Nat) (λaf=>.next)
   (λx h h'=>Lies (kt (ak w0 fb fc).params) h' [(true,g,x9 (ak w0 fb fc) SC k1 x.1 x.2.2.1),(true,x.1,ai (aD x.2.1) x.2.2.2)]∧Keeps [g] h h'∧h.objs.size≤x.1∧x.2.1.map (·.1)=(items.take 40).map λp=>jw p.1):=by
 have h0:=λsl u=>afq (ak w0 fb fc) SC sl (items.map iv) ep u 40 (by rw[bl];exact E4 hl)
 have h1:=λit acc aB src=>afu w0 fb fc src it acc aB g (items.take 40) (by rw[rX];exact Sv)
 rw[←yP]at h0;generalize items.take 40=xs at*;generalize hw:ak w0 fb fc=w at*;rw[qh];refine x7 rfl λA s R hF hT hP hR=>?_;have G:∀b e1 e2 e3 (k:Nat→Nat),(!xs.isEmpty)=b→Good (bD w s R) (aq e1 (.cut 119 (.builtin "list.__getitem__" ⟨[.ref SC,.ref s.heap.objs.size],[]⟩) [(0,false,SC,ai (items.map iv) ep),(2,false,s.heap.objs.size,fq .none (.int 40 s.toks))] Nat (λx=>.ok (.ret (.ref x))) (λaf=>[]) (λx=>[(x,ai (xs.map iv) 0)]) λu0 aU tk0=>
  aq e2 (.cut 89 (OM aU (aU+1) (aU+2) g) [(3,false,u0,ai (xs.map iv) 0),(4,true,aU,aC "list_iterator" (.ref u0) 0),(5,true,aU+1,ai [] 0),(6,true,aU+2,bz w iI none)] (BD xs) (λaf=>.ok .next)
   (λq=>[(4,aU,aC "list_iterator" .none xs.length),(5,aU+1,ai (aD q.1.1) q.1.2.1),(6,aU+2,bz w iI (jJ b q.1.2.2))]) (λaf=>[]) λd af tk=>
  aq e3 (.done (.ok .next) [(1,g,x9 w SC k1 (aU+1) (k tk)),(5,aU+1,ai (aD d.1.1) d.1.2.1)] [(5,aU+1,ai (aD d.1.1) d.1.2.1)])))) (jk s [(false,SC,ai (items.map iv) ep),(true,g,uQ w SC k1)]):=by
  rintro b e1 e2 e3 k rfl
  refine au (ay (h0 _ _) λu0 aU tk0=>au (ay (h1 aU (aU+1) (aU+2) u0) λd af tk=>au (bu λhp t' K T hu af hn af=>?_)));have hn:s.heap.objs.size≤aU+1:=hn (5,aU+1,_) (.head _);refine hR (aU+1,d.1.1,k tk,d.1.2.1) hp t' T ⟨?_,K,hn,d.2⟩;refine Lies.join (l:=[(true,g,_)]) (Lies.one (hu (g,_) (.head _)) (hP.off (true,g,uQ w SC k1) (.tail _ (.head _)) rfl) T) (Lies.one (hu (aU+1,_) (.tail _ (.head _))) (gR hT hn) T) λb hb hc=>?_;exact Wd (hP.lt (.tail _ (.head _))) ((sA hb).symm.trans (sA hc)) hn
 cases xs with
 |nil=>
  refine⟨_,hP,_,G false (dec 3272355972) (dec 139704426886) (dec 37124) (λtk=>tk) rfl,?_⟩;clear G hP hR hT h0 h1 hF;(apply cO hw;kernel_rfl!)
 |cons y r=>
  refine⟨_,hP,_,G true (dec 3272355972) (dec 139704426886) (dec 153391364) (λtk=>tk) rfl,?_⟩;clear G hP hR hT h0 h1 hF;(apply cO hw;kernel_rfl!)
def jd(w:ao)(SC k1 DR k2 TX k3 TL k4:Nat):Obj:=iK [de w uP k1 (.ref SC),de w x8 k2 (.ref DR),de w wk k3 (.ref TX),de w xS k4 (.ref TL)]
structure LA where
 TX:Nat
 k3:Nat
 TL:Nat
 k4:Nat
 SL:Nat
 tx:List aj
 told:List Row
 iM:List (List Nat×Nat)
 ts:List (List Nat)
 six:told.length=6∧ts.length=6∧tx.length=6
 ok:∀t∈ts,iL 52 t
 signs:ts.map (λt=>ef 0 t)=told.map λr=>r.vs.map (·.1)
 quoted:ts.map (λt=>dots (rows t))=iM.map (·.1)
def LA.led(x:LA):Led:=[(true,x.TX,ai x.tx 0),(true,x.TL,ai (c6 x.told) 6)]++(x.told.map λr=>(true,r.a,ai (aD r.vs) r.e))++[(true,x.SL,ai (c5 x.iM) 6)]
theorem Lies.fresh'{kt:bZ}{h h':az}{n:Led}{new:List (Nat×Nat×Obj)}(T:aR kt h)(T':aR kt h')(e:n.map (·.2)=new.map (·.2))(hn:eZ h' (new.map (·.2)))(hf:∀p∈new,h.objs.size≤p.2.1)(hd:(new.map (·.2.1)).Nodup):Lies kt h' n∧∀a∈adr n,h.objs.size≤a:=by
 have k:∀p∈n,h.objs.size≤p.2.1:=λp hp=>by
  have m:p.2∈n.map (·.2):=c7 hp;rw[e]at m;refine aS (aN.mp m) λq hq e=>?_;rw[←e];exact hf q hq
 refine⟨Lies.fresh T T' (e▸hn) k ?_,λa ha=>?_⟩
 ·have e2:adr n=new.map (·.2.1):=by
   have:=congrArg (List.map (·.1)) e;rw[bQ,bQ]at this;exact this
  rw[e2];exact hd
 ·refine aS (aN.mp ha) λp hp aG=>?_;subst aG;exact k p hp
theorem afx(w0:ao)(fb fc:Bool)(f:Option (List Env))(SC g k1 DR k2 Hq:Nat)(ds:List (Nat×Nat))(hl:ds.length≤50):
  WT (ak w0 fb fc) f 61 (execs (fV 1 3) (eV g)) (λh=>Lies (kt (ak w0 fb fc).params) h [(true,g,x9 (ak w0 fb fc) SC k1 DR k2),(true,g+1,bG none),(true,g+2,bG none),(true,g+3,bG none),(false,DR,ai (aD ds) Hq)]) LA (λaf=>.next)
   (λx h h'=>Lies (kt (ak w0 fb fc).params) h' ([(true,g,jd (ak w0 fb fc) SC k1 DR k2 x.TX x.k3 x.TL x.k4),(true,g+3,bG (some (.ref x.SL)))]++x.led)∧Keeps [g,g+3] h h'∧∀a∈adr x.led,h.objs.size≤a):=by
 have h2:=adf w0 fb fc DR Hq ds hl;have h3:=λx t hx=>adn w0 fb fc x hx t;have h4:=λx t hx=>ad6 w0 fb fc x t hx;generalize hw:ak w0 fb fc=w at*;rw[qh];refine x7 rfl λA s R hF hT hP hR=>?_;refine⟨_,hP.sub (.cons_cons _ (.cons _ (.cons _ (.cons_cons _ (.cons_cons _ .slnil))))),aq (dec 4289) (.cut 88 _ [(2,false,DR,ai (aD ds) Hq)] xg _ (λaf=>[]) (λx=>[(x.at',x.obj)]) λx aU tk0=>
  aq (bif fc then dec 97057379745518456044188182113125150915 else dec 1628352624384588169041385450757598088317644995) (.cut 87 _ [] (qX (λl=>l=ef 0 x.x.a0.1)) _ (λaf=>[]) (λq=>[(q.at',ai (aD q.vs) q.ep)]) λq0 aX aF=>
  aq (dec 1412370762344194460373516808) (.cut 87 _ [] (qX (λl=>l=ef 0 x.x.a1.1)) _ (λaf=>[]) (λq=>[(q.at',ai (aD q.vs) q.ep)]) λq1 aQ b4=>
  aq (dec 1412370762344194460373516808) (.cut 87 _ [] (qX (λl=>l=ef 0 x.x.a2.1)) _ (λaf=>[]) (λq=>[(q.at',ai (aD q.vs) q.ep)]) λq2 bW bV=>
  aq (dec 1412370762344194460373516808) (.cut 87 _ [] (qX (λl=>l=ef 0 x.x.a3.1)) _ (λaf=>[]) (λq=>[(q.at',ai (aD q.vs) q.ep)]) λq3 d9 eO=>
  aq (dec 1412370762344194460373516808) (.cut 87 _ [] (qX (λl=>l=ef 0 x.x.a4.1)) _ (λaf=>[]) (λq=>[(q.at',ai (aD q.vs) q.ep)]) λq4 eT gF=>
  aq (dec 1412370762344194460373516808) (.cut 87 _ [] (qX (λl=>l=ef 0 x.y.1.1)) _ (λaf=>[]) (λq=>[(q.at',ai (aD q.vs) q.ep)]) λq5 gQ cy=>
  aq (bif fc then dec 566297623957978111336665564258966569104245769144830423442600304345608 else dec 9500897557429773697192190037038920393563905597336693216852316373537018380808) (.cut 88 _ [] Nat _ (λaf=>[]) (λaf=>[]) λv0 iY dU=>
  aq (dec 1625194477164764085143549139) (.cut 88 _ [] Nat _ (λaf=>[]) (λaf=>[]) λv1 qO qP=>
  aq (dec 1625194477164764085143549139) (.cut 88 _ [] Nat _ (λaf=>[]) (λaf=>[]) λv2 cR qQ=>
  aq (dec 1625194477164764085143549139) (.cut 88 _ [] Nat _ (λaf=>[]) (λaf=>[]) λv3 afy afz=>
  aq (dec 1625194477164764085143549139) (.cut 88 _ [] Nat _ (λaf=>[]) (λaf=>[]) λv4 afA afB=>
  aq (dec 1625194477164764085143549139) (.cut 88 _ [] Nat _ (λaf=>[]) (λaf=>[]) λv5 afC afD=>
  aq (dec 1319966339803397242009592905151699) (.done (.ok .next) [(0,g,jd w SC k1 DR k2 x.at' tk0 (aU+1) cy),(1,g+3,bG (some (.ref (gQ+3))))] [(3,x.at',x.obj),(5,aU+1,ai [.ref q0.at',.ref q1.at',.ref q2.at',.ref q3.at',.ref q4.at',.ref q5.at'] 6),(7,q0.at',ai (aD q0.vs) q0.ep),(8,q1.at',ai (aD q1.vs) q1.ep),(9,q2.at',ai (aD q2.vs) q2.ep),(10,q3.at',ai (aD q3.vs) q3.ep),(11,q4.at',ai (aD q4.vs) q4.ep),(12,q5.at',ai (aD q5.vs) q5.ep),(16,gQ+3,ai (c5 [(dots (rows x.x.a0.1),v0),(dots (rows x.x.a1.1),v1),(dots (rows x.x.a2.1),v2),(dots (rows x.x.a3.1),v3),(dots (rows x.x.a4.1),v4),(dots (rows x.y.1.1),v5)]) 6)])))))))))))))),
  au (ay h2 λx aU tk0=>au (ay (h3 x.x.a0.1 x.x.a0.2 (bh x.x.h0.1 (by decide))) λq0 aX aF=>au (ay (h3 x.x.a1.1 x.x.a1.2 (bh x.x.h1.1 (by decide))) λq1 aQ b4=>au (ay (h3 x.x.a2.1 x.x.a2.2 (bh x.x.h2.1 (by decide))) λq2 bW bV=>au (ay (h3 x.x.a3.1 x.x.a3.2 (bh x.x.h3.1 (by decide))) λq3 d9 eO=>au (ay (h3 x.x.a4.1 x.x.a4.2 (bh x.x.h4.1 (by decide))) λq4 eT gF=>au (ay (h3 x.y.1.1 x.y.1.2 (bh x.y.2.1 (by decide))) λq5 gQ cy=>au (ay (h4 x.x.a0.1 x.x.a0.2 (bh x.x.h0.1 (by decide))) λv0 iY dU=>au (ay (h4 x.x.a1.1 x.x.a1.2 (bh x.x.h1.1 (by decide))) λv1 qO qP=>au (ay (h4 x.x.a2.1 x.x.a2.2 (bh x.x.h2.1 (by decide))) λv2 cR qQ=>au (ay (h4 x.x.a3.1 x.x.a3.2 (bh x.x.h3.1 (by decide))) λv3 afy afz=>au (ay (h4 x.x.a4.1 x.x.a4.2 (bh x.x.h4.1 (by decide))) λv4 afA afB=>au (ay (h4 x.y.1.1 x.y.1.2 (bh x.y.2.1 (by decide))) λv5 afC afD=>au (bu λhp t' K T hu hn hf hd=>?_)))))))))))))),?_⟩
 ·have K:Keeps [g,g+3] s.heap hp:=K;have two:Lies (kt w.params) hp [(true,g,jd w SC k1 DR k2 x.at' tk0 (aU+1) cy),(true,g+3,bG (some (.ref (gQ+3))))]:=
   (hP.sub (l':=[(true,g,x9 w SC k1 DR k2),(true,g+3,bG none)]) (.cons_cons _ (.cons _ (.cons _ (.cons_cons _ (.cons _ .slnil)))))).turn T K rfl λp hp=>.inl (by
    apply bJ hp
    ·exact hu (g,_) (.head _)
    ·exact hu (g+3,_) (.tail _ (.head _)))
  let y:LA:=⟨x.at',tk0,aU+1,cy,gQ+3,x.x.sv++[.str ⟨⟨x.y.1.1⟩⟩ x.y.1.2],[⟨q0.at',q0.vs,q0.ep⟩,⟨q1.at',q1.vs,q1.ep⟩,⟨q2.at',q2.vs,q2.ep⟩,⟨q3.at',q3.vs,q3.ep⟩,⟨q4.at',q4.vs,q4.ep⟩,⟨q5.at',q5.vs,q5.ep⟩],[(dots (rows x.x.a0.1),v0),(dots (rows x.x.a1.1),v1),(dots (rows x.x.a2.1),v2),(dots (rows x.x.a3.1),v3),(dots (rows x.x.a4.1),v4),(dots (rows x.y.1.1),v5)],[x.x.a0.1,x.x.a1.1,x.x.a2.1,x.x.a3.1,x.x.a4.1,x.y.1.1],⟨rfl,rfl,rfl⟩,λt ht=>?_,?_,rfl⟩
  ·refine dY (Lies.fresh' (n:=y.led) hT T rfl hn hf hd) λnw nf=>?_;refine hR y hp t' T ⟨two.join nw λb hb hc=>vA (?_:b<s.heap.objs.size) (nf b hc),K,nf⟩;have hb:b∈[g,g+3]:=hb;rcases aM.mp hb with rfl|hb
   ·exact hP.lt (.head _)
   ·rw[sA hb];exact hP.lt (.tail _ (.tail _ (.tail _ (.head _))))
  ·apply nV ht
   ·exact x.x.h0
   ·exact x.x.h1
   ·exact x.x.h2
   ·exact x.x.h3
   ·exact x.x.h4
   ·exact x.y.2
  ·show[_,_,_,_,_,_]=[q0.vs.map (·.1),q1.vs.map (·.1),q2.vs.map (·.1),q3.vs.map (·.1),q4.vs.map (·.1),q5.vs.map (·.1)];rw[show q0.vs.map (·.1)=_ from q0.ok,show q1.vs.map (·.1)=_ from q1.ok,show q2.vs.map (·.1)=_ from q2.ok,show q3.vs.map (·.1)=_ from q3.ok,show q4.vs.map (·.1)=_ from q4.ok,show q5.vs.map (·.1)=_ from q5.ok]
 ·clear hP hR hT h2 h3 h4 hF hl;(apply tK hw;kernel_rfl!)
section
open PySem.SeqAt
theorem OV:∀(x:List Nat) (p:Nat),(∀c∈x,c≤10000)→(ef p x).length≤x.length∧∀c∈ef p x,c≤10000
 |[],_,_=>⟨bk _,λaf h=>nomatch h⟩
 |c::r,p,h=>by
  refine dY (OV r c λd hd=>h d (.tail _ hd)) λh1 h2=>?_;unfold ef;constructor
  ·rw[fZ,n7];have:(if c=10 then(if p=13 then[]else[13])else[c]).length≤1:=by
    split
    ·split<;>trivial
    ·exact bk _
   exact WC this h1
  ·intro d hd;rcases mA hd with hd|hd
   ·split at hd
    ·split at hd
     ·cases hd
     ·rw[sA hd];decide
    ·rw[sA hd];exact(h c (.head _))
   ·exact h2 d hd
theorem OW:∀(x:List Nat) (p:Nat),(∀c∈x,c≤10000)→∀c∈cA p x,c<0x110000
 |[],_,_,_,h=>nomatch h
 |c::r,p,h,d,hd=>by
  unfold cA at hd;rcases mA hd with hd|hd
  ·split at hd
   ·exact RM (b3 hd)
   ·split at hd
    ·exact RP (b3 hd)
    ·exact UL (jN hd) (h c (.head _))
  ·exact OW r c (λe he=>h e (.tail _ he)) d hd
theorem afE:∀c∈pB,c≤10000:=by decide
def rz:bR:=(fV 4 1).getD 0 (.Pass default)
theorem afF:fV 4 1=[.If (.Compare (eE (dg rz)) [.NotEq] [iu 0 (dg rz)] (dg rz).pos) (fBody rz) [] (zT rz)]:=by
 kernel_rfl!
theorem afG:qc .NotEq (iu 0 (dg rz))=false:=by
 kernel_rfl!
theorem afH(w0:ao)(fb fc:Bool)(g SC k1 DR k2 TX k3 TL k4:Nat)(r0 r1 r2 r3 r4 r5:Row)(hr:∀r∈[r0,r1,r2,r3,r4,r5],r.vs.length≤900∧∀q∈r.vs,q.1≤10000){A:aV}{s:aA}{E:aj→aA→Prop}{Q:aj→aA→Prop}(hA:bK 61 A)
  (hP:Lies (kt (ak w0 fb fc).params) s.heap [(false,g,jd (ak w0 fb fc) SC k1 DR k2 TX k3 TL k4),(false,TL,ai (c6 [r0,r1,r2,r3,r4,r5]) 6),(false,r0.a,ai (aD r0.vs) r0.e),(false,r1.a,ai (aD r1.vs) r1.e),(false,r2.a,ai (aD r2.vs) r2.e),(false,r3.a,ai (aD r3.vs) r3.e),(false,r4.a,ai (aD r4.vs) r4.e),(false,r5.a,ai (aD r5.vs) r5.e)])
  (hQ:∀a v h' t',aR (kt (ak w0 fb fc).params) h'→Keeps [] s.heap h'→h'.get? a=some (ai (c5 v) 6)→v.map (·.1)=[r0,r1,r2,r3,r4,r5].map (λr=>cA 13 (r.vs.map (·.1)))→Q (.ref a) ⟨h',s.gens,s.drawn,t',s.os⟩):
  wpAny (model pw (ak w0 fb fc)) A (eval (iu 0 (dg rz)) (eV g)) Q E s:=by
 have h:=λ(r:Row) (m:r∈[r0,r1,r2,r3,r4,r5])=>adD w0 fb fc r.a r.e r.vs (hr r m).1 (hr r m).2;generalize hw:ak w0 fb fc=w at*;rw[mR];refine mw Flow.ret (b:=61) (l:=[(false,g,jd w SC k1 DR k2 TX k3 TL k4),(false,TL,ai (c6 [r0,r1,r2,r3,r4,r5]) 6),(false,r0.a,ai (aD r0.vs) r0.e),(false,r1.a,ai (aD r1.vs) r1.e),(false,r2.a,ai (aD r2.vs) r2.e),(false,r3.a,ai (aD r3.vs) r3.e),(false,r4.a,ai (aD r4.vs) r4.e),(false,r5.a,ai (aD r5.vs) r5.e)]) (aq (bif fc then dec 24994045509548171288427081338208515 else dec 419330500227519732111613905465237073576195) (.cut 87 (.call (.ref 215) ⟨[.ref r0.a],[]⟩) [(2,false,r0.a,ai (aD r0.vs) r0.e)] Nat (λu=>.ok (.ret (.str ⟨⟨cA 13 (r0.vs.map (·.1))⟩⟩ u))) (λaf=>[]) (λaf=>[]) λv0 aU tk0=>
  aq (dec 1489761204096565919427379980) (.cut 87 (.call (.ref 215) ⟨[.ref r1.a],[]⟩) [(3,false,r1.a,ai (aD r1.vs) r1.e)] Nat (λu=>.ok (.ret (.str ⟨⟨cA 13 (r1.vs.map (·.1))⟩⟩ u))) (λaf=>[]) (λaf=>[]) λv1 aX aF=>
  aq (dec 1489761204096565919427379980) (.cut 87 (.call (.ref 215) ⟨[.ref r2.a],[]⟩) [(4,false,r2.a,ai (aD r2.vs) r2.e)] Nat (λu=>.ok (.ret (.str ⟨⟨cA 13 (r2.vs.map (·.1))⟩⟩ u))) (λaf=>[]) (λaf=>[]) λv2 aQ b4=>
  aq (dec 1489761204096565919427379980) (.cut 87 (.call (.ref 215) ⟨[.ref r3.a],[]⟩) [(5,false,r3.a,ai (aD r3.vs) r3.e)] Nat (λu=>.ok (.ret (.str ⟨⟨cA 13 (r3.vs.map (·.1))⟩⟩ u))) (λaf=>[]) (λaf=>[]) λv3 bW bV=>
  aq (dec 1489761204096565919427379980) (.cut 87 (.call (.ref 215) ⟨[.ref r4.a],[]⟩) [(6,false,r4.a,ai (aD r4.vs) r4.e)] Nat (λu=>.ok (.ret (.str ⟨⟨cA 13 (r4.vs.map (·.1))⟩⟩ u))) (λaf=>[]) (λaf=>[]) λv4 d9 eO=>
  aq (dec 1489761204096565919427379980) (.cut 87 (.call (.ref 215) ⟨[.ref r5.a],[]⟩) [(7,false,r5.a,ai (aD r5.vs) r5.e)] Nat (λu=>.ok (.ret (.str ⟨⟨cA 13 (r5.vs.map (·.1))⟩⟩ u))) (λaf=>[]) (λaf=>[]) λv5 eT gF=>
  aq (dec 1046315332843638118327082074892) (.done (.ok (.ret (.ref (s.heap.objs.size+1)))) [] [(9,s.heap.objs.size+1,ai (c5 [(cA 13 (r0.vs.map (·.1)),v0),(cA 13 (r1.vs.map (·.1)),v1),(cA 13 (r2.vs.map (·.1)),v2),(cA 13 (r3.vs.map (·.1)),v3),(cA 13 (r4.vs.map (·.1)),v4),(cA 13 (r5.vs.map (·.1)),v5)]) 6)]))))))))
  (au (ay (h r0 aY) λv0 aU tk0=>au (ay (h r1 in1) λv1 aX aF=>au (ay (h r2 bT) λv2 aQ b4=>au (ay (h r3 eW) λv3 bW bV=>au (ay (h r4 in4) λv4 d9 eO=>au (ay (h r5 kB) λv5 eT gF=>au (bu λhp t' K T af hn af af=>?_)))))))) hP hA ?_ rfl
 ·intro v hv;obtain rfl:v=.ref (s.heap.objs.size+1):=by injection hv
  exact hQ _ _ hp t' T K (hn (s.heap.objs.size+1,_) (.head _)) rfl
 ·intro R;clear hP hQ h hA hr;(apply tK hw;kernel_rfl!)
theorem Lies.eu{kt:bZ}{h:az}{l l':Led}(H:Lies kt h l)(hf:l'.all (λp=>!p.1)=true)(s:(l'.map (·.2)).Sublist (l.map (·.2))):Lies kt h l':=by
 refine⟨λq hq=>H.has q (s.subset hq),?_,λp hp hm=>?_,H.top⟩
 ·have:=s.map (·.1);rw[bQ,bQ]at this;exact H.nd.sublist this
 ·have:=List.all_eq_true.mp hf p hp;rw[hm]at this;cases this
theorem afI{α:Type}:∀l:List α,l.length=6→∃a b c d e f,l=[a,b,c,d,e,f]
 |[a,b,c,d,e,f],_=>⟨a,b,c,d,e,f,rfl⟩
theorem LA.afJ(x:LA):∀r∈x.told,r.vs.length≤900∧∀q∈r.vs,q.1≤10000:=λr hr=>by
 refine aS (aN.mp (x.signs▸c7 hr)) λt ht e=>?_;have ok:=x.ok t ht;refine dY (OV t 0 λc hc=>afE c (ok.2 c hc)) λh1 h2=>?_;rw[e,bl]at h1;refine⟨bh h1 (bh ok.1 (by decide)),λq hq=>h2 q.1 (by rw[e];exact c7 hq)⟩
theorem LA.OX(x:LA):x.iM.map (·.1)=x.told.map λr=>cA 13 (r.vs.map (·.1)):=by
 rw[←x.quoted];have e:x.ts.map (λt=>dots (rows t))=(x.ts.map λt=>ef 0 t).map (cA 13):=by
  rw[bQ];exact yG λt ht=>aec t (bh (x.ok t ht).1 (by decide))
 rw[e,x.signs,bQ];rfl
theorem afK(w0:ao)(fb fc:Bool)(f:Option (List Env))(g SC k1 DR k2:Nat)(x:LA):
  WT (ak w0 fb fc) f 61 (execs (fV 4 1) (eV g)) (λh=>Lies (kt (ak w0 fb fc).params) h ([(true,g,jd (ak w0 fb fc) SC k1 DR k2 x.TX x.k3 x.TL x.k4),(true,g+3,bG (some (.ref x.SL)))]++x.led)) Unit (λaf=>.next) (λaf h h'=>Keeps [] h h'):=by
 intro A s Q E hA hF hT hP hQ;rw[afF];have hs:s.heap.get? x.SL=some (ai (c5 x.iM) 6):=hP.right.right.get (p:=(true,x.SL,_)) (.head _);refine zf (wpAny_If (wpAny_isTrue_Compare1 ?_ afG));have g1:=hP.left;rw[mR];refine mw Flow.ret (b:=61) (l:=[(false,g,jd (ak w0 fb fc) SC k1 DR k2 x.TX x.k3 x.TL x.k4),(false,g+3,bG (some (.ref x.SL)))]) (aq (dec 4) (.done (.ok (.ret (.ref x.SL))) [] [])) (au (bu λhp t' K T af af af af=>?_)) (g1.eu rfl (mO _)) hA ?_ rfl
 ·intro v hv;obtain rfl:v=.ref x.SL:=by injection hv
  have K:Keeps [] s.heap hp:=K;obtain⟨r0,r1,r2,r3,r4,r5,e6⟩:=afI x.told x.six.1;have Hr:=x.afJ;have hsi:=x.OX;rw[e6]at Hr hsi;rw[←mR];refine afH w0 fb fc g SC k1 DR k2 x.TX x.k3 x.TL x.k4 r0 r1 r2 r3 r4 r5 Hr hA (s:=⟨hp,s.gens,s.drawn,t',s.os⟩) ?_ λa v h' t2 T2 K2 ga hv=>?_
  ·refine Lies.ext (h:=s.heap) ?_ T K;unfold LA.led at hP;rw[e6]at hP;exact hP.eu rfl (.cons_cons _ (.cons _ (.cons _ (.cons_cons _ (.cons_cons _ (.cons_cons _ (.cons_cons _ (.cons_cons _ (.cons_cons _ (.cons_cons _ (.cons _ .slnil)))))))))))
  ·have K2:Keeps [] hp h':=K2;have le:∀t∈x.iM.map (·.1),∀c∈t,c<0x110000:=λt ht c hc=>by
    rw[hsi]at ht;refine aS (aN.mp ht) λr hr aG=>?_;subst aG;exact OW _ _ (λd hd=>by
     refine aS (aN.mp hd) λq hq aG=>?_;subst aG;exact(Hr r hr).2 q hq) c hc
   have hv:v.map (·.1)=x.iM.map (·.1):=hv.trans hsi.symm;refine compareNe_reads (Ou (K2.2 _ _ (λh=>nomatch h) (K.2 _ _ (λh=>nomatch h) hs))) (Ou ga) (xT _ le).1 (xT _ (hv▸le)).1 (Bw (bh hA.units (by decide)) _ (ig (bh (xT _ le).2 (iT _)))) (sE ?_)
   have e:DG (Hf (x.iM.map (·.1))) (Hf (v.map (·.1)))=true:=by
    rw[hv];exact(Oq _ _).trans (by simp)
   rw[e];exact aJ (aJ (hQ () h' t2 T2 (K.trans K2)))
 ·intro R;clear hP hQ hA hT hs g1 hF;kernel_rfl!
end
theorem afL(w0:ao)(fb fc:Bool)(S r t u v:Nat):Spec (ak w0 fb fc) 98 (.builtin "list.__init__" ⟨[.ref S,.ref r],[]⟩) [(false,r,kQ 6 t u v),(true,S,ai [] 0)] Nat (λaf=>.ok (.ret .none)) (λx=>[(S,ai (six x) 8)]) (λaf=>[]):=by
 intro A s R hA hT hP hN hK hR;have hS:s.heap.get? S=some (ai [] 0):=hP (S,_) (.tail _ (.head _));have hne:S≠r:=λe=>by
  subst e;simp at hN
 refine cN F.entry_list_init ?_;rw[gO (by decide+kernel) _]
 show wpAny _ A.in1 (do let old←Builtin.List.listItems (.ref S);J3 (.ref S) (λaf=>#[]);letGo old.toList.reverse;zx (.ref S) (.ref r) .none) _ _ s
 refine av (zp hS rfl ?_);refine av (sW hS rfl ?_ (iT _) (iT _));refine av (vL ?_);have k:Keeps [S] s.heap (s.heap.update S (cz λaf=>(#[]:Array aj))):=Keeps.upd _ (.head _);have off:(kt (ak w0 fb fc).params).get S=none:=hK (true,S,_) (.tail _ (.head _)) rfl;have T1:aR (kt (ak w0 fb fc).params) (s.heap.update S (cz λaf=>(#[]:Array aj))):=hT.keep k λa ha=>sA ha▸off;refine OG w0 fb fc S r 0 t u v .none hne (hA.le (by decide)) (hA.in1.le (by decide)) T1 ((Lies.one (iW _ hS rfl) off T1).join (Lies.seen (k.2 _ _ (λm=>hne (sA m).symm) (cL hP)) T1) λb hb hc=>hne ((sA hb).symm.trans (sA hc))) λx h' t' T' K g=>?_
 exact hR x h' t' (k.trans K) (λp hp=>by rw[sA hp];exact g) (λaf h=>nomatch h) (λaf h=>nomatch h) .nil
def rA(b tk:Nat):List aj:=[.str iX (tk+2),.int 212 0,.int 2 0,.int 0 0,.int 0 0,.int 19 0,.ref (b+1),.bool true,.int 276 0,.ref (b+2),.none,.ref (b+3),.ref (b+4),.ref (b+5),.int ((tk+6:Nat):Int) 0,.int 212 0,.str iX (tk+7)]
structure ML where
 b:Nat
 tk:Nat
 z:KZ
 P:Nat
 pt:Nat
def ML.led(w:ao)(g:Nat)(m:ML):Led:=[(false,m.b+6,xJ (.str kW m.tk) (m.tk+1) (rA m.b m.tk)),(false,m.b+7,iA (xH (g+3) (m.b+6) m.b))]++m.z.eu w (m.b+7)++[(true,m.P,ai (six m.pt) 8)]
theorem afM(w0:ao)(fb fc:Bool)(f:Option (List Env))(g SC k1 DR k2 TX k3 TL k4 SL:Nat)(tx:List aj)(h6:tx.length=6):
  WT (ak w0 fb fc) f 61 (execs (fV 5 2) (eV g)) (λh=>Lies (kt (ak w0 fb fc).params) h [(true,54,fy),(true,231,fy),(false,g,jd (ak w0 fb fc) SC k1 DR k2 TX k3 TL k4),(true,g+1,bG none),(true,g+2,bG none),(false,g+3,bG (some (.ref SL))),(false,TX,ai tx 0)]) ML (λaf=>.next)
   (λm h h'=>Lies (kt (ak w0 fb fc).params) h' ([(true,g+1,bG (some (.ref (m.z.x+1)))),(true,g+2,bG (some (.ref m.P)))]++m.led (ak w0 fb fc) g)∧Keeps [54,231,g+1,g+2] h h'∧(∀a∈adr (m.led (ak w0 fb fc) g),h.objs.size≤a)∧(∃vs,h'.get? 54=some (gk vs))∧∃vs,h'.get? 231=some (gk vs)):=by
 have h1:=aew (ak w0 fb fc);have h2:=nu (ak w0 fb fc) TX tx 0 6 h6 (by decide)
 have h3:=afL w0 fb fc;generalize hw:ak w0 fb fc=w at*;rw[qh];refine x7 rfl λA s R hF hT hP hR=>?_;refine⟨_,hP,aq (dec 5230316330214562522531936342145) (.cut 88 (NX (s.heap.objs.size+7)) [(0,true,54,fy)] KZ (λz=>.ok (.ret (.ref (z.x+1)))) (λz=>[(0,54,Bl z.g)]) (KZ.new w (s.heap.objs.size+7)) λz aU tk0=>
  aq (dec 1411842740326790) (.cut 118 _ [(6,false,TX,ai tx 0)] Nat _ (λaf=>[]) (λaf=>[]) λx aX aF=>
  aq (dec 443131522) (.cut 119 _ [] Nat _ (λaf=>[]) (λx=>[(x,ai [] 0)]) λP aQ b4=>
  aq (dec 112347) (.cut 98 _ [(23,false,aX,kQ 6 aF x (aF+1)),(24,true,P,ai [] 0)] Nat _ (λx=>[(24,P,ai (six x) 8)]) (λaf=>[]) λpt bW bV=>
  aq (dec 455) (.done (.ok .next) [(3,g+1,bG (some (.ref (z.x+1)))),(4,g+2,bG (some (.ref P))),(0,54,Bl z.g),(1,231,gk [.int 212 0,.int 25 0,.ref (s.heap.objs.size+6)])] ([(13,s.heap.objs.size+6,xJ (.str kW s.toks) (s.toks+1) (rA s.heap.objs.size s.toks)),(14,s.heap.objs.size+7,iA (xH (g+3) (s.heap.objs.size+6) s.heap.objs.size))]++yQ (λi p=>(i,p)) [15,16,17,18,19,20,21,22] (KZ.new w (s.heap.objs.size+7) z)++[(24,P,ai (six pt) 8)])))))),au (ay (h1 _) λz aU tk0=>au (ay h2 λx aX aF=>au (ay (Ak w (.ref aX)) λP aQ b4=>au (ay (h3 P aX aF x (aF+1)) λpt af af=>au (bu λhp t' K T hu hn hf hd=>?_))))),?_⟩
 ·have K:Keeps [54,231,g+1,g+2] s.heap hp:=K;obtain⟨nw,nf⟩:=Lies.fresh' (n:=ML.led w g ⟨s.heap.objs.size,s.toks,z,P,pt⟩) hT T rfl hn hf hd;refine hR ⟨s.heap.objs.size,s.toks,z,P,pt⟩ hp t' T ⟨?_,K,nf,⟨_,hu (54,_) (.tail _ (.tail _ (.head _)))⟩,⟨_,hu (231,_) (.tail _ (.tail _ (.tail _ (.head _))))⟩⟩;have two:Lies (kt w.params) hp [(true,g+1,bG (some (.ref (z.x+1)))),(true,g+2,bG (some (.ref P)))]:=
   (hP.sub (l':=[(true,g+1,bG none),(true,g+2,bG none)]) (.cons _ (.cons _ (.cons _ (.cons_cons _ (.cons_cons _ (.cons _ (.cons _ .slnil)))))))).turn T K rfl λp hp=>.inl (by
    apply bJ hp
    ·exact hu (g+1,_) (.head _)
    ·exact hu (g+2,_) (.tail _ (.head _)))
  refine two.join nw λb hb hc=>vA (?_:b<s.heap.objs.size) (nf b hc);have hb:b∈[g+1,g+2]:=hb;rcases aM.mp hb with rfl|hb
  ·exact hP.lt (.tail _ (.tail _ (.tail _ (.head _))))
  ·rw[sA hb];exact hP.lt (.tail _ (.tail _ (.tail _ (.tail _ (.head _)))))
 ·clear hP hR hT h1 h2 h3 hF;(apply cO hw;kernel_rfl!)
section
variable(elt target iter l r:Expr)(scope:Scope)(pos cp:Pos)(it acc:aj)(env:Env)
noncomputable def Hs:Sem (Option (aj×aj)):=do
 ou iter.pos
 match←pyNext it with
 |none=>pure none
 |some v=>
  letOwnedTupleGo target it v
  assign target env v
  let a←eval l env
  let b←holding [a] (eval r env)
  ou cp
  pure (some (a,b))
noncomputable def OY(e:Expr)(t:Bool):Sem Fin:=do
 if t=true then
  let _←call (.builtin "list.append") [acc,←eval elt env]
 again (.compLoop e 0 it acc env)
noncomputable def Ht(e:Expr):Option (aj×aj)→Sem Fin
 |none=>pure (.done .next)
 |some (a,b)=>do
  let c←operate [a,b] (compareOp .Lt a b)
  let t←holding [c] (truthy c)
  OY elt it acc env e t
theorem afN(hm:qc .Lt r=false):compTurn (.ListComp elt [⟨target,iter,[.Compare l [.Lt] [r] cp],0⟩] scope pos) 0 it acc env=Hs target iter l r cp it env>>=Ht elt it acc env (.ListComp elt [⟨target,iter,[.Compare l [.Lt] [r] cp],0⟩] scope pos):=by
 rw[compTurn_list];unfold Hs;simp only[bind_assoc];congr 1
 funext _
 congr 1
 funext o
 cases o with
 |none=>simp only[pure_bind];rfl
 |some v=>
  simp only[bind_assoc,C5,C7,if_true,isTrue_Compare1,markedBehindIn_of_false hm];congr 1
end
def afO:Expr:=iu 0 (rhs ((fV 7 1).getD 0 (.Pass default)))
def iN:Expr:=eE afO
def rD:Expr:=(vV iN).ifs.getD 0 (.Name ⟨#[]⟩ default)
theorem afP:iN=.ListComp (eE iN) [⟨(vV iN).target,(vV iN).iter,[.Compare (eE rD) [.Lt] [iu 0 rD] rD.pos],0⟩] (oO iN) iN.pos:=by
 kernel_rfl!
theorem afQ:qc .Lt (iu 0 rD)=false:=by
 kernel_rfl!
noncomputable def ko:Str:=⟨⟨[111,116,104,101,114]⟩⟩
structure pL(w:ao)(z:KZ)(l:LZ)(T:Nat→List Nat):Prop where
 hx:∃n,z.x=n+236
 lt:∀i j t u:Nat,i<6→j<6→∃c:Int,decide (c<0)=lexLt (T i) (T j)∧Spec w 108 (ri l i j t u) l.eu Nat (λv=>.ok (.ret (.int c v))) (λaf=>[]) (λaf=>[])
def fW(w:ao)(z:KZ)(l:LZ):Led:=l.eu++z.eu w l.f
structure LL where
 P:Nat
 pt:Nat
 c:Nat
 k:Nat
 g:Nat
 it:Nat
 acc:Nat
 aB:Nat
def ya(g c aB:Nat):Env:=⟨Gi (oO iN),aB,3,[(m5,c),(OU,g+1)],xZ,none,.ref 233,some g,0⟩
def yb(q:LL):bf:=.compLoop iN 0 (.ref q.it) (.ref q.acc) (ya q.g q.c q.aB)
def nO(q:LL):bf:=.compStart iN 0 (.ref q.it) (.ref q.acc) (ya q.g q.c q.aB)
def kZ(w:ao)(z:KZ)(q:LL)(i:Nat)(ps:List (Int×Nat))(ep:Nat)(fr:Option (Nat×aj)):Led:=
 [(false,q.P,ai (six q.pt) 8),(false,q.c,bG (some (vI q.pt q.k))),(false,q.g+1,bG (some (.ref (z.x+1)))),(true,q.it,aC "list_iterator" (.ref q.P) i),(true,q.acc,ai (ps.map iv) ep),(true,q.aB,bz w ko fr)]
noncomputable def OZ:Option (aj×aj)→f7
 |some (a,b)=>match a,b with
  |.ref a,.ref b=>.ret (.int (a:Int) b)
  |_,_=>.brk
 |none=>.brk
theorem afR{f:Option (aj×aj)}{a b:Nat}(h:OZ f=.ret (.int (a:Int) b)):f=some (.ref a,.ref b):=by
 rcases f with _|⟨x,y⟩
 ·injection h
 ·cases x<;>first|injection h;done|skip
  cases y<;>first|injection h;done|skip
  injection h with h
  injection h with h1 h2
  rw[vD.mp h1,h2]
theorem Hu{w:ao}{z:KZ}{l:LZ}{q:LL}{i i':Nat}{ps ps':List (Int×Nat)}{ep dj:Nat}{fr cQ:Option (Nat×aj)}{U:List Nat}{h h':az}(H:Lies (kt w.params) h (kZ w z q i ps ep fr++fW w z l))(T:aR (kt w.params) h')(K:Keeps U h h')
  (hU:∀u∈U,u∈[q.it,q.acc,q.aB]) (g1:h'.get? q.it=some (aC "list_iterator" (.ref q.P) i')) (g2:h'.get? q.acc=some (ai (ps'.map iv) dj)) (g3:h'.get? q.aB=some (bz w ko cQ)):Lies (kt w.params) h' (kZ w z q i' ps' dj cQ++fW w z l):=by
 refine H.turn T K (by rw[aL,aL];rfl) λp hp=>?_
 have keep:∀p∈kZ w z q i ps ep fr++fW w z l,p.1=false→p.2.1∉U:=λp hp hm m=>by
  have e:∃o,(true,p.2.1,o)∈kZ w z q i ps ep fr++fW w z l:=by
   have:=hU _ m;refine dw (fB this) (λe=>?_) λe=>dw e (λe=>?_) λe=>?_
   ·exact⟨_,by rw[e];exact .tail _ (.tail _ (.tail _ (.head _)))⟩
   ·exact⟨_,by rw[e];exact .tail _ (.tail _ (.tail _ (.tail _ (.head _))))⟩
   ·exact⟨_,by rw[e];exact .tail _ (.tail _ (.tail _ (.tail _ (.tail _ (.head _)))))⟩
  obtain⟨o,ho⟩:=e;have:=Ho H.nd ho hp rfl;rw[←this]at hm;cases hm
 rcases mA hp with hp|hp
 ·apply nV hp
  ·exact .inr ⟨.head _,keep _ (.head _) rfl⟩
  ·exact .inr ⟨.tail _ (.head _),keep _ (.tail _ (.head _)) rfl⟩
  ·exact .inr ⟨.tail _ (.tail _ (.head _)),keep _ (.tail _ (.tail _ (.head _))) rfl⟩
  ·exact .inl g1
  ·exact .inl g2
  ·exact .inl g3
 ·refine .inr ⟨inr hp,keep _ (inr hp) ?_⟩;rcases mA hp with hp|hp
  ·apply fX hp<;>rfl
  ·refine aS (aN.mp hp) λaf af aG=>?_;subst aG;rfl
noncomputable def ez(T:Nat→List Nat)(pt k i n:Nat):List (Int×Nat):=((yR i n).filter λj=>lexLt (T j) (T k)).map λ(j:Nat)=>((j:Int),pt+j)
theorem afS(T:Nat→List Nat)(pt k i n:Nat):ez T pt k i (n+1)=(match lexLt (T i) (T k)with|true=>[((i:Int),pt+i)]|false=>[])++ez T pt k (i+1) n:=by
 delta ez;rw[C1,mE];cases lexLt (T i) (T k)<;>rfl
structure O5(w:ao)(z:KZ)(l:LZ)(T:Nat→List Nat)(q:LL)(i n:Nat)(ps:List (Int×Nat))(fr:Option (Nat×aj))(x:Nat×Option (Nat×aj))(h h':az):Prop where
 acc:h'.get? q.acc=some (ai ((ps++ez T q.pt q.k i n).map iv) x.1)
 aB:h'.get? q.aB=some (bz w ko x.2)
 it:h'.get? q.it=some (aC "list_iterator" .none 6)
 told:fr.isSome=true∨n≠0→x.2.isSome=true
 keeps:Keeps [q.it,q.acc,q.aB] h h'
theorem afT(pt i:Nat)(h:i<6):(six pt)[i]?=some (vI pt i):=by
 match i,h with
 |0,_=>rfl
 |1,_=>rfl
 |2,_=>rfl
 |3,_=>rfl
 |4,_=>rfl
 |5,_=>rfl
theorem afU(w0:ao)(fb fc:Bool)(z:KZ)(l:LZ)(T:Nat→List Nat)(hM:pL (ak w0 fb fc) z l T)(q:LL)(hk:q.k<6):∀(n i:Nat) (ps:List (Int×Nat)) (ep:Nat) (fr:Option (Nat×aj)),i+n=6→ps.length≤i→
  Wide (ak w0 fb fc) 90 (yb q) (λh=>Lies (kt (ak w0 fb fc).params) h (kZ (ak w0 fb fc) z q i ps ep fr++fW (ak w0 fb fc) z l)) (Nat×Option (Nat×aj)) (λaf=>.ok .next) (O5 (ak w0 fb fc) z l T q i n ps fr):=by
 intro n;have rc:=aeG w0 fb fc z hM.hx l;generalize hw:ak w0 fb fc=w at*;induction n with
 |zero=>
  intro i ps ep fr hi hp;obtain rfl:i=6:=hi;refine d7 rfl rfl λA s R hT hP hR=>?_;refine⟨_,hP.left,aq (dec 180716149952504198) (.done (.ok .next) [(4,q.acc,ai (ps.map iv) ep),(5,q.aB,bz w ko fr),(3,q.it,aC "list_iterator" .none 6)] []),au (bu λhp t' K T' hu af af af=>?_),?_⟩
  ·refine hR (ep,fr) hp t' T' ⟨?_,hu (q.aB,_) (.tail _ (.head _)),hu (q.it,_) (.tail _ (.tail _ (.head _))),λh=>h.elim id λh=>absurd rfl h,K⟩;have:ez T q.pt q.k 6 0=[]:=rfl;rw[this,dZ];exact hu (q.acc,_) (.head _)
  ·clear hP hR hT hp hk hM rc;(apply cO hw;kernel_rfl!)
 |succ n ih=>
  intro i ps ep fr hi hps;have h6:i<6:=by exact Tf hi
  refine aS (hM.lt i q.k (q.pt+i) (q.pt+q.k) h6 hk) λcc hc hf=>?_;have s1:=lG w q.it q.P i (six q.pt) 8 (vI q.pt i) (afT q.pt i h6);have s2:=N2 w l.f z hM.hx;intro A s R hA hT hP hR;have dc:bK 91 (A.under (yb q)):=hA.under rfl;refine zh ?_;generalize A.under (yb q)=A' at dc⊢;show wpAny (model pw w) A' ((compTurn iN 0 (.ref q.it) (.ref q.acc) (ya q.g q.c q.aB)).onRaise λx=>do sQ x (ya q.g q.c q.aB);zg x) _ _ s
  refine zj ?_;have e:=afN (eE iN) (vV iN).target (vV iN).iter (eE rD) (iu 0 rD) (oO iN) iN.pos rD.pos (.ref q.it) (.ref q.acc) (ya q.g q.c q.aB) afQ;rw[←afP]at e;rw[e];refine av ?_;delta Hs;rw[zq,J0,Dy,mR];have LA:Lies (kt w.params) s.heap (kZ w z q i ps ep fr++z.eu w l.f):=hP.sub (vB (mO _) (pU _ _));refine mw OZ (b:=91) (l:=kZ w z q i ps ep fr++z.eu w l.f)
   (aq (dec 390) (.cut 119 _ [(0,false,q.P,ai (six q.pt) 8),(3,true,q.it,aC "list_iterator" (.ref q.P) i)] Unit _ (λaf=>[(3,q.it,aC "list_iterator" (.ref q.P) (i+1))]) (λaf=>[]) λaf af tk=>
   aq (dec 16359903752) (.cut 100 _ (ixs [6,7,8,9,10,11,12,13] (z.eu w l.f)) Nat _ (λaf=>[]) (λa=>[(a,cu [] 0),(a+1,jL z a (.int (i:Int) (q.pt+i)))]) λa af af=>
   aq (dec 3993861) (.cut 100 _ (ixs [6,7,8,9,10,11,12,13] (z.eu w l.f)) Nat _ (λaf=>[]) (λa=>[(a,cu [] 0),(a+1,jL z a (.int (q.k:Int) (q.pt+q.k)))]) λb af af=>
   aq (dec 0) (.done (.ok (.ret (.int ((a+1:Nat):Int) (b+1)))) [(3,q.it,aC "list_iterator" (.ref q.P) (i+1)),(4,q.acc,ai (ps.map iv) ep),(5,q.aB,bz w ko (some (bE fr tk,vI q.pt i)))] [(15,a+1,jL z a (.int (i:Int) (q.pt+i))),(17,b+1,jL z b (.int (q.k:Int) (q.pt+q.k)))])))))
   (au (ay s1 λaf af tk=>au (ay (s2 (i:Int) (q.pt+i)) λa af af=>au (ay (s2 (q.k:Int) (q.pt+q.k)) λb af af=>au (bu λhp t' K T' hu hn hf' hd=>?_))))) LA dc ?_ rfl
  ·intro f hf2;obtain rfl:=afR hf2;have K:Keeps [q.it,q.acc,q.aB] s.heap hp:=K;have L1:=Hu (i':=i+1) (ps':=ps) (dj:=ep) (cQ:=some (bE fr tk,vI q.pt i)) hP T' K (λu hu=>hu) (hu (q.it,_) (.head _)) (hu (q.acc,_) (.tail _ (.head _))) (hu (q.aB,_) (.tail _ (.tail _ (.head _))));have ga:hp.get? (a+1)=some (jL z a (.int (i:Int) (q.pt+i))):=hn (a+1,_) (.head _);have gb:hp.get? (b+1)=some (jL z b (.int (q.k:Int) (q.pt+q.k))):=hn (b+1,_) (.tail _ (.head _));have fa:s.heap.objs.size≤a+1:=hf' (15,a+1,_) (.head _);have O6:s.heap.objs.size≤b+1:=hf' (17,b+1,_) (.tail _ (.head _));have hN:((kU w z l a b (i:Int) (q.k:Int) (q.pt+i) (q.pt+q.k)).map (·.2.1)).Nodup:=by
    have old:∀x∈adr (fW w z l),x<s.heap.objs.size:=λx hx=>hP.right.lt hx;show((a+1)::(b+1)::adr (fW w z l)).Nodup;refine bA.mpr ⟨λm=>?_,bA.mpr ⟨λm=>sf O6 (old _ m),L1.right.nd⟩⟩;rcases aM.mp m with e|m
    ·exact(bA.mp hd).1 (e▸.head _)
    ·exact sf fa (old _ m)
   show wpAny (model pw w) A' (Ht _ _ _ _ _ (some (.ref (a+1),.ref (b+1)))) _ _ _;delta Ht;refine av (wpAny_operateT (rc a b (i:Int) (q.k:Int) (q.pt+i) (q.pt+q.k) cc hf (s:=⟨hp,s.gens,s.drawn,t',s.os⟩) (dc.le (by decide)) T' (λp hp=>?_) hN λh' t2 K2=>?_))
   ·rcases aM.mp hp with rfl|hp
    ·exact ga
    rcases aM.mp hp with rfl|hp
    ·exact gb
    ·exact L1.right.has p hp
   rw[hc];refine av (jX (sE ?_));have T2:=T'.keep K2 λaf h=>nomatch h;have L2:=L1.ext T2 K2;have g9:Keeps [q.it,q.acc,q.aB] s.heap h':=K.trans K2.ext;have hs:=afS T q.pt q.k i n;delta OY;cases hlt:lexLt (T i) (T q.k)with
   |false=>
    rw[hlt]at hs;dsimp only[mK,if_false];refine aJ ⟨rfl,ih (i+1) ps ep (some (bE fr tk,vI q.pt i)) (Iz hi) (yx hps) A ⟨h',s.gens,s.drawn,t2,s.os⟩ R hA T2 L2 λx h3 t3 T3 q3=>hR x h3 t3 T3 ⟨?_,q3.aB,q3.it,λaf=>q3.told (.inl rfl),g9.trans q3.keeps⟩⟩;rw[hs];exact q3.acc
   |true=>
    rw[hlt]at hs;dsimp only[if_true];rw[mR,ZFast.ze11478286150595567475];have ih2:=ih (i+1) (ps++[((i:Int),q.pt+i)]) (ep+1) (some (bE fr tk,vI q.pt i)) (Iz hi) (by rw[fZ];exact ig hps)
    have em:(ps++[((i:Int),q.pt+i)]).map iv=ps.map iv++[vI q.pt i]:=aL;refine BA (b:=90) (l:=kZ w z q (i+1) ps ep (some (bE fr tk,vI q.pt i)))
     (aq (dec 456) (.cut 119 _ [(4,true,q.acc,ai (ps.map iv) ep)] Unit _ (λaf=>[(4,q.acc,ai (ps.map iv++[vI q.pt i]) (ep+1))]) (λaf=>[]) λaf af af=>
     aq (dec 0) (.wide 90 (yb q) [(3,true,q.it,aC "list_iterator" (.ref q.P) (i+1)),(4,true,q.acc,ai (ps.map iv++[vI q.pt i]) (ep+1)),(5,true,q.aB,bz w ko (some (bE fr tk,vI q.pt i)))] (Nat×Option (Nat×aj)) (λaf=>.ok .next) (λaf=>[]) λx h1 af af=>
     aq (dec 0) (.done (.ok .next) [] []))))
     (au (ay (iJ w q.acc (ps.map iv) ep (vI q.pt i) (by rw[bl];exact Ua h6 hps)) λaf af af=>au (cC ih2 (λh a=>?_) (λaf af h' af T af=>⟨(λaf h=>nomatch h),.nil,(λaf h=>nomatch h),T⟩) λx h h1 af af a1 T1 q1=>au (bu λhp2 t3 K3 T3 af af af af=>?_)))) L2.left hA dc ?_ rfl
    ·exact Hu L2 a.lies.top a.keeps (λu hu=>hu) (a.lies.get (p:=(true,q.it,_)) (.head _)) (by rw[em];exact a.lies.get (p:=(true,q.acc,_)) (.tail _ (.head _))) (a.lies.get (p:=(true,q.aB,_)) (.tail _ (.tail _ (.head _))))
    ·have K3:Keeps [] h1 hp2:=K3;refine hR x hp2 t3 T3 ⟨?_,K3.2 _ _ (λh=>nomatch h) q1.aB,K3.2 _ _ (λh=>nomatch h) q1.it,λaf=>q1.told (.inl rfl),((g9.trans a1.keeps).trans q1.keeps).trans K3.ext⟩;have:=q1.acc;rw[fP]at this;rw[hs];exact K3.2 _ _ (λh=>nomatch h) this
    ·intro R;clear hP hR hT hps hk hM rc LA hA dc s1 s2 hc hf ih h6 hi e hf2 K L1 ga gb fa O6 hN T2 L2 g9 K2 hs hlt ih2 em hu hn hf' hd T';obtain⟨P,pt,c,k,g,it,acc,aB⟩:=q;(apply jC hw fr;kernel_rfl!)
  ·intro R;clear hP hR hT hps hk hM rc LA hA dc s1 s2 hc hf ih h6 hi e;obtain⟨P,pt,c,k,g,it,acc,aB⟩:=q;(apply jC hw fr;kernel_rfl!)
theorem afV(w0:ao)(fb fc:Bool)(z:KZ)(l:LZ)(T:Nat→List Nat)(hM:pL (ak w0 fb fc) z l T)(q:LL)(hk:q.k<6):
  Spec (ak w0 fb fc) 89 (nO q) ([(false,q.P,ai (six q.pt) 8),(false,q.g+1,bG (some (.ref (z.x+1))))]++fW (ak w0 fb fc) z l++[(false,q.c,bG (some (vI q.pt q.k))),(true,q.it,aC "list_iterator" (.ref q.P) 0),(true,q.acc,ai [] 0),(true,q.aB,bz (ak w0 fb fc) ko none)]) (Nat×Nat×aj) (λaf=>.ok .next)
   (λx=>[(q.it,aC "list_iterator" .none 6),(q.acc,ai ((ez T q.pt q.k 0 6).map iv) x.1),(q.aB,bz (ak w0 fb fc) ko (some x.2))]) (λaf=>[]):=by
 have gx:=afU w0 fb fc z l T hM q hk 6 0 [] 0 none rfl (bk _);refine Gk (pre:=kZ (ak w0 fb fc) z q 0 [] 0 none++fW (ak w0 fb fc) z l) ?_ (.cons _ ((List.Perm.swap _ _ _).trans (.cons _ (vo (l₁:=[_,_,_,_])))));generalize hw:ak w0 fb fc=w at*;intro A s R hA hT hP hN hK hR;have L:Lies (kt w.params) s.heap (kZ w z q 0 [] 0 none++fW w z l):=⟨hP,hN,hK,hT⟩;refine d7 (w:=w) (b:=89) (c:=nO q) (Pre:=λh=>Lies (kt w.params) h (kZ w z q 0 [] 0 none++fW w z l)) (X:=Nat×Option (Nat×aj)) (res:=λaf=>.ok .next) (Post:=O5 w z l T q 0 6 [] none) rfl rfl (λA s R hT hP hR=>?_) A s R hA hT L λx h' t' T' p=>?_
 ·refine⟨_,hP.left,aq (bif fc then dec 0 else dec 1597830) (.wide 90 (yb q) [(3,true,q.it,aC "list_iterator" (.ref q.P) 0),(4,true,q.acc,ai [] 0),(5,true,q.aB,bz w ko none)] (Nat×Option (Nat×aj)) (λaf=>.ok .next) (λaf=>[]) λx h1 af af=>
   aq (dec 0) (.done (.ok .next) [] [])),au (cC gx (λh a=>?_) (λaf af h' af T af=>⟨(λaf h=>nomatch h),.nil,(λaf h=>nomatch h),T⟩) λx h h1 af af a1 T1 q1=>au (bu λhp t' K T' af af af af=>?_)),?_⟩
  ·exact Hu hP a.lies.top a.keeps (λu hu=>hu) (a.lies.get (p:=(true,q.it,_)) (.head _)) (a.lies.get (p:=(true,q.acc,_)) (.tail _ (.head _))) (a.lies.get (p:=(true,q.aB,_)) (.tail _ (.tail _ (.head _))))
  ·have K:Keeps [] h1 hp:=K;exact hR x hp t' T' ⟨K.2 _ _ (λh=>nomatch h) q1.acc,K.2 _ _ (λh=>nomatch h) q1.aB,K.2 _ _ (λh=>nomatch h) q1.it,q1.told,(a1.keeps.trans q1.keeps).trans K.ext⟩
  ·clear hP hR hT gx hM hN hK L hA;obtain⟨P,pt,c,k,g,it,acc,aB⟩:=q;(apply tK hw;kernel_rfl!)
 ·obtain⟨v,hv⟩:=sD.mp (p.told (.inr (by decide)))
  have e:=p.aB;rw[hv]at e;refine hR (x.1,v) h' t' p.keeps (λp' gv=>?_) (λaf h=>nomatch h) (λaf h=>nomatch h) .nil;have gv:=fB gv;rcases gv with rfl|rfl|rfl
  ·exact p.it
  ·exact p.acc
  ·exact e
def pM(w:ao)(z:KZ)(l:LZ)(q:LL)(n i:Nat):List (Nat×Bool×Nat×Obj):=
 [(0,false,q.P,ai (six q.pt) 8),(1,false,q.g+1,bG (some (.ref (z.x+1))))]++ixs [2,3,4,5,6,7,8,9,10,11,12,13] (fW w z l)++[(n,false,q.c,bG (some (vI q.pt q.k))),(i,true,q.it,aC "list_iterator" (.ref q.P) 0),(i+1,true,q.acc,ai [] 0),(i+2,true,q.aB,bz w ko none)]
def rE(w:ao)(T:Nat→List Nat)(q:LL)(i:Nat)(x:Nat×Nat×aj):List (Nat×Nat×Obj):=
 [(i,q.it,aC "list_iterator" .none 6),(i+1,q.acc,ai ((ez T q.pt q.k 0 6).map iv) x.1),(i+2,q.aB,bz w ko (some x.2))]
theorem afW(w:ao)(z:KZ)(l:LZ)(q:LL)(n i:Nat):(pM w z l q n i).map (·.2)=[(false,q.P,ai (six q.pt) 8),(false,q.g+1,bG (some (.ref (z.x+1))))]++fW w z l++[(false,q.c,bG (some (vI q.pt q.k))),(true,q.it,aC "list_iterator" (.ref q.P) 0),(true,q.acc,ai [] 0),(true,q.aB,bz w ko none)]:=by
 kernel_rfl!
theorem afX(w0:ao)(fb fc:Bool)(z:KZ)(l:LZ)(T:Nat→List Nat)(hM:pL (ak w0 fb fc) z l T)(q:LL)(hk:q.k<6)(n i:Nat):
  s9 pw (ak w0 fb fc) (kt (ak w0 fb fc).params) 89 (nO q) ((pM (ak w0 fb fc) z l q n i).map (·.2)) (Nat×Nat×aj) (λaf=>.ok .next) (λx=>(rE (ak w0 fb fc) T q i x).map (·.2)) (λaf=>[]):=by
 rw[afW];exact afV w0 fb fc z l T hM q hk
noncomputable def uR(T:Nat→List Nat)(pt a0 e0 a1 e1 a2 e2 a3 e3 a4 e4 a5 e5:Nat):List GE:=
 [⟨0,pt,a0,ez T pt 0 0 6,e0⟩,⟨1,pt+1,a1,ez T pt 1 0 6,e1⟩,⟨2,pt+2,a2,ez T pt 2 0 6,e2⟩,⟨3,pt+3,a3,ez T pt 3 0 6,e3⟩,⟨4,pt+4,a4,ez T pt 4 0 6,e4⟩,⟨5,pt+5,a5,ez T pt 5 0 6,e5⟩]
noncomputable def O7(T:Nat→List Nat)(pt:Nat):G:=A0 [] (uR T pt 0 0 0 0 0 0 0 0 0 0 0 0)
def pN(w:ao)(SC k1 DR k2 TX k3 TL k4 S k5:Nat):Obj:=iK [de w uP k1 (.ref SC),de w x8 k2 (.ref DR),de w wk k3 (.ref TX),de w xS k4 (.ref TL),de w tD k5 (.ref S)]
structure afY(w:ao)(T:Nat→List Nat)(g SC k1 DR k2 TX k3 TL k4 pt:Nat)(x:SS×SV×Nat)(h h':az):Prop where
 lies:Lies (kt w.params) h' (aO w x.1 x.2.1)
 frame:h'.get? g=some (pN w SC k1 DR k2 TX k3 TL k4 x.1.S x.2.2)
 keeps:Keeps [g] h h'
 hD:236≤x.1.D
 fresh:∀a∈aE x.1 x.2.1,h.objs.size≤a
 ready:x.2.1.ready=.none
 np:x.2.1.np=0
 nf:x.2.1.nf=0
 nd:(names x.2.1).Nodup
 is:x.2.1.g=O7 T pt
theorem afZ(w0:ao)(fb fc:Bool)(f:Option (List Env))(g SC k1 DR k2 TX k3 TL k4 P pt:Nat)(z:KZ)(l:LZ)(T:Nat→List Nat)(hM:pL (ak w0 fb fc) z l T)(hok:∀a0 e0 a1 e1 a2 e2 a3 e3 a4 e4 a5 e5,pq [] (uR T pt a0 e0 a1 e1 a2 e2 a3 e3 a4 e4 a5 e5)):
  WT (ak w0 fb fc) f 61 (execs (fV 7 1) (eV g)) (λh=>Lies (kt (ak w0 fb fc).params) h ([(false,P,ai (six pt) 8),(false,g+1,bG (some (.ref (z.x+1))))]++fW (ak w0 fb fc) z l++[(false,g+2,bG (some (.ref P))),(true,g,jd (ak w0 fb fc) SC k1 DR k2 TX k3 TL k4)])) (SS×SV×Nat) (λaf=>.next) (afY (ak w0 fb fc) T g SC k1 DR k2 TX k3 TL k4 pt):=by
 have h1:=λq hk n i=>afX w0 fb fc z l T hM q hk n i;have h2:=λG bB hG=>acT w0 fb fc G 6 hG bB;generalize hw:ak w0 fb fc=w at*;rw[qh];refine x7 rfl λA s R hF hT hP hR=>?_;obtain⟨g0,hg⟩:=GD hT rfl;refine⟨_,hP,aq (bif fc then dec 11907573163695477967976520518526128472852018246721 else dec 199775927003122392091983167667750078502130329341806785601) (.cut 89 (nO ⟨P,pt,s.heap.objs.size+3,0,g,(s.heap.objs.size+4),(s.heap.objs.size+4)+1,(s.heap.objs.size+4)+2⟩) (pM w z l ⟨P,pt,s.heap.objs.size+3,0,g,(s.heap.objs.size+4),(s.heap.objs.size+4)+1,(s.heap.objs.size+4)+2⟩ 19 20) (Nat×Nat×aj) (λaf=>.ok .next) (rE w T ⟨P,pt,s.heap.objs.size+3,0,g,(s.heap.objs.size+4),(s.heap.objs.size+4)+1,(s.heap.objs.size+4)+2⟩ 20) (λaf=>[]) λx1 aX aF=>
  aq (dec 45440120341390975370863706117381310894937689) (.cut 89 (nO ⟨P,pt,s.heap.objs.size+3,1,g,aX,aX+1,aX+2⟩) (pM w z l ⟨P,pt,s.heap.objs.size+3,1,g,aX,aX+1,aX+2⟩ 19 23) (Nat×Nat×aj) (λaf=>.ok .next) (rE w T ⟨P,pt,s.heap.objs.size+3,1,g,aX,aX+1,aX+2⟩ 23) (λaf=>[]) λx2 aQ b4=>
  aq (dec 45456453895003180417109948098538035769100060) (.cut 89 (nO ⟨P,pt,s.heap.objs.size+3,2,g,aQ,aQ+1,aQ+2⟩) (pM w z l ⟨P,pt,s.heap.objs.size+3,2,g,aQ,aQ+1,aQ+2⟩ 19 26) (Nat×Nat×aj) (λaf=>.ok .next) (rE w T ⟨P,pt,s.heap.objs.size+3,2,g,aQ,aQ+1,aQ+2⟩ 26) (λaf=>[]) λx3 bW bV=>
  aq (dec 45472787448615385463356190079694760643262431) (.cut 89 (nO ⟨P,pt,s.heap.objs.size+3,3,g,bW,bW+1,bW+2⟩) (pM w z l ⟨P,pt,s.heap.objs.size+3,3,g,bW,bW+1,bW+2⟩ 19 29) (Nat×Nat×aj) (λaf=>.ok .next) (rE w T ⟨P,pt,s.heap.objs.size+3,3,g,bW,bW+1,bW+2⟩ 29) (λaf=>[]) λx4 d9 eO=>
  aq (dec 45489121002227590509602432060851485517424802) (.cut 89 (nO ⟨P,pt,s.heap.objs.size+3,4,g,d9,d9+1,d9+2⟩) (pM w z l ⟨P,pt,s.heap.objs.size+3,4,g,d9,d9+1,d9+2⟩ 19 32) (Nat×Nat×aj) (λaf=>.ok .next) (rE w T ⟨P,pt,s.heap.objs.size+3,4,g,d9,d9+1,d9+2⟩ 32) (λaf=>[]) λx5 eT gF=>
  aq (dec 45505454555839795555848674042008210391587173) (.cut 89 (nO ⟨P,pt,s.heap.objs.size+3,5,g,eT,eT+1,eT+2⟩) (pM w z l ⟨P,pt,s.heap.objs.size+3,5,g,eT,eT+1,eT+2⟩ 19 35) (Nat×Nat×aj) (λaf=>.ok .next) (rE w T ⟨P,pt,s.heap.objs.size+3,5,g,eT,eT+1,eT+2⟩ 35) (λaf=>[]) λx6 gQ cy=>
  aq (dec 332919259283009765484794278480424) (.wide 88 (.call (.ref 192) ⟨[.ref (s.heap.objs.size+1)],[]⟩) [(15,true,g,jd w SC k1 DR k2 TX k3 TL k4),(17,false,s.heap.objs.size+1,bU ((uR T pt ((s.heap.objs.size+4)+1) x1.1 (aX+1) x2.1 (aQ+1) x3.1 (bW+1) x4.1 (d9+1) x5.1 (eT+1) x6.1).map GE.key) 6),(21,false,(s.heap.objs.size+4)+1,ai ((ez T pt 0 0 6).map iv) x1.1),(24,false,aX+1,ai ((ez T pt 1 0 6).map iv) x2.1),(27,false,aQ+1,ai ((ez T pt 2 0 6).map iv) x3.1),(30,false,bW+1,ai ((ez T pt 3 0 6).map iv) x4.1),(33,false,d9+1,ai ((ez T pt 4 0 6).map iv) x5.1),(36,false,eT+1,ai ((ez T pt 5 0 6).map iv) x6.1)] (SS×SV) (λx=>.ok (.ret (.ref x.1.S))) (λaf=>[(true,g,jd w SC k1 DR k2 TX k3 TL k4)]) λy h7 iY dU=>
  aq (dec 195) (.done (.ok .next) [(0,g,pN w SC k1 DR k2 TX k3 TL k4 y.1.S dU)] [])))))))),au (ay (h1 ⟨P,pt,s.heap.objs.size+3,0,g,(s.heap.objs.size+4),(s.heap.objs.size+4)+1,(s.heap.objs.size+4)+2⟩ (show 0<6 by decide) 19 20) λx1 aX aF=>au (ay (h1 ⟨P,pt,s.heap.objs.size+3,1,g,aX,aX+1,aX+2⟩ (show 1<6 by decide) 19 23) λx2 aQ b4=>au (ay (h1 ⟨P,pt,s.heap.objs.size+3,2,g,aQ,aQ+1,aQ+2⟩ (show 2<6 by decide) 19 26) λx3 bW bV=>au (ay (h1 ⟨P,pt,s.heap.objs.size+3,3,g,bW,bW+1,bW+2⟩ (show 3<6 by decide) 19 29) λx4 d9 eO=>au (ay (h1 ⟨P,pt,s.heap.objs.size+3,4,g,d9,d9+1,d9+2⟩ (show 4<6 by decide) 19 32) λx5 eT gF=>au (ay (h1 ⟨P,pt,s.heap.objs.size+3,5,g,eT,eT+1,eT+2⟩ (show 5<6 by decide) 19 35) λx6 gQ cy=>au (cC (h2 (s.heap.objs.size+1) (uR T pt ((s.heap.objs.size+4)+1) x1.1 (aX+1) x2.1 (aQ+1) x3.1 (bW+1) x4.1 (d9+1) x5.1 (eT+1) x6.1) (UB hg) (by show[(0:Int),1,2,3,4,5].Nodup;decide) (hok _ _ _ _ _ _ _ _ _ _ _ _)) (λh a=>?_) (λy h h' a T' q=>?_) λy h7 h8 af dU a7 T7 q7=>au (bu λhp t' K T' hu af af af=>?_)))))))),?_⟩
 ·exact a.lies.right (l:=[(true,g,_)])
 ·exact Lies.one (q.2.1.2 _ _ (λh=>nomatch h) (a.lies.get (p:=(true,g,_)) (.head _))) (a.lies.off (true,g,jd w SC k1 DR k2 TX k3 TL k4) (.head _) rfl) T'
 ·have Ka:Keeps [g] s.heap h7:=a7.keeps;have K:Keeps [g] h8 hp:=K;refine nW q7 λq1 q2 q3 q4 q5 q6 q7 q8 q9=>?_;exact hR (y.1,y.2,dU) hp t' T' ⟨gy q1 T' K λb hb m=>(λa ha e=>sf (q4 a ha) (e▸(cK (a7.lies.get (p:=(true,g,_)) (.head _)))):∀a∈aE y.1 y.2,a≠g) b m (sA hb),hu (g,_) (.head _),(Ka.trans q2.ext).trans K,q3,λa ha=>bh Ka.1 (q4 a ha),q5,q6,q7,q8,q9⟩
 ·clear hP hR hT hF h1 h2 hM hok hg;(apply tK hw;kernel_rfl!)
def yc(w:ao)(SC k1 DR k2 TX k3 TL k4 S k5 C k6:Nat):Obj:=iK [de w uP k1 (.ref SC),de w x8 k2 (.ref DR),de w wk k3 (.ref TX),de w xS k4 (.ref TL),de w tD k5 (.ref S),de w Ab k6 (.ref C)]
structure af0(w:ao)(T:Nat→List Nat)(g SC k1 DR k2 TX k3 TL k4 S k5:Nat)(x:Nat×bF×Nat×Nat)(h h':az):Prop where
 lies:Lies (kt w.params) h' ([(true,x.1,ai (aT x.2.1) x.2.2.1)]++bI x.2.1)
 frame:h'.get? g=some (yc w SC k1 DR k2 TX k3 TL k4 S k5 x.1 x.2.2.2)
 keeps:Keeps [g,224] h h'
 is:xY T (dM x.2.1)
 fresh:∀a∈x.1::x.2.1.map (·.1),h.objs.size≤a
 tbl:∃vs,h'.get? 224=some (gk vs)
theorem af2(w0:ao)(fb fc:Bool)(f:Option (List Env))(g SC k1 DR k2 TX k3 TL k4 S k5 fN:Nat)(told:List Row)(h6:told.length=6):
  WT (ak w0 fb fc) f 61 (execs (fV 8 1) (eV g)) (λh=>Lies (kt (ak w0 fb fc).params) h ([(true,g,pN (ak w0 fb fc) SC k1 DR k2 TX k3 TL k4 S k5)]++([(false,TL,ai (c6 told) fN),(true,224,fy)]++ju told))) (Nat×bF×Nat×Nat) (λaf=>.next) (af0 (ak w0 fb fc) (fM told) g SC k1 DR k2 TX k3 TL k4 S k5):=by
 have h1:=afm w0 fb fc TL fN told h6;generalize hw:ak w0 fb fc=w at*;rw[qh];refine x7 rfl λA s R hF hT hP hR=>?_;refine⟨_,hP.left,aq (dec 4289) (.wide 80 (.call (.ref 229) ⟨[.ref TL],[]⟩) [(0,true,g,pN w SC k1 DR k2 TX k3 TL k4 S k5)] (Nat×bF×Nat) (λx=>.ok (.ret (.ref x.1))) (λaf=>[(true,g,pN w SC k1 DR k2 TX k3 TL k4 S k5)]) λx h7 iY dU=>
  aq (dec 195) (.done (.ok .next) [(0,g,yc w SC k1 DR k2 TX k3 TL k4 S k5 x.1 dU)] [])),au (cC h1 (λh a=>?_) (λy h h' a T' q=>?_) λy h7 h8 af dU a7 T7 q7=>au (bu λhp t' K T' hu af af af=>?_)),?_⟩
 ·refine hP.right.turn a.lies.top a.keeps rfl λp hp=>.inr ⟨hp,λm=>?_⟩;exact((bA.mp hP.nd).1) (aN.mpr ⟨p,hp,(sA m)⟩)
 ·have ga:=a.lies.get (p:=(true,g,_)) (.head _);exact Lies.one (q.2.1.2 _ _ (λm=>(bA.mp hP.nd).1 (by rw[sA m];exact .tail _ (.head _))) ga) (a.lies.off (true,g,pN w SC k1 DR k2 TX k3 TL k4 S k5) (.head _) rfl) T'
 ·have Ka:Keeps [g] s.heap h7:=a7.keeps;have K:Keeps [g] h8 hp:=K;obtain⟨q1,q2,q3,q4,vs,q5⟩:=q7;refine hR (y.1,y.2.1,y.2.2,dU) hp t' T' ⟨?_,hu (g,_) (.head _),(Ka.mono (λaf h=>by simp[(jN h)])).trans ((q2.mono (λaf h=>by simp[(jN h)])).trans (K.mono (λaf h=>by simp[(jN h)]))),q3,(λa ha=>bh Ka.1 (q4 a ha)),vs,K.2 _ _ (λm=>?_) q5⟩
  rotate_left
  ·exact(λm=>(bA.mp hP.nd).1 (by rw[sA m];exact .tail _ (.head _)):g∉[224]) (by rw[vq]at m⊢;exact m.symm)
  refine q1.turn T' K rfl λp hp=>.inr ⟨hp,λm=>?_⟩;have e:=sA m;refine(λa ha e=>sf (q4 a ha) (e▸(cK (a7.lies.get (p:=(true,g,_)) (.head _)))):∀a∈y.1::y.2.1.map (·.1),a≠g) p.2.1 ?_ e;rcases aM.mp hp with rfl|hp
  ·exact .head _
  ·refine .tail _ ?_;unfold bI at hp;refine aS (aN.mp hp) λo ho aG=>?_;subst aG;exact aN.mpr ⟨o,ho,rfl⟩
 ·clear hP hR hT hF h1;(apply cO hw;kernel_rfl!)
noncomputable def BE:Option aj→f7
 |some v=>.ret v
 |none=>.next
theorem af3{o:Option aj}{v:aj}(h:BE o=.ret v):o=some v:=by
 match o,h with
 |some x,h=>injection h with h;rw[h]
theorem af4{o:Option aj}(h:BE o=.next):o=none:=by
 match o,h with
 |none,_=>rfl
theorem af5(w0:ao)(fb fc:Bool)(I l i:Nat)(vs:List aj)(ep:Nat)(x:aj)(hx:vs[i]?=some x){A:aV}(hA:bK 100 A){s:aA}{E:aj→aA→Prop}{Q:Option aj→aA→Prop}
  (hL:Lies (kt (ak w0 fb fc).params) s.heap [(false,l,ai vs ep),(true,I,aC "list_iterator" (.ref l) i)])
  (hQ:∀h' t',aR (kt (ak w0 fb fc).params) h'→Keeps [I] s.heap h'→h'.get? I=some (aC "list_iterator" (.ref l) (i+1))→Q (some x) ⟨h',s.gens,s.drawn,t',s.os⟩):
  wpAny (model pw (ak w0 fb fc)) A (pyNext (.ref I)) Q E s:=by
 have h1:=lG (ak w0 fb fc) I l i vs ep x hx;generalize hw:ak w0 fb fc=w at*;rw[zq];refine mw BE (b:=100) (l:=[(false,l,ai vs ep),(true,I,aC "list_iterator" (.ref l) i)]) (aq (dec 260) (.cut 119 _ [(0,false,l,ai vs ep),(1,true,I,aC "list_iterator" (.ref l) i)] Unit _ (λaf=>[(1,I,aC "list_iterator" (.ref l) (i+1))]) (λaf=>[]) λaf af af=>aq (dec 0) (.done (.ok (.ret x)) [(1,I,aC "list_iterator" (.ref l) (i+1))] [])))
  (au (ay h1 λaf af af=>au (bu λhp t' K T hu af af af=>?_))) hL hA ?_ rfl
 ·intro v hv;rw[af3 hv];exact hQ hp t' T K (hu (I,_) (.head _))
 ·intro R;clear hL hQ h1 hA hx;(apply cO hw;kernel_rfl!)
theorem af6(w0:ao)(fb fc:Bool)(I l i:Nat)(vs:List aj)(ep:Nat)(hx:vs[i]?=none){A:aV}(hA:bK 100 A){s:aA}{E:aj→aA→Prop}{Q:Option aj→aA→Prop}
  (hL:Lies (kt (ak w0 fb fc).params) s.heap [(false,l,ai vs ep),(true,I,aC "list_iterator" (.ref l) i)])
  (hQ:∀h' t',aR (kt (ak w0 fb fc).params) h'→Keeps [I] s.heap h'→Q none ⟨h',s.gens,s.drawn,t',s.os⟩):
  wpAny (model pw (ak w0 fb fc)) A (pyNext (.ref I)) Q E s:=by
 have h1:=oQ (ak w0 fb fc) I l i vs ep hx;generalize hw:ak w0 fb fc=w at*;rw[zq];refine mw BE (b:=100) (l:=[(false,l,ai vs ep),(true,I,aC "list_iterator" (.ref l) i)]) (aq (dec 260) (.cut 110 _ [(0,false,l,ai vs ep),(1,true,I,aC "list_iterator" (.ref l) i)] Nat _ (λaf=>[(1,I,aC "list_iterator" .none i)]) (λx=>[(x,aK []),(x+1,gf x)]) λaf af af=>aq (dec 6) (.done (.ok .next) [(1,I,aC "list_iterator" .none i)] [])))
  (au (ay h1 λaf af af=>au (bu λhp t' K T hu af af af=>?_))) hL hA ?_ rfl
 ·intro v hv;rw[af4 hv];exact hQ hp t' T K
 ·intro R;clear hL hQ h1 hA hx;(apply cO hw;kernel_rfl!)
theorem af7(w0:ao)(fb fc:Bool)(l ep I S:Nat)(vs:List (Nat×Nat))(val:Nat→Int)(hval:∀i v,(aD vs)[i]?=some v→∃t,v=iV (val i) t)(hfit:∀j,j<vs.length→InLong (val j)∧InLong (jf val (j+1))):∀(n i:Nat) (tA c:Nat),i+n=vs.length→
  Wide (ak w0 fb fc) 99 (.builtin "sum.loop" ⟨[.ref I,.ref S,cW 0,cW 0],[]⟩) (λh=>Lies (kt (ak w0 fb fc).params) h [(false,l,ai (aD vs) ep),(true,I,aC "list_iterator" (.ref l) i),(true,S,ai [.int (jf val i) tA] c)]) (Int×Nat) (λx=>.ok (.ret (.int x.1 x.2))) (λaf h h'=>Keeps [I,S] h h'):=by
 intro n;induction n with
 |zero=>
  intro i tA c hi A s R hA hT hP hR;refine cN F.entry_sum_loop ?_;rw[gO zE _];show wpAny _ A.in1 (qe (.ref S)>>=_) _ _ s;refine av (oi (hP.get (p:=(true,S,_)) (.tail _ (.tail _ (.head _)))) rfl ?_);show wpAny _ A.in1 (tryCatch (pyNext (.ref I)) _>>=_) _ _ s;refine av (Dv (af6 w0 fb fc I l i (aD vs) ep (CU (by unfold aD;rw[bl];exact Th hi)) hA.in1 (hP.sub (.cons_cons _ (.cons_cons _ (.cons _ .slnil)))) λh' t' T' K=>?_))
  exact aJ (hR (jf val i,tA) h' t' T' (Keeps.mono K λaf m=>by rw[sA m];exact .head _))
 |succ n ih=>
  intro i tA c hi A s R hA hT hP hR;have hS:s.heap.get? S=some {cls:=.type "list",dict:=none,data:=.seq #[.int (jf val i) tA] c,slots:=#[]}:=hP.get (p:=(true,S,_)) (.tail _ (.tail _ (.head _)));have nd:=hP.nd;have O8:S∉[I]:=λm=>by
   rw[sA m]at nd;simp at nd
  have nlI:l∉[I]:=λm=>by
   rw[sA m]at nd;simp at nd
  have nlS:l∉[S]:=λm=>by
   rw[sA m]at nd;simp at nd
  have hlt:i<vs.length:=by exact yy hi
  obtain⟨v,e⟩:=(⟨_,fY (by unfold aD;rw[bl];exact hlt)⟩:∃v,(aD vs)[i]?=some v)
  obtain⟨t,rfl⟩:=hval i v e;obtain⟨⟨f1,f2⟩,f3,f4⟩:=hfit i hlt;have hc:((decide (-(2^63)≤val i) && decide (val i<2^63)) && (decide (-(2^63)≤jf val i+val i) && decide (jf val i+val i<2^63)))=true:=by
   dsimp only[jf]at f3 f4;simp only[Di,decide_eq_true_eq];exact⟨⟨f1,f2⟩,f3,f4⟩
  refine cN F.entry_sum_loop ?_;rw[gO zE _];show wpAny _ A.in1 (qe (.ref S)>>=_) _ _ s;refine av (oi hS rfl ?_);show wpAny _ A.in1 (tryCatch (pyNext (.ref I)) _>>=_) _ _ s;refine av (Dv (af5 w0 fb fc I l i (aD vs) ep _ e hA.in1 (hP.sub (.cons_cons _ (.cons_cons _ (.cons _ .slnil)))) λh' tk T' K g=>?_));have hS':=K.2 _ _ O8 hS;show wpAny _ A.in1 (if(_:Bool)=true then(mkInt (jf val i+val i)>>=_)else _) _ _ _
  split
  ·refine av (qd ?_);show wpAny _ A.in1 (updateSeq S (λaf=>#[.int (jf val i+val i) tk])>>=_) _ _ _;refine av ?_;have k2:Keeps [S] h' (h'.update S (cz λaf=>#[iV (jf val i+val i) tk])):=Keeps.upd _ (.head _);have T2:=T'.keep k2 λa ha=>by rw[sA ha];exact hP.off (true,S,_) (.tail _ (.tail _ (.head _))) rfl
   refine wpAny_updateSeq hS' rfl (aJ ⟨vJ zE _,ih (i+1) tk c (E7 hi) A ⟨_,s.gens,s.drawn,tk+1,s.os⟩ R hA T2 ?_ λy h3 t3 T3 K3=>?_⟩)
   ·refine hP.turn T2 ((Keeps.mono K (U':=[I,S]) λaf m=>by rw[sA m];exact .head _).trans (Keeps.mono k2 λaf m=>by rw[sA m];exact .tail _ (.head _))) rfl λp hp=>?_
    apply cB hp
    ·exact .inr ⟨.head _,λm=>(aM.mp m).elim (λe=>nlI (e▸.head _)) λm=>nlS m⟩
    ·exact .inl (k2.2 _ _ (λm=>O8 (vq.mpr (sA m).symm)) g)
    ·exact .inl (iW _ hS' rfl)
   ·refine hR y h3 t3 T3 ?_;have K1:Keeps [I,S] s.heap h':=Keeps.mono K λaf m=>by rw[sA m];exact .head _
    have K2:Keeps [I,S] h' _:=Keeps.mono k2 λaf m=>by rw[sA m];exact .tail _ (.head _)
    exact(K1.trans K2).trans K3
  ·rename_i hneg
   exact absurd hc hneg
theorem aga(vs:List (Nat×Nat))(hv:∀p∈vs,p.1<1000000)(j:Nat):0≤numAt ⟨vs.map λp=>((p.1:Int),p.2)⟩ j∧numAt ⟨vs.map λp=>((p.1:Int),p.2)⟩ j<1000000:=by
 unfold numAt;rw[(by simp:(⟨vs.map λp=>((p.1:Int),p.2)⟩:Array (Int×Tok))[j]?=vs[j]?.map λp=>((p.1:Int),p.2))]
 cases h:vs[j]? with
 |none=>exact⟨yY _,by decide⟩
 |some p=>
  show 0≤(p.1:Int)∧(p.1:Int)<1000000;exact RE (hv p (eB h))
theorem O9{val:Nat→Int}(h:∀j,0≤val j∧val j<1000000):∀n:Nat,0≤jf val n∧jf val n≤1000000*(n:Int)
 |0=>⟨yY _,yY 0⟩
 |n+1=>by
  have:=h n;have:=O9 h n;unfold jf;exact Qp this.1 this.2 ‹_›
theorem Pa{a:Int}(h0:0≤a)(h1:a≤1000000000):InLong a:=by
 unfold InLong;exact Qx h0 h1
theorem agb(w0:ao)(fb fc:Bool)(l:Nat)(vs:List (Nat×Nat))(ep:Nat)(hv:∀p∈vs,p.1<1000000)(hn:vs.length≤900):Spec (ak w0 fb fc) 99 (.builtin "sum" ⟨[.ref l],[]⟩) [(false,l,ai (aD vs) ep)] (Int×Nat) (λx=>.ok (.ret (.int x.1 x.2))) (λaf=>[]) (λaf=>[]):=by
 intro A s R hA hT hP _ _ hR;have ho:s.heap.get? l=some (ai (aD vs) ep):=cL hP;have hl:s.heap.IsList l (intItems ⟨vs.map λp=>((p.1:Int),p.2)⟩):=⟨_,ho,rfl,ep,by
  show Data.seq ⟨aD vs⟩ ep=_;unfold intItems;simp[aD]⟩
 have hval:∀i v,(aD vs)[i]?=some v→∃t,v=iV (numAt ⟨vs.map λp=>((p.1:Int),p.2)⟩ i) t:=λi v h=>intItems_at (xs:=⟨vs.map λp=>((p.1:Int),p.2)⟩) (by
  unfold intItems;rw[←h];simp[aD];rfl)
 have hfit:∀j,j<vs.length→InLong (numAt ⟨vs.map λp=>((p.1:Int),p.2)⟩ j)∧InLong (jf (numAt ⟨vs.map λp=>((p.1:Int),p.2)⟩) (j+1)):=λj hj=>by
  have h1:=aga vs hv;have h2:=O9 h1 (j+1);have h3:=h1 j;exact⟨Pa h3.1 (Qz h3.2),Pa h2.1 (Qu h2.2 hj hn)⟩
 refine cN F.entry_sum ?_;rw[gO F.plain_sum _];unfold eY.«sum»;dsimp only[n7,yM];refine c9 (decide_eq_false (by decide)) ?_
 refine av (kH (show Builtin.Builtins.bindParams "sum" ["start"] 0 {}=pure [none]from rfl) ?_);refine av (iter_intList hl λs₂ e st hfp hlI=>?_);subst e;refine av (qd ?_);refine av (aJ ?_);dsimp only[C5,C7];refine av (av (av (Du (T:="int") (b:=false) (vN _ _ _) PySem.sub_int_str ?_)));dsimp only[mK,if_false];refine aJ (av (av (Du (T:="int") (b:=false) (vN _ _ _) PySem.sub_int_bytes ?_)));dsimp only[mK,if_false];refine aJ (av (av (Du (T:="int") (b:=false) (vN _ _ _) PySem.sub_int_bytearray ?_)));dsimp only[mK,if_false];refine aJ (aJ ?_);refine av (gu ?_);have k1:Keeps [] s.heap (s.heap.push (aC "list_iterator" (.ref l) 0)):=Keeps.push _ _ _;have k2:Keeps [] (s.heap.push (aC "list_iterator" (.ref l) 0)) ((s.heap.push (aC "list_iterator" (.ref l) 0)).push (ai [.int 0 s.toks] 0)):=Keeps.push _ _ _;have T2:=(hT.keep k1 λaf h=>nomatch h).keep k2 λaf h=>nomatch h;have e1:(s.heap.push (aC "list_iterator" (.ref l) 0)).objs.size=s.heap.objs.size+1:=iH ..;refine aJ ⟨vJ zE _,af7 w0 fb fc l ep s.heap.objs.size (s.heap.push (aC "list_iterator" (.ref l) 0)).objs.size vs (numAt ⟨vs.map λp=>((p.1:Int),p.2)⟩) hval hfit vs.length 0 s.toks 0 (iF _) A ⟨_,s.gens,s.drawn,s.toks+1,s.os⟩ R (hA.le (by decide)) T2 ?_ λx h' t' T' K=>?_⟩
 ·refine⟨λq hq=>?_,?_,λp hp hm=>?_,T2⟩
  ·simp only[bP,iS,aM,bO,or_false]at hq;rcases hq with rfl|rfl|rfl
   ·exact(k1.trans k2).2 _ _ (λh=>nomatch h) ho
   ·exact k2.2 _ _ (λh=>nomatch h) (jg _ rfl)
   ·exact jg _ rfl
  ·show[l,s.heap.objs.size,(s.heap.push (aC "list_iterator" (.ref l) 0)).objs.size].Nodup;rw[e1];simp only[bA,aM,or_false,rW,not_false_eq_true,gT,and_true];exact Up (cK ho)
  ·simp only[aM,bO,or_false]at hp;rcases hp with rfl|rfl|rfl
   ·cases hm
   ·exact gR hT (bk _)
   ·exact gR hT (by show _≤Array.size _;rw[e1];exact E2)
 ·refine hR x h' t' (((k1.trans k2).trans' K λa ha=>.inr ?_)) (λaf h=>nomatch h) (λaf h=>nomatch h) (λaf h=>nomatch h) .nil;apply bJ ha
  ·exact bk _
  ·rw[e1];exact jU _
section
open PySem.SeqAt
def uS:bR:=(fV 9 1).getD 0 (.Pass default)
theorem agc:fV 9 1=[.If (.Compare (eE (dg uS)) [.NotEq] [iu 0 (dg uS)] (dg uS).pos) (fBody uS) [] (zT uS)]:=by
 kernel_rfl!
theorem agd:qc .NotEq (iu 0 (dg uS))=false:=by
 kernel_rfl!
theorem age(g:Nat):(eV g).scope.kind≠.module:=by
 show(fScope jr).kind≠.module;rw[(by kernel_rfl!:(fScope jr).kind=.function)]
 decide
def rG(w:ao)(sl:Array (Option aj))(SC k1 DR k2 TX k3 TL k4 S k5 C k6:Nat):Obj:=wK sl [de w uP k1 (.ref SC),de w x8 k2 (.ref DR),de w wk k3 (.ref TX),de w xS k4 (.ref TL),de w tD k5 (.ref S),de w Ab k6 (.ref C)]
structure Pb(v:SV)(rs:List (List Int)):Prop where
 ready:v.ready=.none
 ne:v.l≠[]
 few:v.l.length≤900
 nf:v.nf=v.np
 nd:(names v).Nodup
 dfs:kP v.g (names v) []
 is:∀aI:Int,qM aI (v.g,(zeros v.l).map (·.1)) rs
 len:rs.length≤900
theorem agg(w0:ao)(fb fc:Bool)(g SC k1 DR k2 TX k3 TL k4 k5 C k6 dep ec:Nat)(dr:List (Nat×Nat))(hd:∀p∈dr,p.1<1000000)(hn:dr.length≤900)(oc:bF)(z:SS)(hz:236≤z.D)(v:SV)(hv:Pb v (dM oc)):
  WT (ak w0 fb fc) (some [eV g]) 61 (execs (fV 9 1) (eV g)) (λh=>Lies (kt (ak w0 fb fc).params) h [(false,g,yc (ak w0 fb fc) SC k1 DR k2 TX k3 TL k4 z.S k5 C k6),(false,DR,ai (aD dr) dep)]∧(Lies (kt (ak w0 fb fc).params) h (aO (ak w0 fb fc) z v)∧g∉aE z v∧(kt (ak w0 fb fc).params).get g=none)∧
    Lies (kt (ak w0 fb fc).params) h ([(true,C,ai (aT oc) ec)]++bI oc)∧∀a∈C::oc.map (·.1),a≠g∧a∉aE z v) (Array (Option aj)) (λaf=>.next)
   (λsl h h'=>h'.get? g=some (rG (ak w0 fb fc) sl SC k1 DR k2 TX k3 TL k4 z.S k5 C k6)∧bw (aE z v) [g] h h'):=by
 intro A s Q E hA hF hT hP hQ;obtain⟨hL,⟨hS,hg,hk⟩,hC,hca⟩:=hP;have hgo:s.heap.get? g=some (yc (ak w0 fb fc) SC k1 DR k2 TX k3 TL k4 z.S k5 C k6):=hL.get (p:=(false,g,_)) (.head _);rw[agc];refine zf (wpAny_If (wpAny_isTrue_Compare1 ?_ agd));have h1:=agb w0 fb fc DR dr dep hd hn;have h2:=λaI t=>acL w0 fb fc z hz v hv.ready hv.ne hv.few hv.nf [eV g] hv.nd hv.dfs aI t (dM oc) (hv.is aI) hv.len;generalize hw:ak w0 fb fc=w at*;rw[mR];refine mw Flow.ret (b:=61) (l:=[(false,g,yc w SC k1 DR k2 TX k3 TL k4 z.S k5 C k6),(false,DR,ai (aD dr) dep)])
  (aq (dec 50598081) (.cut 99 _ [(1,false,DR,ai (aD dr) dep)] (Int×Nat) _ (λaf=>[]) (λaf=>[]) λx af af=>
   aq (dec 1) (.eH A.frames 73 (.call (.ref 222) ⟨[.ref z.S,.int x.1 x.2],[]⟩) [] (Nat×bF×Nat) _ (λaf=>[]) λy h3 af af=>
   aq (dec 0) (.done (.ok (.ret (.ref y.1))) [] []))))
  (au (ay h1 λx af af=>au (jl (hF.symm▸h2 x.1 x.2) (λh a=>?pre) (λaf af h' af T af=>⟨(λaf h=>nomatch h),.nil,(λaf h=>nomatch h),T⟩) λy h2 h3 af af a2 T2 q2=>au (bu λhp t' K T' af af af af=>?fin)))) hL hA ?run rfl
 case run=>
  intro R;clear hL hS hC hgo h1 h2 hQ hT hF hA hv hz hd hn hg hk hca;(apply cO hw;kernel_rfl!)
 case pre=>
  have K:Keeps [] s.heap h:=a.keeps;refine⟨hS.ext a.lies.top K,⟨⟨age g,⟨g,_,rfl,tZ _,K.2 _ _ (λh=>nomatch h) hgo,λvs h=>by cases h⟩,trivial⟩,λb hb=>?_⟩⟩
  rw[show b=g from sA hb];exact⟨hg,hk⟩
 case fin=>
  intro vv dF;obtain rfl:vv=.ref y.1:=by injection dF
  refine kC q2 λr1 r2 r3 r4=>?_;have K0:Keeps [] s.heap h2:=a2.keeps;have K1:Keeps [] h3 hp:=K;have KF:bw (aE z v) [g] s.heap hp:=((K0.toF [g]).mono (λaf h=>nomatch h) (λaf h=>h)).trans (bw.trans r2 ((K1.toF [g]).mono (λaf h=>nomatch h) (λaf h=>h)));refine jQ (KF.2 g _ hg hgo) λaf sl gs=>?_;have gs:hp.get? g=some (rG w sl SC k1 DR k2 TX k3 TL k4 z.S k5 C k6):=gs;have C':=hC.wX T' KF λp hp=>by
   have m:p.2.1∈C::oc.map (·.1):=by
    rcases aM.mp hp with rfl|hp
    ·exact .head _
    ·unfold bI at hp;refine aS (aN.mp hp) λo ho aG=>?_;subst aG;exact .tail _ (aN.mpr ⟨o,ho,rfl⟩)
   exact⟨(hca _ m).2,λh=>(hca _ m).1 (sA h)⟩
  have D':=r1.ext T' K1;have G':Lies (kt w.params) hp [(false,g,rG w sl SC k1 DR k2 TX k3 TL k4 z.S k5 C k6)]:=Lies.seen gs T';refine mw Flow.ret (b:=61) (s₀:=⟨hp,s.gens,s.drawn,t',s.os⟩) (l:=[(false,g,rG w sl SC k1 DR k2 TX k3 TL k4 z.S k5 C k6)]) (aq (dec 3) (.done (.ok (.ret (.ref C))) [] [])) (au (bu λh4 t4 K4 T4 af af af af=>?fin2)) G' hA ?FO rfl;case FO=>
   intro R;clear hL hS hC hgo h1 hQ hT hF hA hv hz hd hn hg hk hca r1 r2 r3 r4 K0 K1 KF gs C' D' G' a2 T2;(apply cO hw;kernel_rfl!)
  case fin2=>
   intro v4 hv4;obtain rfl:v4=.ref C:=by injection hv4
   have K4:Keeps [] hp h4:=K4;have C4:=C'.ext T4 K4;have D4:=D'.ext T4 K4;have fl:∀(o:bF) (p:Nat×List (Int×Nat)×Nat),p∈o→(true,p.1,ai (p.2.1.map iv) p.2.2)∈bI o:=λo p hp=>aN.mpr ⟨p,hp,rfl⟩;refine compareNe_reads (Ov (D4.get (p:=(true,y.1,_)) (.head _)) λp hp=>D4.get (.tail _ (fl _ p hp))) (Ov (C4.get (p:=(true,C,_)) (.head _)) λp hp=>C4.get (.tail _ (fl _ p hp))) (xU _).1 (xU _).1 (Bw (bh hA.units (by decide)) _ (ig (xU _).2)) (sE ?_)
   have e:DG (Hg (dM y.2.1)) (Hg (dM oc))=true:=by
    rw[r3];exact(Ot _ _).trans (by simp)
   rw[e];exact aJ (aJ (hQ sl h4 t4 T4 ⟨K4.2 _ _ (λh=>nomatch h) gs,bw.trans KF ((K4.toF [g]).mono (λaf h=>nomatch h) (λaf h=>h))⟩))
end
theorem agi(w0:ao)(fb fc:Bool)(z:KZ)(l:LZ)(T:Nat→List Nat)(hM:pL (ak w0 fb fc) z l T)(pt:Nat):
  xR (ak w0 fb fc) 100 (z.x+1) 6 (vI pt) T (adr (fW (ak w0 fb fc) z l)) (λh=>Lies (kt (ak w0 fb fc).params) h (fW (ak w0 fb fc) z l))
   (λi k h=>∃a,k=a+1∧k∉adr (fW (ak w0 fb fc) z l)∧h.get? k=some (jL z a (vI pt i))) (.ref (z.x+1)):=by
 refine⟨λn af=>rfl,λU h h' T' hU K P=>P.keep T' K λp hp m=>hU _ m (mD hp),?_,λh P u hu=>P.lt hu,?_,?_,rfl,?_⟩
 ·rintro U i k h h' T' hU K P ⟨a,e,n,g⟩
  exact⟨a,e,n,K.2 _ _ (λm=>(hU _ m).2 rfl) g⟩
 ·intro i hi A s R hA hT hP hR;refine N2 (ak w0 fb fc) l.f z hM.hx (i:Int) (pt+i) A s R hA hT hP.right.has hP.right.nd hP.right.off λa h' t' k af hn hf af=>?_;have k:Keeps [] s.heap h':=k;have f1:s.heap.objs.size≤a+1:=hf (a+1,_) (.tail _ (.head _));exact hR (a+1) h' t' (hT.keep k λaf h=>nomatch h) ⟨k,⟨a,rfl,λm=>sf f1 (hP.lt m),hn (a+1,_) (.tail _ (.head _))⟩,.inr f1⟩
 ·rintro i k h ⟨a,e,n,g⟩
  exact⟨_,g,rfl⟩
 ·rintro i j k k' hi hj hij A s E Q hA hT hP ⟨a,rfl,n1,g1⟩ ⟨b,rfl,n2,g2⟩ hQ
  refine aS (hM.lt i j (pt+i) (pt+j) hi hj) λc hc hf=>?_;have hne:a+1≠b+1:=λe=>by
   rw[e,g2]at g1;injection g1 with g1
   have e2:some (some (vI pt j))=some (some (vI pt i)):=congrArg (λo:Obj=>o.slots.toList.head?) g1;injection e2 with e2
   injection e2 with e2
   injection e2 with e2
   exact hij (vD.mp e2).symm
  refine aeH w0 fb fc z hM.hx l a b (i:Int) (j:Int) (pt+i) (pt+j) c hf hA hT (λp hp=>?_) ?_ λh' t' K=>?_
  ·rcases aM.mp hp with rfl|hp
   ·exact g1
   rcases aM.mp hp with rfl|hp
   ·exact g2
   ·exact hP.has p hp
  ·show((a+1)::(b+1)::adr (fW (ak w0 fb fc) z l)).Nodup;exact bA.mpr ⟨λm=>(aM.mp m).elim hne n1,bA.mpr ⟨n2,hP.nd⟩⟩
  ·rw[hc];exact hQ h' t' (hT.keep K λaf h=>nomatch h) K
def pO:bR:=(fV 10 1).getD 0 (.Pass default)
theorem agj:fV 10 1=[.Return (some (.Compare (eE (rhs pO)) [.Eq] [iu 0 (rhs pO)] (rhs pO).pos)) (zT pO)]:=by
 kernel_rfl!
theorem agk:qc .Eq (iu 0 (rhs pO))=false:=by
 kernel_rfl!
theorem agl(w0:ao)(fb fc:Bool)(g P pt:Nat)(z:KZ)(l:LZ)(T:Nat→List Nat)(hM:pL (ak w0 fb fc) z l T){A:aV}{s:aA}{E:aj→aA→Prop}{Q:aj→aA→Prop}(hA:bK 61 A)
  (hP:Lies (kt (ak w0 fb fc).params) s.heap [(false,g+1,bG (some (.ref (z.x+1)))),(false,g+2,bG (some (.ref P))),(false,P,ai (six pt) 8)]) (hm:Lies (kt (ak w0 fb fc).params) s.heap (fW (ak w0 fb fc) z l))
  (hQ:∀a (o:List Nat) ep h' t',aR (kt (ak w0 fb fc).params) h'→Keeps [] s.heap h'→h'.get? a=some (ai (aD (jc pt o)) ep)→o.length=6→(∀n∈o,n<6)→o.Pairwise (cH T)→Q (.ref a) ⟨h',s.gens,s.drawn,t',s.os⟩):
  wpAny (model pw (ak w0 fb fc)) A (eval (eE (rhs pO)) (eV g)) Q E s:=by
 have h1:=λa ep=>Oi (agi w0 fb fc z l T hM pt) (by decide) (by decide) a ep
 have h2:=F3 (ak w0 fb fc) P (six pt) 8 (show 6≤1000 from by decide)
 generalize hw:ak w0 fb fc=w at*;rw[mR];refine mw Flow.ret (b:=61) (l:=[(false,g+1,bG (some (.ref (z.x+1)))),(false,g+2,bG (some (.ref P))),(false,P,ai (six pt) 8)])
  (aq (dec 802881) (.cut 119 _ [(2,false,P,ai (six pt) 8)] Nat _ (λaf=>[]) (λx=>[(x,ai (six pt) (bump (six pt) 0))]) λx sz af=>
   aq (dec 28806) (.wide 99 (.builtin "list.sort" ⟨[.ref sz],[(gB "key",.ref (z.x+1))]⟩) [(4,true,sz,ai (six pt) 0)] (List Nat×Nat) (λaf=>.ok (.ret .none)) (λy=>[(true,sz,ai (aD (jc pt y.1)) y.2)]) λy h3 af af=>
   aq (dec 0) (.done (.ok (.ret (.ref sz))) [(0,sz,ai (aD (jc pt y.1)) y.2)] []))))
  (au (ay h2 λx sz af=>au (cC (h1 sz 0) (λh a=>?pre) (λy h h' a T' q=>?led) λy h2 h3 af af a2 T2 q2=>au (bu λhp t' K T' hu af af af=>?fin)))) hP hA ?run rfl
 case run=>
  intro R;clear hP hm hQ h1 h2 hA hM;(apply cO hw;kernel_rfl!)
 case pre=>
  have K:Keeps [] s.heap h:=a.keeps;have f:s.heap.objs.size≤sz:=a.fresh (4,_) (.head _) (show 3≤4 from by decide)
  exact⟨⟨a.lies,λm=>sf f (hm.lt m)⟩,hm.ext a.lies.top K⟩
 case led=>
  have L:Lies (kt w.params) h [(true,sz,ai (six pt) 0)]:=a.lies;refine Lies.one ?_ (L.off _ (.head _) rfl) T';exact OH pt y.1▸q.1.1
 case fin=>
  intro v hv;obtain rfl:v=.ref sz:=by injection hv
  obtain⟨⟨q1,q2⟩,q3,q4,q5⟩:=q2;have K0:Keeps [] s.heap h2:=a2.keeps;have f:s.heap.objs.size≤sz:=a2.fresh (4,_) (.head _) (show 3≤4 from by decide)
  have K1:Keeps [sz] h3 hp:=K;refine hQ sz y.1 y.2 hp t' T' ((K0.trans' q2 λb hb=>.inr (by rw[sA hb];exact f)).trans' K1 λb hb=>.inr (by rw[sA hb];exact f)) (hu (sz,_) (.head _)) q3 q4 q5
noncomputable def Pg:Str:=⟨⟨[103,114,111,117,112]⟩⟩
def Hv:Expr:=iu 0 (rhs pO)
def Pj(g aB:Nat):Env:=⟨Gi (oO Hv),aB,3,[],xZ,none,.ref 233,some g,0⟩
def uT(d it acc g aB:Nat):bf:=.compLoop Hv d (.ref it) (.ref acc) (Pj g aB)
def Pk(d it acc g aB:Nat):bf:=.compStart Hv d (.ref it) (.ref acc) (Pj g aB)
def gm(w:ao)(gr fr:Option (Nat×aj)):Obj:=match gr,fr with
 |none,_=>cu [] 0
 |some p,none=>cu [de w Pg p.1 p.2] 1
 |some p,some q=>cu [de w Pg p.1 p.2,de w m5 q.1 q.2] 2
noncomputable abbrev yd(b:Bool)(r:List (Int×Nat)):Type:={q:Nat×Option (Nat×aj)//q.2.isSome=(b||!r.isEmpty)}
theorem agm(w:ao)(g src it acc aB gt es:Nat)(items:List (Int×Nat))(hi:items.length≤900):∀(r:List (Int×Nat)) (i:Nat) (ps:List (Int×Nat)) (ep:Nat) (fr:Option (Nat×aj)),items.drop i=r→i+r.length=items.length→ps.length+r.length≤900→
  Spec w 92 (uT 1 it acc g aB) [(false,src,ai (items.map iv) es),(true,it,aC "list_iterator" (.ref src) i),(true,acc,ai (ps.map iv) ep),(true,aB,gm w (some (gt,.ref src)) fr)] (yd fr.isSome r) (λaf=>.ok .next)
   (λq=>[(it,aC "list_iterator" .none items.length),(acc,ai ((ps++r).map iv) q.1.1),(aB,gm w (some (gt,.ref src)) q.1.2)]) (λaf=>[]):=by
 intro r;induction r with
 |nil=>
  intro i ps ep fr hr hn hv;obtain rfl:i=items.length:=hn;have s1:=oQ w it src items.length (items.map iv) es (by simp)
  rw[show ps++[]=ps from dZ _];refine cX rfl rfl λA s R hR=>?_;refine⟨aq (dec 260) (.cut 110 _ [(0,false,src,ai (items.map iv) es),(1,true,it,aC "list_iterator" (.ref src) items.length)] Nat _ (λaf=>[(1,it,aC "list_iterator" .none items.length)]) _ λaf af af=>
   aq (dec 8) (.done (.ok .next) [(1,it,aC "list_iterator" .none items.length),(2,acc,ai (ps.map iv) ep),(3,aB,gm w (some (gt,.ref src)) fr)] [])),
   au<|ay s1 λaf af af=>au<|cE hR ⟨(ep,fr),(sy _).symm⟩ rfl rfl rfl rfl,?_⟩
  clear hR s1 hr hv hi;generalize items.length=n;rcases fr with _|⟨f1,f2⟩
  ·kernel_rfl!
  ·kernel_rfl!
 |cons y r ih=>
  intro i ps ep fr hr hn hv;have hn:i+(r.length+1)=items.length:=hn;have hv:ps.length+(r.length+1)≤900:=hv;have hy:items[i]?=some y:=by
   have:=congrArg (λl=>l[0]?) hr;simpa using this
  have hr':items.drop (i+1)=r:=by
   rw[←iR,hr];rfl
  have s1:=lG w it src i (items.map iv) es (iv y) (by rw[dK,hy];rfl)
  have s3:=iJ w acc (ps.map iv) ep (iv y) (by rw[bl];exact IA hv)
  have s4:=λcQ=>ih (i+1) (ps++[y]) (ep+1) cQ hr' (E7 hn) (by rw[fZ];show ps.length+1+r.length≤900;exact vj hv)
  have em:(ps++[y]).map iv=ps.map iv++[iv y]:=aL;have el:(ps++[y])++r=ps++y::r:=fP ..;rw[em,el]at s4;refine cX rfl rfl λA s R hR=>?_;refine⟨aq (dec 260) (.cut 119 _ [(0,false,src,ai (items.map iv) es),(1,true,it,aC "list_iterator" (.ref src) i)] Unit _ (λaf=>[(1,it,aC "list_iterator" (.ref src) (i+1))]) (λaf=>[]) λaf af tk=>
   aq (dec 1335686) (.cut 119 _ [(2,true,acc,ai (ps.map iv) ep)] Unit _ (λaf=>[(2,acc,ai (ps.map iv++[iv y]) (ep+1))]) (λaf=>[]) λaf af af=>
   aq (dec 0) (.cut 92 _ [(0,false,src,ai (items.map iv) es),(1,true,it,aC "list_iterator" (.ref src) (i+1)),(2,true,acc,ai (ps.map iv++[iv y]) (ep+1)),(3,true,aB,gm w (some (gt,.ref src)) (some (bE fr tk,iv y)))] (yd true r) _
    (λq=>[(1,it,aC "list_iterator" .none items.length),(2,acc,ai ((ps++y::r).map iv) q.1.1),(3,aB,gm w (some (gt,.ref src)) q.1.2)]) (λaf=>[]) λq af af=>
   aq (dec 0) (.done (.ok .next) [(1,it,aC "list_iterator" .none items.length),(2,acc,ai ((ps++y::r).map iv) q.1.1),(3,aB,gm w (some (gt,.ref src)) q.1.2)] [])))),
   au<|ay s1 λaf af tk=>au<|ay s3 λaf af af=>au<|ay (s4 (some (bE fr tk,iv y))) λq af af=>au<|cE hR ⟨q.1,by rw[q.2];exact(sC _).symm⟩ rfl rfl rfl rfl,?_⟩
  clear hR s1 s3 s4 em el ih hr hr' hy hv hi hn;generalize items.length=n;obtain⟨y1,y2⟩:=y;rcases fr with _|⟨f1,f2⟩
  ·kernel_rfl!
  ·kernel_rfl!
theorem agn(w0:ao)(fb fc:Bool)(g src it acc aB gt es:Nat)(items ps:List (Int×Nat))(ep:Nat)(fr:Option (Nat×aj))(hi:items.length≤900)(hps:ps.length+items.length≤900):
  Spec (ak w0 fb fc) 91 (Pk 1 it acc g aB) [(false,src,ai (items.map iv) es),(true,it,aC "list_iterator" (.ref src) 0),(true,acc,ai (ps.map iv) ep),(true,aB,gm (ak w0 fb fc) (some (gt,.ref src)) fr)] (yd fr.isSome items) (λaf=>.ok .next)
   (λq=>[(it,aC "list_iterator" .none items.length),(acc,ai ((ps++items).map iv) q.1.1),(aB,gm (ak w0 fb fc) (some (gt,.ref src)) q.1.2)]) (λaf=>[]):=by
 have h:=agm (ak w0 fb fc) g src it acc aB gt es items hi items 0 ps ep fr rfl (iF _) hps;generalize hw:ak w0 fb fc=w at*;refine cX rfl rfl λA s R hR=>?_;refine⟨aq (bif fc then dec 0 else dec 1065220) (.cut 92 (uT 1 it acc g aB) [(0,false,src,ai (items.map iv) es),(1,true,it,aC "list_iterator" (.ref src) 0),(2,true,acc,ai (ps.map iv) ep),(3,true,aB,gm w (some (gt,.ref src)) fr)] (yd fr.isSome items) _
    (λq=>[(1,it,aC "list_iterator" .none items.length),(2,acc,ai ((ps++items).map iv) q.1.1),(3,aB,gm w (some (gt,.ref src)) q.1.2)]) (λaf=>[]) λq af af=>
   aq (dec 0) (.done (.ok .next) [(1,it,aC "list_iterator" .none items.length),(2,acc,ai ((ps++items).map iv) q.1.1),(3,aB,gm w (some (gt,.ref src)) q.1.2)] [])),
   au<|ay h λq af af=>au<|cE hR q rfl rfl rfl rfl,?_⟩
 clear hR h hi hps;generalize items.length=n;generalize fr.isSome=b;(apply tK hw;kernel_rfl!)
structure FZ where
 C:Nat
 ec:Nat
 oc:bF
 it:Nat
 acc:Nat
 aB:Nat
 g:Nat
noncomputable def kq(o:bF):Led:=o.map λx=>(false,x.1,ai (x.2.1.map iv) x.2.2)
def rH(w:ao)(q:FZ)(i:Nat)(ps:List (Int×Nat))(ep:Nat)(gr fr:Option (Nat×aj)):Led:=
 [(false,q.C,ai (aT q.oc) q.ec),(true,q.it,aC "list_iterator" (.ref q.C) i),(true,q.acc,ai (ps.map iv) ep),(true,q.aB,gm w gr fr)]
theorem ago{w:ao}{q:FZ}{i i':Nat}{ps ps':List (Int×Nat)}{ep dj:Nat}{gr BF fr cQ:Option (Nat×aj)}{U:List Nat}{h h':az}(H:Lies (kt w.params) h (rH w q i ps ep gr fr++kq q.oc))(T:aR (kt w.params) h')(K:Keeps U h h')
  (hU:∀u∈U,u∈[q.it,q.acc,q.aB]) (g1:h'.get? q.it=some (aC "list_iterator" (.ref q.C) i')) (g2:h'.get? q.acc=some (ai (ps'.map iv) dj)) (g3:h'.get? q.aB=some (gm w BF cQ)):Lies (kt w.params) h' (rH w q i' ps' dj BF cQ++kq q.oc):=by
 refine H.turn T K (by rw[aL,aL];rfl) λp hp=>?_
 have keep:∀p∈rH w q i ps ep gr fr++kq q.oc,p.1=false→p.2.1∉U:=λp hp hm m=>by
  have e:∃o,(true,p.2.1,o)∈rH w q i ps ep gr fr++kq q.oc:=by
   have:=hU _ m;have this:=fB this;rcases this with e|e|e
   ·exact⟨_,by rw[e];exact .tail _ (.head _)⟩
   ·exact⟨_,by rw[e];exact .tail _ (.tail _ (.head _))⟩
   ·exact⟨_,by rw[e];exact .tail _ (.tail _ (.tail _ (.head _)))⟩
  refine fC e λo ho=>?_;have:=Ho H.nd ho hp rfl;rw[←this]at hm;cases hm
 rcases mA hp with hp|hp
 ·apply fX hp
  ·exact .inr ⟨.head _,keep _ (.head _) rfl⟩
  ·exact .inl g1
  ·exact .inl g2
  ·exact .inl g3
 ·refine .inr ⟨inr hp,keep _ (inr hp) ?_⟩;refine aS (aN.mp hp) λaf af aG=>?_;subst aG;rfl
noncomputable def fO(r:bF):List (Int×Nat):=r.flatMap (·.2.1)
structure agp(w:ao)(q:FZ)(ps:List (Int×Nat))(gr fr:Option (Nat×aj))(r:bF)(x:Nat×Option (Nat×aj)×Option (Nat×aj))(h h':az):Prop where
 acc:h'.get? q.acc=some (ai ((ps++fO r).map iv) x.1)
 keeps:Keeps [q.it,q.acc,q.aB] h h'
 aB:h'.get? q.aB=some (gm w x.2.1 x.2.2)
 one:x.2.1.isSome=(gr.isSome||!r.isEmpty)
 two:x.2.2.isSome=(fr.isSome||!(fO r).isEmpty)
theorem agq(w0:ao)(fb fc:Bool)(q:FZ)(hq:(fO q.oc).length≤900)(hC:q.oc.length≤900):∀(r:bF) (i:Nat) (ps:List (Int×Nat)) (ep:Nat) (gr fr:Option (Nat×aj)),(gr=none→fr=none)→q.oc.drop i=r→i+r.length=q.oc.length→ps.length+(fO r).length≤900→
  Wide (ak w0 fb fc) 88 (uT 0 q.it q.acc q.g q.aB) (λh=>Lies (kt (ak w0 fb fc).params) h (rH (ak w0 fb fc) q i ps ep gr fr++kq q.oc)) (Nat×Option (Nat×aj)×Option (Nat×aj)) (λaf=>.ok .next) (agp (ak w0 fb fc) q ps gr fr r):=by
 intro r;induction r with
 |nil=>
  intro i ps ep gr fr h0 hr hn hv;obtain rfl:i=q.oc.length:=hn;have s1:=oQ (ak w0 fb fc) q.it q.C q.oc.length (aT q.oc) q.ec (by unfold aT;rw[CU];rw[bl];exact bk _)
  generalize hw:ak w0 fb fc=w at*;refine d7 rfl rfl λA s R hT hP hR=>?_;refine⟨_,hP.left,aq (dec 260) (.cut 110 _ [(0,false,q.C,ai (aT q.oc) q.ec),(1,true,q.it,aC "list_iterator" (.ref q.C) q.oc.length)] Nat _ (λaf=>[(1,q.it,aC "list_iterator" .none q.oc.length)]) _ λaf af af=>
   aq (dec 8) (.done (.ok .next) [(2,q.acc,ai (ps.map iv) ep),(1,q.it,aC "list_iterator" .none q.oc.length),(3,q.aB,gm w gr fr)] [])),au (ay s1 λaf af af=>au (bu λhp t' K T' hu af af af=>?_)),?_⟩
  ·refine hR (ep,gr,fr) hp t' T' ⟨?_,K,hu (q.aB,_) (.tail _ (.tail _ (.head _))),(sy _).symm,(sy _).symm⟩;rw[show ps++fO []=ps from dZ _];exact hu (q.acc,_) (.head _)
  ·clear hP hR hT s1 hr hv hq hC h0;obtain⟨C,ec,oc,it,acc,aB,g⟩:=q;generalize oc.length=n;(apply cO hw;kernel_rfl!)
 |cons y r ih=>
  intro i ps ep gr fr h0 hr hn hv;have hn:i+(r.length+1)=q.oc.length:=hn;have hfl:(fO (y::r))=y.2.1++fO r:=rfl;rw[hfl,fZ]at hv;have hy:q.oc[i]?=some y:=by
   have:=congrArg (λl=>l[0]?) hr;simpa using this
  have hr':q.oc.drop (i+1)=r:=by
   rw[←iR,hr];rfl
  have s1:=lG (ak w0 fb fc) q.it q.C i (aT q.oc) q.ec (.ref y.1) (by unfold aT;rw[dK,hy];rfl)
  have s2:=λit1 gt=>Gk (agn w0 fb fc q.g y.1 it1 q.acc q.aB gt y.2.2 y.2.1 ps ep fr (VK hv) (VJ hv)) (vo (l₁:=[_,_]) (l₂:=[_,_]));have s4:=λdj BF cQ=>ih (i+1) (ps++y.2.1) dj (some BF) cQ (λh=>nomatch h) hr' (E7 hn) (by rw[fZ];exact VI hv)
  have el:(ps++y.2.1)++fO r=ps++fO (y::r):=by rw[hfl,fP]
  generalize hw:ak w0 fb fc=w at*;refine d7 rfl rfl λA s R hT hP hR=>?_;have my:(false,y.1,ai (y.2.1.map iv) y.2.2)∈kq q.oc:=aN.mpr ⟨y,eB hy,rfl⟩;have L0:Lies (kt w.params) s.heap (rH w q i ps ep gr fr++[(false,y.1,ai (y.2.1.map iv) y.2.2)]):=hP.sub (vB (mO _) (List.singleton_sublist.mpr my));refine⟨_,L0,aq (dec 260) (.cut 119 _ [(0,false,q.C,ai (aT q.oc) q.ec),(1,true,q.it,aC "list_iterator" (.ref q.C) i)] Unit _ (λaf=>[(1,q.it,aC "list_iterator" (.ref q.C) (i+1))]) (λaf=>[]) λaf sz tk=>
   aq (dec 35329446535558) (.cut 91 (Pk 1 sz q.acc q.g q.aB) [(2,true,q.acc,ai (ps.map iv) ep),(3,true,q.aB,gm w (some (bE gr tk,.ref y.1)) fr),(4,false,y.1,ai (y.2.1.map iv) y.2.2),(5,true,sz,aC "list_iterator" (.ref y.1) 0)] (yd fr.isSome y.2.1) _
    (λx=>[(5,sz,aC "list_iterator" .none y.2.1.length),(2,q.acc,ai ((ps++y.2.1).map iv) x.1.1),(3,q.aB,gm w (some (bE gr tk,.ref y.1)) x.1.2)]) (λaf=>[]) λx af af=>
   aq (dec 0) (.wide 88 (uT 0 q.it q.acc q.g q.aB) [(1,true,q.it,aC "list_iterator" (.ref q.C) (i+1)),(2,true,q.acc,ai ((ps++y.2.1).map iv) x.1.1),(3,true,q.aB,gm w (some (bE gr tk,.ref y.1)) x.1.2)] (Nat×Option (Nat×aj)×Option (Nat×aj)) (λaf=>.ok .next) (λaf=>[]) λy3 h1 af af=>
   aq (dec 0) (.done (.ok .next) [] [])))),
   au (ay s1 λaf sz tk=>au (ay (s2 sz (bE gr tk)) λx af af=>au (cC (s4 x.1.1 (bE gr tk,.ref y.1) x.1.2) (λh a=>?pre) (λaf af h' af T af=>⟨(λaf h=>nomatch h),.nil,(λaf h=>nomatch h),T⟩) λy3 h h1 af af a1 T1 q1=>au (bu λhp t' K T' af af af af=>?fin)))),?run⟩
  case pre=>
   exact ago hP a.lies.top a.keeps (λu hu=>hu) (a.lies.get (p:=(true,q.it,_)) (.head _)) (a.lies.get (p:=(true,q.acc,_)) (.tail _ (.head _))) (a.lies.get (p:=(true,q.aB,_)) (.tail _ (.tail _ (.head _))))
  case fin=>
   have K:Keeps [] h1 hp:=K;have e2:=q1.two;rw[x.2]at e2;refine hR y3 hp t' T' ⟨el▸K.2 _ _ (λh=>nomatch h) q1.acc,(a1.keeps.trans q1.keeps).trans K.ext,K.2 _ _ (λh=>nomatch h) q1.aB,by rw[q1.one];exact(sC _).symm,e2.trans ?_⟩
   rw[hfl];cases y.2.1<;>cases fr.isSome<;>rfl
  case run=>
   clear hP hR hT s1 s2 s4 el hr hv hq hC hn hfl hy hr' my L0 ih;obtain⟨C,ec,oc,it,acc,aB,g⟩:=q;obtain⟨y1,y2,y3⟩:=y;generalize y2.length=n;generalize fr.isSome=fs;subst hw;rcases gr with _|⟨r1,r2⟩
   ·obtain rfl:=h0 rfl;(apply ck (fb:=fb);kernel_rfl!)
   ·clear h0;(apply iw (fb:=fb) fr;kernel_rfl!)
section
open PySem.SeqAt
theorem Lies.perm{kt:bZ}{h:az}{l l':Led}(H:Lies kt h l)(p:l.Perm l'):Lies kt h l':=⟨λq hq=>H.has q ((p.map _).symm.subset hq),(p.map _).nodup_iff.mp H.nd,λq hq=>H.off q (p.symm.subset hq),H.top⟩
theorem ags(w0:ao)(fb fc:Bool)(sl:Array (Option aj))(g SC k1 DR k2 TX k3 TL k4 S k5 C k6 ec:Nat)(oc:bF)(hq:(fO oc).length≤900)(hC:oc.length≤900)(hne:fO oc≠[]){A:aV}{s:aA}{E:aj→aA→Prop}{Q:aj→aA→Prop}(hA:bK 61 A)
  (hP:Lies (kt (ak w0 fb fc).params) s.heap ([(false,g,rG (ak w0 fb fc) sl SC k1 DR k2 TX k3 TL k4 S k5 C k6),(false,C,ai (aT oc) ec)]++kq oc))
  (hQ:∀a ep h' t',aR (kt (ak w0 fb fc).params) h'→Keeps [] s.heap h'→h'.get? a=some (ai ((fO oc).map iv) ep)→Q (.ref a) ⟨h',s.gens,s.drawn,t',s.os⟩):
  wpAny (model pw (ak w0 fb fc)) A (eval (iu 0 (rhs pO)) (eV g)) Q E s:=by
 have ho:oc≠[]:=λe=>hne (by rw[e];rfl)
 have h1:∀it acc aB,Wide (ak w0 fb fc) 88 (uT 0 it acc g aB) (λh=>Lies (kt (ak w0 fb fc).params) h (rH (ak w0 fb fc) ⟨C,ec,oc,it,acc,aB,g⟩ 0 [] 0 none none++kq oc)) (Nat×(Nat×aj)×(Nat×aj)) (λaf=>.ok .next) (λx h h'=>h'.get? acc=some (ai ((fO oc).map iv) x.1)∧h'.get? aB=some (gm (ak w0 fb fc) (some x.2.1) (some x.2.2))∧Keeps [it,acc,aB] h h'):=λit acc aB=>
  (agq w0 fb fc ⟨C,ec,oc,it,acc,aB,g⟩ hq hC oc 0 [] 0 none none (λaf=>rfl) rfl (iF _) (by rw[yM,iF];exact hq)).weak λx h h' af q=>by
   obtain⟨x1,x2,x3⟩:=x;obtain⟨p,hp⟩:=sD.mp (q.one.trans (by cases oc with|nil=>exact absurd rfl ho|cons=>rfl))
   obtain⟨p',gv⟩:=sD.mp (q.two.trans (by cases h:fO oc with|nil=>exact absurd h hne|cons=>rfl))
   have hp:x2=some p:=hp;have gv:x3=some p':=gv;subst hp gv;exact⟨(x1,p,p'),rfl,q.acc,q.aB,q.keeps⟩
 generalize hw:ak w0 fb fc=w at*;rw[mR];refine mw Flow.ret (b:=61) (l:=[(false,g,rG w sl SC k1 DR k2 TX k3 TL k4 S k5 C k6),(false,C,ai (aT oc) ec)])
  (aq (bif fc then dec 8938935304451 else dec 374790977303591534851) (.wide 88 (uT 0 s.heap.objs.size (s.heap.objs.size+1) g (s.heap.objs.size+2)) [(2,true,s.heap.objs.size,aC "list_iterator" (.ref C) 0),(3,true,s.heap.objs.size+1,ai [] 0),(4,true,s.heap.objs.size+2,gm w none none)] (Nat×(Nat×aj)×(Nat×aj)) (λaf=>.ok .next) (λx=>[(true,s.heap.objs.size+1,ai ((fO oc).map iv) x.1),(true,s.heap.objs.size+2,gm w (some x.2.1) (some x.2.2))]) λx h3 af af=>
   aq (dec 4363141380) (.done (.ok (.ret (.ref (s.heap.objs.size+1)))) [(0,s.heap.objs.size+1,ai ((fO oc).map iv) x.1)] [])))
  (au (cC (h1 _ _ _) (λh a=>?pre) (λy h h' a T' q=>?led) λy h2 h3 af af a2 T2 q2=>au (bu λhp t' K T' hu af af af=>?fin))) hP.left hA ?run rfl
 case run=>
  intro R;clear hP hQ h1 hA hq hC hne ho;(apply tK hw;kernel_rfl!)
 case pre=>
  have J:=a.lies.join ((hP.sub (.cons _ (.cons_cons _ (mO _)))).ext a.lies.top a.keeps) λb hb hc=>by
   exact Uk ((λb hb=>(hP.sub (.cons _ (.cons_cons _ (mO _)))).lt hb) b hc) (fB hb)
  exact J.perm (List.perm_append_comm_assoc [_,_,_] [_] _)
 case led=>
  have L:Lies (kt w.params) h [(true,s.heap.objs.size,aC "list_iterator" (.ref C) 0),(true,s.heap.objs.size+1,ai [] 0),(true,s.heap.objs.size+2,gm w none none)]:=a.lies;refine Lies.join (l:=[(true,s.heap.objs.size+1,_)]) (Lies.one q.1 (L.off (true,s.heap.objs.size+1,_) (.tail _ (.head _)) rfl) T') (Lies.one q.2.1 (L.off (true,s.heap.objs.size+2,_) (.tail _ (.tail _ (.head _))) rfl) T') λb hb hc=>?_;exact Uw (sA hb) (sA hc)
 case fin=>
  intro v hv;obtain rfl:v=.ref (s.heap.objs.size+1):=by injection hv
  refine hQ _ y.1 hp t' T' ((a2.keeps.trans' q2.2.2 λb hb=>.inr ?_).trans' K λb hb=>.inr ?_) (hu (s.heap.objs.size+1,_) (.head _))
  ·apply cB hb<;>(first|exact bk _|exact E2|exact CE)
  ·apply bJ hb<;>(first|exact E2|exact CE)
end
section
open PySem.SeqAt
theorem agt(w0:ao)(fb fc:Bool)(f:Option (List Env))(sl:Array (Option aj))(g SC k1 DR k2 TX k3 TL k4 S k5 C k6 ec P pt:Nat)(oc:bF)(z:KZ)(l:LZ)(T:Nat→List Nat)(hM:pL (ak w0 fb fc) z l T)(hC:oc.length≤900)(h6:(fO oc).length=6)
  (hfl:∀o:List Nat,o.length=6→(∀n∈o,n<6)→o.Pairwise (cH T)→(fO oc).map (·.1)=o.map λ(n:Nat)=>(n:Int)):
  WT (ak w0 fb fc) f 61 (execs (fV 10 1) (eV g)) (λh=>Lies (kt (ak w0 fb fc).params) h [(false,g+1,bG (some (.ref (z.x+1)))),(false,g+2,bG (some (.ref P))),(false,P,ai (six pt) 8)]∧Lies (kt (ak w0 fb fc).params) h (fW (ak w0 fb fc) z l)∧
   Lies (kt (ak w0 fb fc).params) h ([(false,g,rG (ak w0 fb fc) sl SC k1 DR k2 TX k3 TL k4 S k5 C k6),(false,C,ai (aT oc) ec)]++kq oc)) Unit (λaf=>.ret (.bool true)) (λaf h h'=>Keeps [] h h'):=by
 intro A s Q E hA hF hT hP hQ;refine dJ hP λh1 h2 h3=>?_;rw[agj];refine zf (wpAny_Return_some (wpAny_Compare1 ?_ agk));refine agl w0 fb fc g P pt z l T hM hA h1 h2 λa o ep h' t' T' K ga kX ho2 ho3=>?_;have K:Keeps [] s.heap h':=K;refine ags w0 fb fc sl g SC k1 DR k2 TX k3 TL k4 S k5 C k6 ec oc (Cd h6) hC (λe=>by rw[e]at h6;cases h6) hA (s:=⟨h',s.gens,s.drawn,t',s.os⟩) (h3.ext T' K) λb ep2 h4 t4 T4 K4 gb=>?_
 have K4:Keeps [] h' h4:=K4;refine compareEq_reads (Hi (K4.2 _ _ (λh=>nomatch h) ga)) (Hh gb) (lay_ints _).1 (lay_ints _).1 (Bw (bh hA.units (by decide)) _ (ig (bh (lay_ints _).2 (iT _)))) ?_
 have e:DG (mq ((jc pt o).map λp=>(p.1:Int))) (mq ((fO oc).map (·.1)))=true:=by
  rw[hfl o kX ho2 ho3];refine(Bv _ _).trans ?_;unfold jc;rw[bQ];exact beq_self_eq_true _
 rw[e];exact hQ () h4 t4 T4 (K.trans K4)
end
theorem kr{α:Type}[BEq α][LawfulBEq α]:∀(l m:List α),l.Nodup→(∀x∈l,x∈m)→l.length≤m.length
 |[],_,_,_=>iT _
 |a::r,m,nd,h=>by
  have ha:=h a (.head _);have nd:=bA.mp nd;have:=kr r (m.erase a) nd.2 λx hx=>(CW λ(e:x=a)=>nd.1 (e▸hx)).mpr (h x (.tail _ hx));rw[CO ha]at this;rw[n7];exact SY (CP ha) ‹_›
theorem agv{α:Type}[BEq α][LawfulBEq α](l m:List α)(nd:l.Nodup)(h:∀x∈l,x∈m)(hl:m.length≤l.length):∀x∈m,x∈l:=λx hx=>Classical.byContradiction λn=>by
 have:=kr l (m.erase x) nd λy hy=>(CW λ(e:y=x)=>n (e▸hy)).mpr (h y hy);rw[CO hx]at this;exact SW (CP hx) hl ‹_›
theorem Hw{α:Type}{R:α→α→Prop}(nP:∀a b,R a b→R b a→False):∀(l m:List α),l.Pairwise R→m.Pairwise R→(∀x,x∈l↔x∈m)→l=m
 |[],[],_,_,_=>rfl
 |[],b::_,_,_,h=>nomatch (h b).mpr (.head _)
 |a::_,[],_,_,h=>nomatch (h a).mp (.head _)
 |a::l,b::m,hl,hm,h=>by
  have hl:=yH.mp hl;have hm:=yH.mp hm;have e:a=b:=by
   rcases aM.mp ((h a).mp (.head _))with e|e
   ·exact e
   rcases aM.mp ((h b).mpr (.head _))with e'|e'
   ·exact e'.symm
   ·exact(nP _ _ (hl.1 b e') (hm.1 a e)).elim
  subst e;rw[Hw nP l m hl.2 hm.2 λx=>⟨λhx=>?_,λhx=>?_⟩]
  ·rcases aM.mp ((h x).mp (.tail _ hx))with e|e
   ·subst e;exact(nP _ _ (hl.1 _ hx) (hl.1 _ hx)).elim
   ·exact e
  ·rcases aM.mp ((h x).mpr (.tail _ hx))with e|e
   ·subst e;exact(nP _ _ (hm.1 _ hx) (hm.1 _ hx)).elim
   ·exact e
noncomputable def rep(ord:List Int)(F:Int→Int×List Int):G:=ord.map λn=>(n,F n)
noncomputable def jx(p:Int)(f:Int×List Int→Int×List Int)(F:Int→Int×List Int):Int→Int×List Int:=λn=>match n==p with
 |true=>f (F n)
 |false=>F n
theorem pP(p:Int)(f:Int×List Int→Int×List Int)(F:Int→Int×List Int):jx p f F p=f (F p):=by
 delta jx;rw[beq_self_eq_true]
theorem ku{p n:Int}(h:n≠p)(f:Int×List Int→Int×List Int)(F:Int→Int×List Int):jx p f F n=F n:=by
 delta jx;rw[beq_false_of_ne h]
theorem uU(p:Int)(f:Int×List Int→Int×List Int)(ord:List Int)(F:Int→Int×List Int):fm p f (rep ord F)=rep ord (jx p f F):=by
 delta fm rep;rw[bQ];refine yG λn af=>?_;show(match n==p with|true=>(n,f (F n))|false=>(n,F n))=(n,match n==p with|true=>f (F n)|false=>F n)
 cases n==p<;>rfl
noncomputable def gp(ord:List Int)(p:Int):List Int:=ord++[p].filter λp=>!ord.contains p
theorem yf{ord:List Int}{p:Int}(h:p∈ord):gp ord p=ord:=by
 delta gp;simp[h]
theorem rI{ord:List Int}{p:Int}(h:p∉ord):gp ord p=ord++[p]:=by
 delta gp;simp[h]
theorem Pn{ord:List Int}{F:Int→Int×List Int}{p:Int}(h:p∉ord→F p=(0,[])):lH (rep ord F) p=rep (gp ord p) F:=by
 by_cases hp:p∈ord
 ·have:(rep ord F).any (λe=>e.1==p)=true:=yL.mpr ⟨(p,F p),aN.mpr ⟨p,hp,rfl⟩,beq_self_eq_true _⟩;delta lH;rw[this,yf hp]
 ·have:(rep ord F).any (λe=>e.1==p)=false:=List.any_eq_false.mpr λe he=>by
   refine aS (aN.mp he) λn hn aG=>?_;subst aG;intro e;exact hp (eq_of_beq e▸hn)
  delta lH;rw[this,rI hp];delta rep;rw[aL,bP,h hp];rfl
theorem nQ{ord:List Int}{p x:Int}:x∈gp ord p↔x∈ord∨x=p:=by
 by_cases hp:p∈ord
 ·rw[yf hp];exact⟨.inl,λh=>h.elim id λe=>e▸hp⟩
 ·rw[rI hp];simp
theorem Hx:∀(ps ord:List Int),ps.Nodup→ps.foldl gp ord=ord++ps.filter λp=>!ord.contains p
 |[],ord,_=>(dZ _).symm
 |p::r,ord,nd=>by
  have nd:=bA.mp nd;rw[lz,Hx r _ nd.2,mE];have e:(r.filter λq=>!(gp ord p).contains q)=r.filter λq=>!ord.contains q:=mC λq hq=>by
   have:q≠p:=λe=>nd.1 (e▸hq);rw[mL];simp[nQ,this]
  rw[e];by_cases hp:p∈ord
  ·rw[yf hp];simp[hp]
  ·rw[rI hp];simp[hp]
noncomputable def BG(n:Int)(ps:List Int)(F:Int→Int×List Int):Int→Int×List Int:=λm=>match ps.contains m with
 |true=>((F m).1,(F m).2++[n])
 |false=>F m
theorem Pp(n:Int):∀(ps:List (Int×Nat)) (ord:List Int) (F:Int→Int×List Int),(ps.map (·.1)).Nodup→(∀p,p∉ord→F p=(0,[]))→oV n (rep ord F) ps=rep ((ps.map (·.1)).foldl gp ord) (BG n (ps.map (·.1)) F)
 |[],_,_,_,_=>rfl
 |p::r,ord,F,nd,h=>by
  have nd:=bA.mp nd;show oV n (fm p.1 (wA n) (lH (rep ord F) p.1)) r=_;rw[Pn (h p.1),uU,Pp n r _ _ nd.2 λq hq=>by
   have hq:¬(q∈ord∨q=p.1):=λm=>hq (nQ.mpr m);rw[ku (λe=>hq (.inr e)),h q λm=>hq (.inl m)]]
  show rep ((r.map (·.1)).foldl gp (gp ord p.1)) _=rep ((r.map (·.1)).foldl gp (gp ord p.1)) _;congr 1
  funext m
  delta BG;rw[bP,List.contains_cons];by_cases e:m=p.1
  ·subst e;have:(r.map (·.1)).contains p.1=false:=by
    rw[sr];exact λh=>nd.1 (pV.mp h)
   rw[this,beq_self_eq_true,pP];rfl
  ·rw[beq_false_of_ne e,ku e];rfl
noncomputable def iO(P:Int→List Int)(D:List Int):Int→Int×List Int:=λm=>((match D.contains m with|true=>((P m).length:Int)|false=>0),D.filter λk=>(P k).contains m)
theorem agw{P:Int→List Int}{D ord:List Int}{n:Int}{ps:List (Int×Nat)}(hp:ps.map (·.1)=P n)(nd:(P n).Nodup)(hn:n∉D)(hs:n∉P n)(hD:∀k∈D,k∈ord∧∀p∈P k,p∈ord):
  wD n ps (rep ord (iO P D))=rep ((P n).foldl gp (gp ord n)) (iO P (D++[n])):=by
 have h0:∀p,p∉ord→iO P D p=(0,[]):=λp hp=>by
  have h1:D.contains p=false:=by
   rw[sr];exact λh=>hp (hD p (pV.mp h)).1
  delta iO;rw[h1,(rT.mpr λk hk h=>hp ((hD k hk).2 p (pV.mp h)))]
 delta wD;rw[Pn (h0 n),uU,Pp n ps _ _ (hp▸nd) λq hq=>by
  have hq:¬(q∈ord∨q=n):=λm=>hq (nQ.mpr m);rw[ku (λe=>hq (.inr e)),h0 q λm=>hq (.inl m)],hp]
 congr 1
 funext m
 have hnD:D.contains n=false:=by
  rw[sr];exact λh=>hn (pV.mp h)
 have hlen:(ps.length:Int)=((P n).length:Int):=by rw[←hp,bl]
 have e2:((D++[n]).filter λk=>(P k).contains m)=(D.filter λk=>(P k).contains m)++match(P n).contains m with|true=>[n]|false=>[]:=by
  rw[n6];congr 1
 by_cases e:m=n
 ·subst e;have h3:(P m).contains m=false:=by
   rw[sr];exact λh=>hs (pV.mp h)
  delta BG iO;rw[h3,e2,h3,pP];have h4:(D++[m]).contains m=true:=by simp
  simp only[hnD,h4,gD,hlen,dZ,Dm]
 ·delta BG;rw[ku e];have h4:(D++[n]).contains m=D.contains m:=by
   rw[mL];simp[e]
  delta iO;rw[h4,e2];cases (P n).contains m<;>simp
structure jy(L:Int→Int→Bool):Prop where
 nP:∀a b,L a b=true→L b a=false
 Pq:∀a b c,L a b=true→L a c=true∨L c b=true
theorem jy.BH{L:Int→Int→Bool}(h:jy L)(a:Int):L a a=false:=by
 cases e:L a a with
 |false=>rfl
 |true=>exact e▸h.nP a a e
theorem jy.tr{L:Int→Int→Bool}(h:jy L){a b c:Int}(x:L a b=true)(y:L b c=true):L a c=true:=by
 rcases h.Pq a b c x with e|e
 ·exact e
 ·have:=h.nP _ _ y;rw[e]at this;cases this
noncomputable def dX(L:Int→Int→Bool)(base:List Int)(n:Int):List Int:=base.filter λj=>L j n
noncomputable def minOf(L:Int→Int→Bool)(base:List Int)(n:Int):Bool:=(dX L base n).isEmpty
theorem pQ{L:Int→Int→Bool}{base:List Int}{n j:Int}:j∈dX L base n↔j∈base∧L j n=true:=mF
theorem agy{L:Int→Int→Bool}{base:List Int}{n:Int}:minOf L base n=true↔∀j∈base,L j n=false:=by
 delta minOf dX;rw[C3,rT];simp
structure yg(L:Int→Int→Bool)(base D ord:List Int):Prop where
 nd:ord.Nodup
 sub:∀x∈ord,x∈base
 has:∀k∈D,k∈ord∧∀p∈dX L base k,p∈ord
 zs:((∀k∈D,minOf L base k=true)∧ord=D)∨ord.filter (minOf L base)=base.filter (minOf L base)
theorem Pr{ord:List Int}{p:Int}(h:ord.Nodup):(gp ord p).Nodup:=by
 by_cases hp:p∈ord
 ·rw[yf hp];exact h
 ·rw[rI hp,cJ];exact⟨h,by simp,λa ha b hb e=>hp (by rw[vq]at hb;rw[←hb,←e];exact ha)⟩
theorem Pu:∀(ps ord:List Int),ord.Nodup→(ps.foldl gp ord).Nodup
 |[],_,h=>h
 |p::r,ord,h=>Pu r _ (Pr h)
theorem uV:∀(ps ord:List Int) {x:Int},x∈ps.foldl gp ord↔x∈ord∨x∈ps
 |[],ord,x=>by simp
 |p::r,ord,x=>by
  rw[lz,uV r,nQ,aM,or_assoc]
theorem grow{L:Int→Int→Bool}(hL:jy L){base D rest ord:List Int}{n:Int}(hb:base.Nodup)(he:base=D++n::rest)(h:yg L base D ord):yg L base (D++[n]) ((dX L base n).foldl gp (gp ord n)):=by
 have hn:n∈base:=by rw[he];exact inr aY
 have pn:(dX L base n).Nodup:=hb.sublist nY;have nD:n∉D:=λm=>by
  rw[he,cJ]at hb;exact hb.2.2 n m n (.head _) rfl
 refine⟨Pu _ _ (Pr h.nd),λx hx=>?_,λk hk=>?_,?_⟩
 ·rw[uV,nQ]at hx;rcases hx with(hx|rfl)|hx
  ·exact h.sub x hx
  ·exact hn
  ·exact(pQ.mp hx).1
 ·rcases mA hk with hk|hk
  ·refine dY (h.has k hk) λh1 h2=>?_;exact⟨(uV _ _).mpr (.inl (nQ.mpr (.inl h1))),λp hp=>(uV _ _).mpr (.inl (nQ.mpr (.inl (h2 p hp))))⟩
  ·rw[sA hk];exact⟨(uV _ _).mpr (.inl (nQ.mpr (.inr rfl))),λp hp=>(uV _ _).mpr (.inr hp)⟩
 ·rcases h.zs with⟨z1,rfl⟩|z
  ·cases hm:minOf L base n with
   |true=>
    refine .inl ⟨λk hk=>?_,?_⟩
    ·rcases mA hk with hk|hk
     ·exact z1 k hk
     ·rw[sA hk];exact hm
    ·have:dX L base n=[]:=by
      delta minOf at hm;exact C3.mp hm
     rw[this];exact rI nD
   |false=>
    refine .inr ?_;rw[rI nD,Hx _ _ pn,n6,n6];have a1:ord.filter (minOf L base)=ord:=C0.mpr z1;have a2:[n].filter (minOf L base)=[]:=by rw[mE,hm];rfl
    have some:∃p∈base,L p n=true:=by
     delta minOf at hm;rw[sr]at hm;refine fC (JA _ λe=>hm (C3.mpr e)) λp hp=>?_;exact⟨p,pQ.mp hp⟩
    refine aS some λp hp hpn=>?_;have all:∀m∈base,minOf L base m=true→L m n=true:=λm af hmm=>by
     rcases hL.Pq p n m hpn with e|e
     ·have:=agy.mp hmm p hp;rw[e]at this;cases this
     ·exact e
    rw[a1,a2,dZ];delta dX;rw[List.filter_filter,List.filter_filter];have a3:(base.filter λa=>minOf L base a && !(ord++[n]).contains a && L a n)=base.filter λa=>minOf L base a && !ord.contains a:=mC λa ha=>by
     rw[mL];simp only[Di,Bool.not_eq_true',List.contains_eq_mem,decide_eq_false_iff_not,n8,vq];constructor
     ·rintro⟨⟨q1,q2⟩,_⟩
      exact⟨q1,λh=>q2 (.inl h)⟩
     ·rintro⟨q1,q2⟩
      refine⟨⟨q1,λh=>h.elim q2 λe=>?_⟩,all a ha q1⟩;rw[e,hm]at q1;cases q1
    have sp:∀M:Int→Bool,base.filter M=ord.filter M++(n::rest).filter M:=λM=>by rw[he,n6]
    rw[a3,sp (minOf L base),sp λa=>minOf L base a && !ord.contains a,a1];have a4:(ord.filter λa=>minOf L base a && !ord.contains a)=[]:=rT.mpr λa ha=>by
     simp[ha]
    rw[a4,pX];congr 1
    refine mC λa ha=>?_;have:a∉ord:=λm=>by
     rw[he,cJ]at hb;exact hb.2.2 a m a ha rfl
    simp[this]
  ·refine .inr ?_;have keep:∀x,x∈base→minOf L base x=true→x∈ord:=λx hx hm=>by
    have:x∈base.filter (minOf L base):=mF.mpr ⟨hx,hm⟩;rw[←z]at this;exact(mF.mp this).1
   rw[Hx _ _ pn,n6];have b1:(gp ord n).filter (minOf L base)=ord.filter (minOf L base):=by
    by_cases hno:n∈ord
    ·rw[yf hno]
    ·rw[rI hno,n6,mE];have:minOf L base n=false:=by
      rw[sr];exact λh=>hno (keep n hn h)
     rw[this];simp
   have b2:((dX L base n).filter λp=>!(gp ord n).contains p).filter (minOf L base)=[]:=rT.mpr λx hx hm=>by
    refine dY (mF.mp hx) λx1 x2=>?_;simp[nQ,(keep x (pQ.mp x1).1 hm)]at x2
   rw[b1,b2,dZ,z]
theorem Hy{L:Int→Int→Bool}(hL:jy L){base:List Int}(hb:base.Nodup)(h6:base.length≤6):∀(l:List GE) (rest D ord:List Int),l.map (λx=>(x.n,x.ps.map (·.1)))=rest.map (λn=>(n,dX L base n))→base=D++rest→yg L base D ord→
  pq (rep ord (iO (dX L base) D)) l∧∃ord',A0 (rep ord (iO (dX L base) D)) l=rep ord' (iO (dX L base) base)∧yg L base base ord'
 |[],[],D,ord,_,he,h=>by
  rw[dZ]at he;subst he;exact⟨.nil _,ord,rfl,h⟩
 |[],_::_,_,_,hl,_,_=>nomatch hl
 |_::_,[],_,_,hl,_,_=>nomatch hl
 |x::l,n::rest,D,ord,hl,he,h=>by
  rw[bP,bP]at hl;injection hl with h1 hl
  injection h1 with h1 h2
  have nD:n∉D:=λm=>by
   rw[he,cJ]at hb;exact hb.2.2 n m n (.head _) rfl
  have hs:n∉dX L base n:=λm=>by
   have:=(pQ.mp m).2;rw[hL.BH]at this;cases this
  have e:=agw h2 (hb.sublist nY) nD hs h.has;refine dY (Hy hL hb h6 l rest (D++[n]) _ hl (by rw[he,fP];rfl) (grow hL hb he h)) λi1 i2=>?_
  rw[←e,←h1]at i1 i2;refine⟨.cons ⟨?_,λe he'=>?_⟩ ?_ i1,i2⟩
  ·delta rep;rw[bl];exact U7 h6 (kr ord base h.nd h.sub)
  ·refine aS (aN.mp he') λm af aG=>?_;subst aG;rw[he,fZ]at h6;show(iO (dX L base) D m).2.length≤900;exact VE h6 (CT _ _)
  ·have hn:n∈base:=by rw[he];exact inr aY
   have:(dX L base n).length≤(base.erase n).length:=kr _ _ (hb.sublist nY) λy hy=>(CW λ(q:y=n)=>hs (q▸hy)).mpr (pQ.mp hy).1;rw[CO hn,←h2,bl]at this;exact U4 h6 this
inductive Canon(L:Int→Int→Bool):List (List Int)→Prop
 |nil:Canon L []
 |cons {c:List Int} {rs:List (List Int)}:c≠[]→c.Pairwise (·< ·)→(∀a∈c,∀b∈c,L a b=false)→(∀a∈c,∀d∈rs.flatten,L a d=true)→Canon L rs→Canon L (c::rs)
noncomputable def dO(L:Int→Int→Bool)(base:List Int)(n:Int):List Int:=base.filter λm=>L n m
theorem BI{L:Int→Int→Bool}{base:List Int}{n j:Int}:j∈dO L base n↔j∈base∧L n j=true:=mF
noncomputable def iC(L:Int→Int→Bool)(l:List Int)(n:Int):Int:=((l.filter λm=>L m n).length:Int)
theorem agB(a b:Int)(h:a<b)(h':b<a):False:=by exact SN h h'
theorem agC{ord:List Int}{F:Int→Int×List Int}{rd:List Int}{p:Int}(hp:p∈ord):qL (rep ord F,rd) p=(rep ord (jx p (gD (-1)) F),rd++match(F p).1+ -1==0 with|true=>[p]|false=>[]):=by
 delta qL;rw[uU];have e:(rep ord (jx p (gD (-1)) F)).any (λe=>e.1==p && e.2.1==0)=((F p).1+ -1==0):=by
  rw[mL,yL];constructor
  ·rintro⟨e,he,h⟩
   refine aS (aN.mp he) λn af aG=>?_;subst aG;have h:=yV.mp h;have:n=p:=eq_of_beq h.1;subst this;have h2:=h.2;rw[pP,gD]at h2;exact h2
  ·intro h;refine⟨(p,jx p (gD (-1)) F p),aN.mpr ⟨p,hp,rfl⟩,?_⟩;rw[pP,gD,h,beq_self_eq_true,Bool.and_self]
 rw[e];cases (F p).1+ -1==0<;>simp
theorem Pw{ord:List Int}:∀(vs:List Int) (F:Int→Int×List Int) (rd:List Int),vs.Nodup→(∀s∈vs,s∈ord)→
  ∃F':Int→Int×List Int,vs.foldl qL (rep ord F,rd)=(rep ord F',rd++vs.filter λs=>(F s).1+ -1==0)∧(∀s∈vs,F' s=((F s).1+ -1,(F s).2))∧∀s,s∉vs→F' s=F s
 |[],F,rd,_,_=>⟨F,by simp,(λaf h=>nomatch h),λaf af=>rfl⟩
 |p::r,F,rd,nd,h=>by
  have nd:=bA.mp nd;obtain⟨F',e,h1,h2⟩:=Pw r (jx p (gD (-1)) F) (rd++match(F p).1+ -1==0 with|true=>[p]|false=>[]) nd.2 λs hs=>h s (.tail _ hs)
  refine⟨F',?_,λs hs=>?_,λs hs=>?_⟩
  ·rw[lz,agC (h p (.head _)),e,mE,fP];have:(r.filter λs=>(jx p (gD (-1)) F s).1+ -1==0)=r.filter λs=>(F s).1+ -1==0:=mC λs hs=>by
    rw[ku λ(e:s=p)=>nd.1 (e▸hs)]
   rw[this];cases (F p).1+ -1==0<;>rfl
  ·by_cases hr:s∈r
   ·rw[h1 s hr,ku λ(e:s=p)=>nd.1 (e▸hr)]
   ·rcases aM.mp hs with rfl|hs
    ·rw[h2 _ hr,pP];rfl
    ·exact absurd hs hr
  ·rw[h2 s λm=>hs (.tail _ m),ku λ(e:s=p)=>hs (e▸.head _)]
theorem Px{ord:List Int}:∀(c:List Int) (F:Int→Int×List Int),∃F',jG (rep ord F) c=rep ord F'∧(∀s∈c,F' s=(-1,(F s).2))∧∀s,s∉c→F' s=F s
 |[],F=>⟨F,rfl,(λaf h=>nomatch h),λaf af=>rfl⟩
 |p::r,F=>by
  obtain⟨F',e,h1,h2⟩:=Px r (jx p tQ F);refine⟨F',?_,λs hs=>?_,λs hs=>?_⟩
  ·show jG (fm p tQ (rep ord F)) r=_;rw[uU,e]
  ·by_cases hr:s∈r
   ·rw[h1 s hr];by_cases e:s=p
    ·subst e;rw[pP];rfl
    ·rw[ku e]
   ·rcases aM.mp hs with rfl|hs
    ·rw[h2 _ hr,pP];rfl
    ·exact absurd hs hr
  ·rw[h2 s λm=>hs (.tail _ m),ku λ(e:s=p)=>hs (e▸.head _)]
structure Rest(L:Int→Int→Bool)(base ord c:List Int)(rs:List (List Int)):Prop where
 sub:∀x∈base,x∈ord
 mem:∀x∈(c::rs).flatten,x∈base
 up:∀p∈c,∀x,x∈dO L base p↔x∈rs.flatten
theorem head_filter{L:Int→Int→Bool}(hL:jy L){rs:List (List Int)}(hc:Canon L rs){vs:List Int}(pw:vs.Pairwise (·< ·))(hv:∀x,x∈vs↔x∈rs.flatten):(vs.filter λs=>iC L rs.flatten s==0)=rs.headD []:=by
 cases hc with
 |nil=>
  rw[(List.eq_nil_iff_forall_not_mem.mpr λx hx=>nomatch (hv x).mp hx)];rfl
 |@cons c rs h1 h2 h3 h4 h5=>
  refine Hw agB _ _ (pw.sublist nY) h2 λx=>?_;rw[mF,hv,jS,n8];constructor
  ·rintro⟨hx|hx,h⟩
   ·exact hx
   ·exfalso
    refine fC (JA _ h1) λa ha=>?_;have h:=eq_of_beq h;unfold iC at h;exact QF h (CP (mF.mpr ⟨inl ha,h4 a ha x hx⟩))
  ·intro hx;refine⟨.inl hx,?_⟩;have:((c++rs.flatten).filter λm=>L m x)=[]:=rT.mpr λm hm=>by
    rcases mA hm with hm|hm
    ·rw[h3 m hm x hx];simp
    ·rw[hL.nP _ _ (h4 x hx m hm)];simp
   delta iC;rw[this];rfl
theorem Py{L:Int→Int→Bool}(hL:jy L){base ord c:List Int}{rs:List (List Int)}(pb:base.Pairwise (·< ·))(h6:base.length≤6)(hR:Rest L base ord c rs)(hc:Canon L rs):∀(r:List Int) (F:Int→Int×List Int),r≠[]→r.Nodup→(∀p∈r,p∈c)→(∀a∈c,a∉rs.flatten)→
  (∀p∈r,(F p).1=-1)→(∀n∈rs.flatten,(F n).1=(r.length:Int)+iC L rs.flatten n)→(∀n∈base,(F n).2=dO L base n)→
  ∃F',jF (rep ord F,[]) r (rep ord F',rs.headD [])∧(∀n∈rs.flatten,(F' n).1=iC L rs.flatten n)∧∀n∈base,(F' n).2=dO L base n
 |[],_,h,_,_,_,_,_,_=>absurd rfl h
 |p::r,F,_,nd,hr,hd,h1,h2,h3=>by
  have nd:=bA.mp nd;have Hz:=hr p (.head _);have Pz:p∈base:=hR.mem p (yK.mpr ⟨c,.head _,Hz⟩);have hup:=hR.up p Hz;have PA:∀s∈dO L base p,s∈ord:=λs hs=>hR.sub s (BI.mp hs).1;refine ie (Pw (ord:=ord) (dO L base p) (jx p tO F) [] ((pb.imp λh e=>by exact Iv h e).sublist nY) PA) λF' e g1 g2=>?_
  have q1:∀s∈rs.flatten,(F' s).1=(r.length:Int)+iC L rs.flatten s:=λs hs=>by
   have hs':=(hup s).mpr hs;rw[g1 s hs',ku λ(e:s=p)=>(λm=>hd p Hz ((hup p).mp m)) (e▸hs'),h2 s hs,n7];show(((r.length+1:Nat):Int)+_)+ -1=_;exact QC
  have q2:∀n∈base,(F' n).2=dO L base n:=λn hn=>by
   have:(jx p tO F n).2=(F n).2:=by
    by_cases e:n=p
    ·subst e;rw[pP];rfl
    ·rw[ku e]
   by_cases hs:n∈dO L base p
   ·rw[g1 n hs];exact this.trans (h3 n hn)
   ·rw[g2 n hs];exact this.trans (h3 n hn)
  have q3:∀s∈r,(F' s).1=-1:=λs hs=>by
   rw[g2 s (λm=>hd s (hr s (.tail _ hs)) ((hup s).mp m)),ku λ(e:s=p)=>nd.1 (e▸hs)];exact h1 s (.tail _ hs)
  have cn:∀s,0≤iC L rs.flatten s:=λs=>by delta iC;exact vf
  have fl:((dO L base p).filter λs=>(jx p tO F s).1+ -1==0)=(dO L base p).filter λs=>(r.length:Int)+iC L rs.flatten s==0:=mC λs hs=>by
   rw[←q1 s ((hup s).mp hs),g1 s hs]
  rw[pX,fl]at e;have mem:(p,-1,dO L base p)∈rep ord F:=aN.mpr ⟨p,hR.sub p Pz,by
   show(p,(F p).1,(F p).2)=_;rw[h1 p (.head _),h3 p Pz]⟩
  have gn:∀s∈dO L base p,s∈oY (rep ord F):=λs hs=>by
   delta oY rep;rw[bQ];exact aN.mpr ⟨s,PA s hs,rfl⟩
  have len:([]:List Int).length+(dO L base p).length≤1000:=by
   show 0+_≤_;exact U5 h6 (CT _ _)
  by_cases hr0:r=[]
  ·subst hr0;have e0:((dO L base p).filter λs=>(([]:List Int).length:Int)+iC L rs.flatten s==0)=rs.headD []:=by
    rw[←head_filter hL hc (pb.sublist nY:(dO L base p).Pairwise (·< ·)) hup];refine mC λs af=>?_;show(((0:Nat):Int)+iC L rs.flatten s==0)=_;rw[Int.ofNat_zero,Dm]
   rw[e0]at e;refine⟨F',.cons (vs:=dO L base p) mem gn len ?_,λn hn=>?_,q2⟩
   ·rw[uU,e];exact .nil _
   ·rw[q1 n hn];show((0:Nat):Int)+iC L rs.flatten n=_;rw[Int.ofNat_zero,Dm]
  ·have e0:((dO L base p).filter λs=>(r.length:Int)+iC L rs.flatten s==0)=[]:=rT.mpr λs af h=>by
    have:=cn s;exact Qq ‹_› (eq_of_beq h) (JO.mpr hr0)
   rw[e0]at e;refine ie (Py hL pb h6 hR hc r F' hr0 nd.2 (λs hs=>hr s (.tail _ hs)) hd q3 q1 q2) λF'' d1 d2 d3=>?_;refine⟨F'',.cons (vs:=dO L base p) mem gn len ?_,d2,d3⟩;rw[uU,e];exact d1
theorem agE{L:Int→Int→Bool}(hL:jy L){base ord:List Int}(pb:base.Pairwise (·< ·))(h6:base.length≤6)(sub:∀x∈base,x∈ord)(aI:Int){rs:List (List Int)}(hc:Canon L rs):∀(F:Int→Int×List Int),(∀x∈rs.flatten,x∈base)→(∀x∈base,x∈rs.flatten∨∀y∈rs.flatten,L x y=true)→
  (∀n∈rs.flatten,(F n).1=iC L rs.flatten n)→(∀n∈base,(F n).2=dO L base n)→qM aI (rep ord F,rs.headD []) rs:=by
 induction hc with
 |nil=>exact λF af af af af=>.stop _
 |@cons c rs h1 h2 h3 h4 h5 ih=>
  intro F m1 m2 f1 f2;have cb:∀p∈c,p∈base:=λp hp=>m1 p (by rw[jS];exact inl hp)
  have PB:c.Nodup:=h2.imp λh e=>by exact Iv h e
  have hd:∀a∈c,a∉rs.flatten:=λa ha m=>by
   have:=h4 a ha a m;rw[hL.BH]at this;cases this
  have R:Rest L base ord c rs:=⟨sub,m1,λp hp x=>by
   rw[BI];constructor
   ·rintro⟨hx,hl⟩
    rcases m2 x hx with h|h
    ·rw[jS]at h;rcases mA h with h|h
     ·rw[h3 p hp x h]at hl;cases hl
     ·exact h
    ·have:=hL.nP _ _ (h p (by rw[jS];exact inl hp))
     rw[hl]at this;cases this
   ·exact λhx=>⟨m1 x (by rw[jS];exact inr hx),h4 p hp x hx⟩⟩
  refine ie (Px (ord:=ord) c F) λF' e g1 g2=>?_;have PC:∀x,x∈eS (jo aI c.length) c↔x∈c:=λx=>by
   delta eS;rw[n8,or_comm,←n8,JH]
  have rp:(eS (jo aI c.length) c).Perm c:=by
   delta eS;exact vo.trans (by rw[JH])
  have ln:(eS (jo aI c.length) c).length=c.length:=rp.length_eq;obtain⟨F2,d1,d2,d3⟩:=Py hL pb h6 R h5 (eS (jo aI c.length) c) F' (λe=>h1 (Jx (by rw[←ln,e];rfl))) (rp.nodup_iff.mpr PB) (λp hp=>(PC p).mp hp) hd (λp hp=>by rw[g1 p ((PC p).mp hp)]) (λn hn=>by
   rw[g2 n λm=>hd n m hn,f1 n (by rw[jS];exact inr hn),ln]
   delta iC;rw[jS,n6,fZ,C0.mpr λa ha=>h4 a ha n hn];exact Int.natCast_add _ _) (λn hn=>by
   by_cases hnc:n∈c
   ·rw[g1 n hnc];exact f2 n hn
   ·rw[g2 n hnc];exact f2 n hn)
  refine .turn (b:=(rep ord F2,rs.headD [])) h1 (bh (kr _ _ PB cb) h6) (λp hp=>?_) (by show jF (jG (rep ord F) c,[]) (eS (jo aI c.length) c) _;rw[e];exact d1) (ih F2 (λx hx=>m1 x (by rw[jS];exact inr hx)) (λx hx=>?_) d2 d3)
  ·delta oY rep;rw[bQ];exact aN.mpr ⟨p,sub p (cb p hp),rfl⟩
  ·rcases m2 x hx with h|h
   ·rw[jS]at h;rcases mA h with h|h
    ·exact .inr λy hy=>h4 x h y hy
    ·exact .inl h
   ·exact .inr λy hy=>h y (by rw[jS];exact inr hy)
noncomputable def lg(stk:List (Int×List Int)):Nat:=(stk.map λe=>e.2.length).sum
theorem rJ(a b:List (Int×List Int)):lg (a++b)=lg a+lg b:=by
 unfold lg;rw[aL,List.sum_append]
theorem HA:∀stk:List (Int×List Int),(∀e∈stk,e.2=[])∨∃rest n s ss ex,stk=rest++[(n,s::ss)]++ex∧∀e∈ex,e.2=[]
 |[]=>.inl λaf h=>nomatch h
 |e::stk=>by
  rcases HA stk with h|⟨rest,n,s,ss,ex,h1,h2⟩
  ·obtain⟨n,l⟩:=e;cases l with
   |nil=>
    refine .inl λe he=>?_;rcases aM.mp he with rfl|he
    ·rfl
    ·exact h e he
   |cons s ss=>exact .inr ⟨[],n,s,ss,stk,rfl,h⟩
  ·exact .inr ⟨e::rest,n,s,ss,ex,by rw[h1];rfl,h2⟩
structure Way(L:Int→Int→Bool)(base:List Int)(stk:List (Int×List Int)):Prop where
 pw:(stk.map (·.1)).Pairwise (λa b=>L a b=true)
 sub:∀e∈stk,e.1∈base
 up:∀e∈stk,∀s∈e.2,L e.1 s=true∧s∈base
theorem Way.cut{L:Int→Int→Bool}(hL:jy L){base:List Int}{rest ex:List (Int×List Int)}{n s:Int}{ss:List Int}(h:Way L base (rest++[(n,s::ss)]++ex)):Way L base (rest++[(n,ss)])∧s∈base∧∀e∈rest++[(n,ss)],L e.1 s=true:=by
 have pw:=h.pw;rw[aL,jR]at pw;have BJ:=pw.1;have hm:(n,s::ss)∈rest++[(n,s::ss)]++ex:=by exact inl (inr aY)
 have hn:=h.up _ hm;have hs:=hn s (.head _);refine⟨⟨by rw[aL]at BJ⊢;exact BJ,λe he=>?_,λe he=>?_⟩,hs.2,λe he=>?_⟩
 ·rcases mA he with he|he
  ·exact h.sub e (inl (inl he))
  ·have q:=h.sub _ hm;rw[sA he];exact q
 ·rcases mA he with he|he
  ·exact h.up e (inl (inl he))
  ·rw[sA he];exact λx hx=>hn x (.tail _ hx)
 ·rcases mA he with he|he
  ·rw[aL,jR]at BJ;exact hL.tr (BJ.2.2 e.1 (c7 he) n (.head _)) hs.1
  ·rw[sA he];exact hs.1
theorem Way.not_mem{L:Int→Int→Bool}(hL:jy L){stk:List (Int×List Int)}{node:Int}(h:∀e∈stk,L e.1 node=true):node∉stk.map (·.1):=λm=>by
 refine aS (aN.mp m) λe he aG=>?_;subst aG;have:=h e he;rw[hL.BH]at this;cases this
theorem agF{L:Int→Int→Bool}(hL:jy L){base ord:List Int}{F:Int→Int×List Int}(hb:base.Nodup)(h6:base.length≤6)(sub:∀x∈base,x∈ord)(hF:∀n∈base,(F n).2=dO L base n):∀(k:Nat) (seen:List Int) (stk:List (Int×List Int)) (node:Int),lg stk+8*(6-seen.length)≤k→seen.Nodup→(∀x∈seen,x∈base)→Way L base stk→node∈base→(∀e∈stk,L e.1 node=true)→
  ∃out,nA (rep ord F) seen stk node out∧out.Nodup∧∀x∈out,x∈base:=by
 intro k;induction k using Nat.strongRecOn with
 |ind k ih=>
  intro seen stk node hk nd ss w hn hu;have nm:=Way.not_mem hL hu;have l1:seen.length≤6:=bh (kr _ _ nd ss) h6;have l2:stk.length≤6:=by
   have:(stk.map (·.1)).Nodup:=w.pw.imp λ{a b} h (e:a=b)=>by
    subst e;rw[hL.BH]at h;cases h
   have:=kr _ base this λx hx=>by
    refine aS (aN.mp hx) λe he aG=>?_;subst aG;exact w.sub e he
   rw[bl]at this;exact U6 h6 this
  by_cases hs:node∈seen
  ·rcases HA stk with h|⟨rest,n,s,r,ex,h1,h2⟩
   ·exact⟨seen,.ME hs nm (yu l1) h,nd,ss⟩
   ·subst h1;refine dJ (w.cut hL) λw' sb HB=>?_;refine ie (ih (lg (rest++[(n,r)])+8*(6-seen.length)) (XS hk (rJ (rest++[(n,s::r)]) ex) (rJ rest [(n,s::r)]) (rJ rest [(n,r)]) rfl rfl) seen _ s (bk _) nd ss w' sb HB) λout d o1 o2=>?_;exact⟨out,.MD hs nm (yu l1) rfl h2 d,o1,o2⟩
  ·have gE:(seen++[node]).Nodup:=by
    rw[cJ];exact⟨nd,by simp,λa ha b hb e=>hs (by rw[vq]at hb;rw[←hb,←e];exact ha)⟩
   have ss':∀x∈seen++[node],x∈base:=λx hx=>(mA hx).elim (ss x) λh=>sA h▸hn;have l3:(seen++[node]).length≤6:=bh (kr _ _ gE ss') h6;rw[fZ]at l3;have l3:seen.length+1≤6:=l3;have hm:(node,(F node).1,dO L base node)∈rep ord F:=aN.mpr ⟨node,sub node hn,by
    show(node,(F node).1,(F node).2)=_;rw[hF node hn]⟩
   have w2:Way L base (stk++[(node,dO L base node)]):=by
    refine⟨?_,λe he=>?_,λe he=>?_⟩
    ·rw[aL,jR];exact⟨w.pw,yF _ _,λa ha b hb=>by
      refine aS (aN.mp ha) λe he aG=>?_;subst aG;rw[sA hb];exact hu e he⟩
    ·rcases mA he with he|he
     ·exact w.sub e he
     ·rw[sA he];exact hn
    ·rcases mA he with he|he
     ·exact w.up e he
     ·rw[sA he];exact λx hx=>⟨(BI.mp hx).2,(BI.mp hx).1⟩
   rcases HA (stk++[(node,dO L base node)])with h|⟨rest,n,s,r,ex,h1,h2⟩
   ·exact⟨_,.MC hs nm ⟨by exact yu l2,by exact H7 l3⟩ hm h,gE,ss'⟩
   ·have e0:=rJ stk [(node,dO L base node)];have e9:lg [(node,dO L base node)]=(dO L base node).length:=rfl;have e8:(dO L base node).length≤base.length:=CT _ _;have e7:=congrArg lg h1;rw[h1]at w2;refine dJ (w2.cut hL) λw' sb HB=>?_;have e1:=rJ (rest++[(n,s::r)]) ex;have e2:=rJ rest [(n,s::r)];have e3:=rJ rest [(n,r)];have e4:lg [(n,s::r)]=r.length+1:=rfl;have e5:lg [(n,r)]=r.length:=rfl;refine ie (ih (lg (rest++[(n,r)])+8*(6-(seen++[node]).length)) (by rw[fZ];show _+8*(6-(seen.length+1))<k;omega) (seen++[node]) _ s (bk _) gE ss' w' sb HB) λout d o1 o2=>?_
    exact⟨out,.MB hs nm ⟨by exact yu l2,by exact H7 l3⟩ hm h1 h2 d,o1,o2⟩
theorem HC{L:Int→Int→Bool}(hL:jy L){base ord:List Int}{F:Int→Int×List Int}(hb:base.Nodup)(h6:base.length≤6)(sub:∀x∈base,x∈ord)(hF:∀n∈base,(F n).2=dO L base n):∀(l seen:List Int),(∀x∈l,x∈base)→seen.Nodup→(∀x∈seen,x∈base)→kP (rep ord F) l seen
 |[],seen,_,_,_=>.nil seen
 |n::r,seen,h,nd,ss=>by
  have l1:seen.length≤6:=bh (kr _ _ nd ss) h6;by_cases hs:n∈seen
  ·exact .skip hs (Im l1) (HC hL hb h6 sub hF r seen (λx hx=>h x (.tail _ hx)) nd ss)
  ·refine ie (agF hL hb h6 sub hF _ seen [] n (bk _) nd ss ⟨.nil,(λaf h=>nomatch h),(λaf h=>nomatch h)⟩ (h n (.head _)) (λaf h=>nomatch h)) λout d o1 o2=>?_;exact .go hs (Im l1) d (HC hL hb h6 sub hF r out (λx hx=>h x (.tail _ hx)) o1 o2)
noncomputable def Lz(T:Nat→List Nat)(a b:Int):Bool:=lexLt (T a.toNat) (T b.toNat)
theorem PD{x y:List Nat}(h:lexLt x y=true):lexLt y x=false:=by
 cases e:lexLt y x with
 |false=>rfl
 |true=>exact(uI x).symm.trans (lex_trans _ _ _ h e)|>.symm
theorem yh(T:Nat→List Nat):jy (Lz T):=by
 refine⟨λa b h=>PD h,λa b c h=>?_⟩;unfold Lz at*;cases e1:lexLt (T a.toNat) (T c.toNat)with
 |true=>exact .inl rfl
 |false=>
  refine .inr ?_;cases e2:lexLt (T c.toNat) (T a.toNat)with
  |true=>exact lex_trans _ _ _ e2 h
  |false=>rw[←Bo _ _ e1 e2];exact h
structure BK(T:Nat→List Nat)(o:List Nat)(cs:List (List Int)):Prop where
 ne:∀c∈cs,c≠[]
 same:∀c∈cs,∀a∈c,∀b∈c,T a.toNat=T b.toNat
 diff:cs.Pairwise λc d=>∀a∈c,∀b∈d,T a.toNat≠T b.toNat
 flat:cs.flatten=o.map λ(n:Nat)=>(n:Int)
theorem agG{c:List Int}(h:c≠[]):c.headD 0∈c:=by
 cases c with
 |nil=>exact absurd rfl h
 |cons a r=>exact .head _
theorem HD{T:Nat→List Nat}{i j:Nat}(h:cH T i j)(n:T i≠T j):lexLt (T i) (T j)=true:=by
 rcases h with h|⟨h,_⟩
 ·exact h
 ·exact absurd h n
theorem PE{x y:List Nat}(h:lexLt x y=true):x≠y:=λe=>by
 rw[e,uI]at h;cases h
theorem agH{T:Nat→List Nat}{o:List Nat}{cs:List (List Int)}{p:Nat}(h:BK T o cs)(pw:(o++[p]).Pairwise (cH T)):BK T (o++[p]) (jv T cs p):=by
 obtain⟨h1,h2,h3,h4⟩:=h;rcases Ox cs with rfl|⟨BL,c,rfl⟩
 ·have:o=[]:=vp.mp h4.symm;subst this;refine⟨λc hc=>?_,λc hc a ha b hb=>?_,yF _ _,rfl⟩
  ·rw[sA hc];exact λh=>nomatch h
  ·rw[sA hc]at ha hb;rw[sA ha,sA hb]
 ·have hc:c∈BL++[c]:=inr (.head _);have hd:=agG (h1 c hc);rw[Hl];by_cases e:T (c.headD 0).toNat=T p
  ·rw[if_pos e];have h3':=jR.mp h3;have all:∀a∈c++[(p:Int)],T a.toNat=T p:=λa ha=>by
    rcases mA ha with ha|ha
    ·exact(h2 c hc a ha _ hd).trans e
    ·rw[sA ha];rfl
   refine⟨λd hm=>?_,λd hm a ha b hb=>?_,jR.mpr ⟨h3'.1,yF _ _,λd hm d' hm' a ha b hb=>?_⟩,?_⟩
   ·rcases mA hm with hm|hm
    ·exact h1 d (inl hm)
    ·rw[sA hm];simp
   ·rcases mA hm with hm|hm
    ·exact h2 d (inl hm) a ha b hb
    ·rw[sA hm]at ha hb;rw[all a ha,all b hb]
   ·rw[sA hm']at hb;rw[all b hb,←e];exact h3'.2.2 d hm c (.head _) a ha _ hd
   ·rw[CY]at h4⊢;rw[aL,←h4];simp
  ·rw[if_neg e];have PF:(BL++[c]).flatten.Pairwise λa b=>cH T a.toNat b.toNat:=by
    rw[h4,yJ];exact(jR.mp pw).1
   have bp:∀a∈(BL++[c]).flatten,cH T a.toNat p:=λa ha=>by
    rw[h4]at ha;refine aS (aN.mp ha) λn hn aG=>?_;subst aG;exact(jR.mp pw).2.2 n hn p (.head _)
   have ne:∀d∈BL++[c],∀a∈d,T a.toNat≠T p:=λd hm a ha=>by
    rcases mA hm with hm|hm
    ·rw[CY,jR]at PF;exact PE (lex_trans _ _ _ (HD (PF.2.2 a (yK.mpr ⟨d,hm,ha⟩) (c.headD 0) (by simpa using hd)) ((jR.mp h3).2.2 d hm c (.head _) a ha _ hd)) (HD (bp _ (yK.mpr ⟨c,hc,hd⟩)) e))
    ·rw[sA hm]at ha;rw[h2 c hc a ha _ hd];exact e
   refine⟨λd hm=>?_,λd hm a ha b hb=>?_,jR.mpr ⟨h3,yF _ _,λd hm d' hm' a ha b hb=>?_⟩,?_⟩
   ·rcases mA hm with hm|hm
    ·exact h1 d hm
    ·rw[sA hm];exact λh=>nomatch h
   ·rcases mA hm with hm|hm
    ·exact h2 d hm a ha b hb
    ·rw[sA hm]at ha hb;rw[sA ha,sA hb]
   ·rw[sA hm']at hb;rw[sA hb];exact ne d hm a ha
   ·rw[CY,aL,←h4];rfl
theorem PG{T:Nat→List Nat}:∀(r o:List Nat) (cs:List (List Int)),BK T o cs→(o++r).Pairwise (cH T)→BK T (o++r) (r.foldl (jv T) cs)
 |[],o,cs,h,_=>by rw[dZ];exact h
 |p::r,o,cs,h,pw=>by
  have e:o++p::r=(o++[p])++r:=by rw[fP];rfl
  rw[e]at pw⊢;exact PG r (o++[p]) _ (agH h (jR.mp pw).1) pw
theorem canon_of{T:Nat→List Nat}:∀cs:List (List Int),(∀c∈cs,c≠[])→(∀c∈cs,∀a∈c,∀b∈c,T a.toNat=T b.toNat)→(cs.Pairwise λc d=>∀a∈c,∀b∈d,T a.toNat≠T b.toNat)→(∀a∈cs.flatten,0≤a)→(cs.flatten.Pairwise λa b=>cH T a.toNat b.toNat)→Canon (Lz T) cs
 |[],_,_,_,_,_=>.nil
 |c::rs,h1,h2,h3,h4,h5=>by
  rw[jS]at h4 h5;have h3:=yH.mp h3;have h5:=jR.mp h5;refine .cons (h1 c (.head _)) ?_ (λa ha b hb=>?_) (λa ha d hd=>?_) (canon_of rs (λd hm=>h1 d (.tail _ hm)) (λd hm=>h2 d (.tail _ hm)) h3.2 (λa ha=>h4 a (inr ha)) h5.2.1)
  ·refine h5.1.imp_of_mem λ{a b} ha hb hab=>?_;rcases hab with e|⟨_,e⟩
   ·exact absurd (h2 c (.head _) a ha b hb) (PE e)
   ·exact SM e
  ·delta Lz;rw[h2 c (.head _) a ha b hb];exact uI _
  ·refine aS (yK.mp hd) λd' hd' hdd=>?_;exact HD (h5.2.2 a ha d hd) (h3.1 d' hd' a ha d hdd)
theorem PI{T:Nat→List Nat}{o:List Nat}(pw:o.Pairwise (cH T)):Canon (Lz T) (o.foldl (jv T) [])∧(o.foldl (jv T) []).flatten=o.map λ(n:Nat)=>(n:Int):=by
 obtain⟨h1,h2,h3,h4⟩:=PG (T:=T) o [] [] ⟨(λaf h=>nomatch h),(λaf h=>nomatch h),.nil,rfl⟩ pw;rw[pX]at h4;refine⟨canon_of _ h1 h2 h3 (λa ha=>?_) ?_,h4⟩
 ·rw[h4]at ha;refine aS (aN.mp ha) λn af aG=>?_;subst aG;exact Int.natCast_nonneg n
 ·rw[h4,yJ];exact pw
theorem HE{T:Nat→List Nat}{o:List Nat}(h6:o.length=6)(hl:∀n∈o,n<6)(pw:o.Pairwise (cH T))(n:Nat):n∈o↔n<6:=by
 have nd:o.Nodup:=pw.imp λ{a b} (h:cH T a b) (e:a=b)=>by
   subst e;exact Bp h
 exact⟨hl n,λh=>agv o (dm 6) nd (λx hx=>vt.mpr (hl x hx)) (by rw[List.length_range,h6];exact bk _) n (vt.mpr h)⟩
theorem agJ{T:Nat→List Nat}(a b:Nat)(h:cH T a b)(g:cH T b a):False:=Bp (GW h g)
theorem agK{T:Nat→List Nat}{o o':List Nat}(h6:o.length=6)(hl:∀n∈o,n<6)(pw:o.Pairwise (cH T))(h6':o'.length=6)(hl':∀n∈o',n<6)(PJ:o'.Pairwise (cH T)):o=o':=
 Hw agJ o o' pw PJ λx=>(HE h6 hl pw x).trans (HE h6' hl' PJ x).symm
noncomputable def cI:List Int:=[0,1,2,3,4,5]
theorem agM(T:Nat→List Nat)(pt k:Nat):(ez T pt k 0 6).map (·.1)=dX (Lz T) cI (k:Int):=by
 delta ez dX;rw[bQ,show cI=(yR 0 6).map λ(n:Nat)=>(n:Int)from rfl,yO];rfl
theorem PK(T:Nat→List Nat)(pt a0 e0 a1 e1 a2 e2 a3 e3 a4 e4 a5 e5:Nat):(uR T pt a0 e0 a1 e1 a2 e2 a3 e3 a4 e4 a5 e5).map (λx=>(x.n,x.ps.map (·.1)))=cI.map λn=>(n,dX (Lz T) cI n):=by
 have h:=agM T pt;show[((0:Int),(ez T pt 0 0 6).map (·.1)),(1,(ez T pt 1 0 6).map (·.1)),(2,(ez T pt 2 0 6).map (·.1)),(3,(ez T pt 3 0 6).map (·.1)),(4,(ez T pt 4 0 6).map (·.1)),(5,(ez T pt 5 0 6).map (·.1))]=_;rw[h 0,h 1,h 2,h 3,h 4,h 5];rfl
theorem PL:cI.Pairwise (·< ·):=by decide
theorem BO:cI.Nodup:=by decide
theorem PN(L:Int→Int→Bool):yg L cI [] []:=⟨.nil,(λaf h=>nomatch h),(λaf h=>nomatch h),.inl ⟨(λaf h=>nomatch h),rfl⟩⟩
theorem agN(T:Nat→List Nat)(pt a0 e0 a1 e1 a2 e2 a3 e3 a4 e4 a5 e5:Nat):pq [] (uR T pt a0 e0 a1 e1 a2 e2 a3 e3 a4 e4 a5 e5):=
 (Hy (yh T) BO (by decide) _ cI [] [] (PK T pt a0 e0 a1 e1 a2 e2 a3 e3 a4 e4 a5 e5) rfl (PN _)).1
theorem PO{L:Int→Int→Bool}{rs:List (List Int)}(h:Canon L rs):rs.length≤rs.flatten.length:=by
 induction h with
 |nil=>exact bk _
 |cons h1 _ _ _ _ ih=>
  rw[jS,fZ,n7];exact Vt (JO.mpr h1) ih
theorem agO{T:Nat→List Nat}{pt:Nat}{v:SV}{rs:List (List Int)}(hg:v.g=O7 T pt)(nd:(names v).Nodup)(hr:v.ready=.none)(hn:v.nf=v.np)(hc:xY T rs):Pb v rs:=by
 refine ly hc λo o6 ol pw aG=>?_;subst aG;refine dY (PI pw) λcn fl=>?_;refine aS ((Hy (yh T) BO (by decide) _ cI [] [] (PK T pt 0 0 0 0 0 0 0 0 0 0 0 0) rfl (PN _)).2) λord e gr=>?_
 have hg:v.g=rep ord (iO (dX (Lz T) cI) cI):=hg.trans e;have no:names v=ord:=by
  rw[←Fd,hg];delta oY rep;rw[bQ];exact Dd _
 have sub:∀x∈cI,x∈ord:=λx hx=>(gr.has x hx).1;have mem:∀x,x∈cI↔x∈(o.foldl (jv T) []).flatten:=λx=>by
  rw[fl,aN];constructor
  ·intro hx;have hx:x=0∨x=1∨x=2∨x=3∨x=4∨x=5:=by simpa[cI]using hx
   refine⟨x.toNat,(HE o6 ol pw _).mpr (QB hx),by exact QA hx⟩
  ·rintro⟨n,hn,rfl⟩
   show(n:Int)∈[0,1,2,3,4,5];simp only[aM,bO,or_false];exact RH (ol n hn)
 have PR:∀n∈cI,(iO (dX (Lz T) cI) cI n).2=dO (Lz T) cI n:=λn hn=>mC λk hk=>by
  rw[mL,pV,pQ];exact⟨λh=>h.2,λh=>⟨hn,h⟩⟩
 have HF:∀n∈cI,(iO (dX (Lz T) cI) cI n).1=((dX (Lz T) cI n).length:Int):=λn hn=>by
  delta iO;rw[(pV.mpr hn)]
 have fnd:(o.foldl (jv T) []).flatten.Nodup:=by
  rw[fl];have nd:o.Nodup:=pw.imp λ{a b} (h:cH T a b) (e:a=b)=>by
   subst e;exact Bp h
  exact yJ.mpr (nd.imp λh e=>h (vD.mp e))
 have PS:∀n,iC (Lz T) (o.foldl (jv T) []).flatten n=((dX (Lz T) cI n).length:Int):=λn=>by
  have h1:=kr ((o.foldl (jv T) []).flatten.filter λm=>Lz T m n) (dX (Lz T) cI n) (fnd.sublist nY) λx hx=>by
   refine dY (mF.mp hx) λx1 x2=>?_;exact pQ.mpr ⟨(mem x).mpr x1,x2⟩
  have h2:=kr (dX (Lz T) cI n) ((o.foldl (jv T) []).flatten.filter λm=>Lz T m n) (BO.sublist nY) λx hx=>by
   refine dY (pQ.mp hx) λx1 x2=>?_;exact mF.mpr ⟨(mem x).mp x1,x2⟩
  delta iC;exact Vg h1 h2
 have PT:∀x∈ord,x∈cI:=gr.sub;have zm:∀n∈cI,((iO (dX (Lz T) cI) cI n).1==0)=minOf (Lz T) cI n:=λn hn=>by
  rw[HF n hn];delta minOf;rw[mL,beq_iff_eq,List.isEmpty_iff_length_eq_zero];exact QG
 have z1:(zeros v.l).map (·.1)=ord.filter λn=>(iO (dX (Lz T) cI) cI n).1==0:=by
  have a1:(zeros v.l).map (·.1)=(v.g.filter λe=>e.2.1==0).map (·.1):=by
   delta zeros SV.g;rw[yO,bQ,bQ];rfl
  rw[a1,hg];delta rep;rw[yO,bQ];exact Dd _
 have z2:(zeros v.l).map (·.1)=(o.foldl (jv T) []).headD []:=by
  rw[z1,mC λn hn=>zm n (PT n hn)];have z3:ord.filter (minOf (Lz T) cI)=cI.filter (minOf (Lz T) cI):=by
   rcases gr.zs with⟨_,e⟩|z
   ·rw[e]
   ·exact z
  rw[z3,←head_filter (yh T) cn PL mem];refine mC λn hn=>?_;rw[←zm n hn,HF n hn,PS n]
 have ll:v.l.length=ord.length:=by
  rw[←no];delta names;rw[bl]
 refine⟨hr,λe=>?_,by exact UM ll (kr ord cI gr.nd gr.sub),hn,nd,?_,λaI=>?_,?_⟩
 ·rw[e]at ll;have:=sub 0 (.head _);rw[Jx ll.symm]at this;cases this
 ·rw[hg,no];exact HC (yh T) BO (by decide) sub PR ord [] PT .nil λaf h=>nomatch h
 ·rw[hg,z2];exact agE (yh T) PL (by decide) sub aI cn _ (λx hx=>(mem x).mpr hx) (λx hx=>.inl ((mem x).mp hx)) (λn hn=>by rw[HF n ((mem n).mpr hn),PS]) PR
 ·have:=PO cn;rw[fl,bl,o6]at this;exact Io this
theorem agQ{T:Nat→List Nat}{oc:bF}(hc:xY T (dM oc)):(fO oc).length=6∧oc.length≤900∧∀o:List Nat,o.length=6→(∀n∈o,n<6)→o.Pairwise (cH T)→(fO oc).map (·.1)=o.map λ(n:Nat)=>(n:Int):=by
 refine ly hc λo o6 ol pw e=>?_;refine dY (PI pw) λcn fl=>?_;have e1:(fO oc).map (·.1)=(dM oc).flatten:=by
  delta fO dM;rw[C2,List.flatMap_def]
 have e2:(fO oc).map (·.1)=o.map λ(n:Nat)=>(n:Int):=by rw[e1,e,fl]
 refine⟨?_,?_,λo' h1 h2 h3=>?_⟩
 ·have:=congrArg pY e2;rw[bl,bl,o6]at this;exact this
 ·have:=PO cn;rw[fl,bl,o6,←e]at this;delta dM at this;rw[bl]at this;exact Io this
 ·rw[e2,agK o6 ol pw h1 h2 h3]
theorem HG:∀x y:List Nat,decide (x<y)=lexLt x y
 |[],[]=>by decide
 |[],b::y=>by
  rw[decide_eq_true (List.nil_lt_cons b y)];rfl
 |a::x,[]=>by
  rw[decide_eq_false (List.not_lt_nil _)];rfl
 |a::x,b::y=>by
  have e:(a::x<b::y)↔a<b∨a=b∧x<y:=List.cons_lt_cons_iff;unfold lexLt;by_cases h:a=b
  ·rw[if_pos h,←(HG x y)];refine decide_eq_decide.mpr (e.trans ⟨λq=>?_,λq=>.inr ⟨h,q⟩⟩);rcases q with q|q
   ·omega
   ·exact q.2
  ·rw[if_neg h];refine decide_eq_decide.mpr (e.trans ⟨λq=>?_,λq=>.inl q⟩);rcases q with q|q
   ·exact q
   ·exact absurd q.1 h
theorem agR(x y:List Nat):decide (xK x y<0)=lexLt x y:=by
 unfold xK;rw[HG,HG];cases e:lexLt x y with
 |true=>rw[PD e];rfl
 |false=>cases lexLt y x<;>rfl
theorem agS(w0:ao)(fb fc:Bool)(g:Nat)(x:LA)(m:ML)(hx:∃n,m.z.x=n+236):
  pL (ak w0 fb fc) m.z (Bm (m.b+7) (m.b+6) (g+3) m.b x.SL 6 (.str kW m.tk) (m.tk+1) (rA m.b m.tk) (c5 x.iM)) (fM x.told):=by
 refine⟨hx,λi j t u hi hj=>?_⟩;have hs:=x.OX;have l6:x.iM.length=6:=by
  have:=congrArg pY hs;rw[bl,bl,x.six.1]at this;exact this
 have t6:=x.six.1;have at':∀n,n<6→∃tk,(c5 x.iM)[n]?=some (.str ⟨⟨cA 13 (fM x.told n)⟩⟩ tk):=λn hn=>by
  have e1:=fY (l:=x.iM) (i:=n) (IM hn l6);have e2:=fY (l:=x.told) (i:=n) (IM hn t6);have e3:=congrArg (λl=>l[n]?) hs;simp only[dK,e1,e2,vC]at e3;injection e3 with e3
  refine⟨x.iM[n].2,?_⟩;have e4:fM x.told n=x.told[n].vs.map (·.1):=by unfold fM;rw[e2]
  rw[e4,←e3];unfold c5;rw[dK,e1];rfl
 obtain⟨t1,h1⟩:=at' i hi;obtain⟨t2,h2⟩:=at' j hj;refine⟨xK (cA 13 (fM x.told i)) (cA 13 (fM x.told j)),(agR _ _).trans (NP _ _ 13),?_⟩;exact aeE w0 fb fc (m.b+7) (m.b+6) (g+3) m.b x.SL 6 (.str kW m.tk) (m.tk+1) (rA m.b m.tk) (c5 x.iM) (by unfold c5;rw[bl];exact RU l6) i j t u _ _ t1 t2 h1 h2
theorem agT:fBody jr=fV 0 1++(fV 1 3++(fV 4 1++(fV 5 2++(fV 7 1++(fV 8 1++(fV 9 1++fV 10 1)))))):=by
 kernel_rfl!
theorem Lies.mk'{kt:bZ}{h:az}{l:Led}(T:aR kt h)(g:∀p∈l,h.get? p.2.1=some p.2.2)(nd:(adr l).Nodup)(off:∀p∈l,p.1=true→kt.get p.2.1=none):Lies kt h l:=
 ⟨λq hq=>by
  refine aS (aN.mp hq) λp hp aG=>?_;subst aG;exact g p hp,nd,off,T⟩
theorem bw.toK{U F:List Nat}{h h':az}(k:bw U F h h'):Keeps (F++U) h h':=
 ⟨k.1,λb o hb e=>(k.2 b o (λm=>hb (inr m)) e).1 λm=>hb (inl m)⟩
theorem Lies.PU{kt:bZ}{h:az}{l l':Led}(H:Lies kt h l)(hf:∀p∈l',p.1=false)(e:l'.map (·.2)=l.map (·.2)):Lies kt h l':=by
 refine⟨λq hq=>H.has q (e▸hq),?_,λp hp hm=>?_,H.top⟩
 ·have:=congrArg (List.map (·.1)) e;rw[bQ,bQ]at this;show(adr l').Nodup;have e2:adr l'=adr l:=this;rw[e2];exact H.nd
 ·rw[hf p hp]at hm;cases hm
theorem agU{α:Type}(P g1 b7 b6 g3 SL g2 g:α)(Z:List α):([b6,b7]++Z++[P]++[g3,SL,g1,g2,g]).Perm ([P,g1]++([b7,b6,g3,SL]++Z)++[g2,g]):=by
 classical
 refine List.perm_iff_count.mpr λa=>?_;simp only[List.count_append,List.count_cons,List.count_nil];ac_rfl
theorem agV(w0:ao)(fb fc:Bool)(SC ep g k1:Nat)(items:List (Int×Nat))(hl:items.length≤900)(hg:236≤g){A:aV}{s:aA}{Q:f7→aA→Prop}{E:aj→aA→Prop}(hA:bK 61 A)(hF:A.frames=some [eV g])(hT:aR (kt (ak w0 fb fc).params) s.heap)
  (hP:Lies (kt (ak w0 fb fc).params) s.heap [(false,SC,ai (items.map iv) ep),(true,g,uQ (ak w0 fb fc) SC k1),(true,g+1,bG none),(true,g+2,bG none),(true,g+3,bG none),(true,54,fy),(true,231,fy),(true,224,fy)])
  (hQ:∀h' t',aR (kt (ak w0 fb fc).params) h'→Keeps [g,g+1,g+2,g+3,54,231,224] s.heap h'→(∃vs,h'.get? 54=some (gk vs))→(∃vs,h'.get? 231=some (gk vs))→(∃vs,h'.get? 224=some (gk vs))→Q (.ret (.bool true)) ⟨h',s.gens,s.drawn,t',s.os⟩):
  wpAny (model pw (ak w0 fb fc)) A (execs (fBody jr) (eV g)) Q E s:=by
 have L1:=afx w0 fb fc (some [eV g]) SC g k1;have L4:=afK w0 fb fc (some [eV g]) g SC k1;have L5:=afM w0 fb fc (some [eV g]) g SC k1;have L7:=λDR k2 TX k3 TL k4 P pt z l T hM=>afZ w0 fb fc (some [eV g]) g SC k1 DR k2 TX k3 TL k4 P pt z l T hM (agN T pt);have L8:=af2 w0 fb fc (some [eV g]) g SC k1;have L9:=agg w0 fb fc g SC k1;have L10:=agt w0 fb fc (some [eV g]);have LM:=agS w0 fb fc g;have L0:=afw w0 fb fc (some [eV g]) SC ep g k1 items hl;generalize ak w0 fb fc=w at*;have g3:g+3<s.heap.objs.size:=hP.lt (.tail _ (.tail _ (.tail _ (.tail _ (.head _)))));have BP:(kt w.params).get g=none:=hP.off (true,g,_) (.tail _ (.head _)) rfl;rw[agT];refine ry (L0 A s _ _ hA hF hT (hP.sub (.cons_cons _ (.cons_cons _ (.cons _ (.cons _ (.cons _ (.cons _ (.cons _ (.cons _ .slnil))))))))) λx0 h1 t1 T1 p1=>?_);obtain⟨DR,ds,k2,dep⟩:=x0;refine kC p1 λD1 K1 f1 e1=>?_;have K1:Keeps [g] s.heap h1:=K1;have f1:s.heap.objs.size≤DR:=f1;have e1:ds.map (·.1)=(items.take 40).map λp=>jw p.1:=e1;have dl:ds.length≤40:=by
  have:=congrArg pY e1;rw[bl,bl,rX]at this;exact UX this
 have dlt:∀p∈ds,p.1<1000000:=λp hp=>by
  have m:p.1∈ds.map (·.1):=c7 hp;rw[e1]at m;refine aS (aN.mp m) λq af e=>?_;have:=Int.fmod_lt_of_pos q.1 (show(0:Int)<1000000 by decide)
  have:=Dl q.1 (show(0:Int)<1000000 by decide)
  rw[←e];delta jw;exact Qy ‹_›
 have c1:h1.get? (g+1)=some (bG none):=K1.2 _ _ (λm=>by have:=sA m;exact H6 this) (hP.get (p:=(true,g+1,_)) (.tail _ (.tail _ (.head _))))
 have c2:h1.get? (g+2)=some (bG none):=K1.2 _ _ (λm=>by have:=sA m;exact RA this) (hP.get (p:=(true,g+2,_)) (.tail _ (.tail _ (.tail _ (.head _)))))
 have o1:(kt w.params).get (g+1)=none:=hP.off (true,g+1,_) (.tail _ (.tail _ (.head _))) rfl;have o2:(kt w.params).get (g+2)=none:=hP.off (true,g+2,_) (.tail _ (.tail _ (.tail _ (.head _)))) rfl;have PV:h1.get? DR=some (ai (aD ds) dep):=D1.get (p:=(true,DR,_)) (.tail _ (.head _));refine ry (L1 DR k2 dep ds (Sb dl) A ⟨h1,s.gens,s.drawn,t1,s.os⟩ _ _ hA hF T1 (Lies.mk' T1 (λp hp=>?_) ?_ λp hp hm=>?_) λx h2 t2 T2 p2=>?_)
 ·apply jz hp
  ·exact(D1.get (p:=(true,g,_)) (.head _):h1.get? g=some (x9 w SC k1 DR k2))
  ·exact c1
  ·exact c2
  ·exact(K1.2 _ _ (λm=>by exact H9 (sA m)) (hP.get (p:=(true,g+3,_)) (.tail _ (.tail _ (.tail _ (.tail _ (.head _)))))))
  ·exact PV
 ·show[g,g+1,g+2,g+3,DR].Nodup;simp only[bA,aM,or_false,not_or,gT,and_true,rW,not_false_eq_true];exact V1 g3 f1
 ·revert hm;apply jz hp<;>intro hm
  ·exact BP
  ·exact o1
  ·exact o2
  ·exact(hP.off (true,g+3,_) (.tail _ (.tail _ (.tail _ (.tail _ (.head _))))) rfl)
  ·cases hm
 refine dJ p2 λD2 K2 f2=>?_;refine ry (L4 DR k2 x A ⟨h2,s.gens,s.drawn,t2,s.os⟩ _ _ hA hF T2 D2 λaf h3 t3 T3 K3=>?_);have K3:Keeps [] h2 h3:=K3;have D3:=D2.ext T3 K3;have BQ:Keeps [g,g+3] h1 h3:=K2.trans K3.ext;have yi:Keeps [g,g+3] s.heap h3:=(Keeps.mono K1 λaf m=>by rw[sA m];exact .head _).trans BQ
 have k1s:=K1.1;have lI:∀a∈adr x.led,s.heap.objs.size≤a∧a<h3.objs.size:=λa ha=>⟨bh k1s (f2 a ha),D3.right.lt ha⟩;have PW:(true,x.TX,ai x.tx 0)∈x.led:=inl (inl (.head _));have PX:(true,x.TL,ai (c6 x.told) 6)∈x.led:=inl (inl (.tail _ (.head _)));have PY:(true,x.SL,ai (c5 x.iM) 6)∈x.led:=inr (.head _);have HH:=lI x.TL (mD PX);have BR:=lI x.SL (mD PY);have PZ:h3.get? (g+3)=some (bG (some (.ref x.SL))):=D3.get (p:=(true,g+3,_)) (.tail _ (.head _));have P0:h3.get? g=some (jd w SC k1 DR k2 x.TX x.k3 x.TL x.k4):=D3.get (p:=(true,g,_)) (.head _);refine ry (L5 DR k2 x.TX x.k3 x.TL x.k4 x.SL x.tx x.six.2.2 A ⟨h3,s.gens,s.drawn,t3,s.os⟩ _ _ hA hF T3 (Lies.mk' T3 (λp hp=>?_) ?_ λp hp hm=>?_) λm h5 t5 T5 p5=>?_)
 ·apply Jq hp
  ·exact yi.2 _ _ (λm=>by exact Rf hg (b3 m)) (hP.get (p:=(true,54,_)) (.tail _ (.tail _ (.tail _ (.tail _ (.tail _ (.head _)))))))
  ·exact yi.2 _ _ (λm=>by exact Rc (b3 m) hg) (hP.get (p:=(true,231,_)) (.tail _ (.tail _ (.tail _ (.tail _ (.tail _ (.tail _ (.head _))))))))
  ·exact P0
  ·exact(BQ.2 _ _ (λm=>by exact Rx (b3 m)) c1)
  ·exact(BQ.2 _ _ (λm=>by exact RB (b3 m)) c2)
  ·exact PZ
  ·exact D3.right.get (p:=(true,x.TX,ai x.tx 0)) PW
 ·show[54,231,g,g+1,g+2,g+3,x.TX].Nodup;simp only[bA,aM,or_false,not_or,gT,and_true,rW,not_false_eq_true];exact Vu hg g3 (lI x.TX (mD PW)).1
 ·revert hm;apply Jq hp<;>intro hm
  ·exact(hP.off (true,54,_) (.tail _ (.tail _ (.tail _ (.tail _ (.tail _ (.head _)))))) rfl)
  ·exact(hP.off (true,231,_) (.tail _ (.tail _ (.tail _ (.tail _ (.tail _ (.tail _ (.head _))))))) rfl)
  ·cases hm
  ·exact o1
  ·exact o2
  ·cases hm
  ·cases hm
 refine XX p5 λD5 K5 f5 agZ ag0=>?_;have K5:Keeps [54,231,g+1,g+2] h3 h5:=K5;have f5:∀a∈adr (m.led w g),h3.objs.size≤a:=f5;have yj:=yi.1;have BU:=K5.1;have mP:(true,m.P,ai (six m.pt) 8)∈m.led w g:=inr (.head _);have uW:∀a∈adr (m.led w g),s.heap.objs.size≤a∧h3.objs.size≤a∧a<h5.objs.size:=λa ha=>⟨bh yj (f5 a ha),f5 a ha,D5.right.lt ha⟩;have hM:=LM x m ⟨m.z.x-236,by exact Vy hg g3 (uW _ (aN.mpr ⟨(false,m.z.x,pH w (jb m.z.g m.z.t) m.z.x m.z.u),inl (inr (aN.mpr ⟨(m.z.x,_),by delta KZ.new;exact kB,rfl⟩)),rfl⟩)).1⟩
 generalize hl':Bm (m.b+7) (m.b+6) (g+3) m.b x.SL 6 (.str kW m.tk) (m.tk+1) (rA m.b m.tk) (c5 x.iM)=l at hM;have gSL:=K5.2 _ _ (λm=>by exact Vw hg g3 BR.1 (jO m)) (D3.right.get PY)
 have P1:h5.get? (g+1)=some (bG (some (.ref (m.z.x+1)))):=D5.get (p:=(true,g+1,_)) (.head _);have P4:h5.get? (g+2)=some (bG (some (.ref m.P))):=D5.get (p:=(true,g+2,_)) (.tail _ (.head _));have five:Lies (kt w.params) h5 [(false,g+3,bG (some (.ref x.SL))),(false,x.SL,ai (c5 x.iM) 6),(false,g+1,bG (some (.ref (m.z.x+1)))),(false,g+2,bG (some (.ref m.P))),(true,g,jd w SC k1 DR k2 x.TX x.k3 x.TL x.k4)]:=by
  refine Lies.mk' T5 (λp hp=>?_) ?_ λp hp hm=>?_
  ·apply jz hp
   ·exact(K5.2 _ _ (λm=>by exact Rg hg (jO m)) PZ)
   ·exact gSL
   ·exact P1
   ·exact P4
   ·exact(K5.2 _ _ (λm=>by exact Ri hg (jO m)) P0)
  ·show[g+3,x.SL,g+1,g+2,g].Nodup;simp only[bA,aM,or_false,not_or,gT,and_true,rW,not_false_eq_true];exact V0 g3 BR.1
  ·revert hm;apply jz hp<;>intro hm
   ·cases hm
   ·cases hm
   ·cases hm
   ·cases hm
   ·exact BP
 have ag2:Lies (kt w.params) h5 ([(false,m.b+6,xJ (.str kW m.tk) (m.tk+1) (rA m.b m.tk)),(false,m.b+7,iA (xH (g+3) (m.b+6) m.b))]++m.z.eu w (m.b+7)++[(false,m.P,ai (six m.pt) 8)]):=D5.right.PU (λp hp=>by
  rcases mA hp with hp|hp
  ·rcases mA hp with hp|hp
   ·apply bJ hp<;>rfl
   ·refine aS (aN.mp hp) λaf af aG=>?_;subst aG;rfl
  ·rw[sA hp]) (by delta ML.led;rw[aL,aL];rfl)
 have J7:=(ag2.join five λa ha hb=>by
  have h1:=uW a (by
   have e:adr (m.led w g)=adr ([(false,m.b+6,xJ (.str kW m.tk) (m.tk+1) (rA m.b m.tk)),(false,m.b+7,iA (xH (g+3) (m.b+6) m.b))]++m.z.eu w (m.b+7)++[(false,m.P,ai (six m.pt) 8)]):=by
    delta ML.led adr;rw[aL,aL];rfl
   rw[e];exact ha)
  have hb:a∈[g+3,x.SL,g+1,g+2,g]:=hb;have hb:=pT hb;exact XC g3 BR.2 h1.1 h1.2.1 hb).perm (agU _ _ _ _ _ _ _ _ _)
 have P7:Lies (kt w.params) h5 ([(false,m.P,ai (six m.pt) 8),(false,g+1,bG (some (.ref (m.z.x+1))))]++fW w m.z l++[(false,g+2,bG (some (.ref m.P))),(true,g,jd w SC k1 DR k2 x.TX x.k3 x.TL x.k4)]):=by
  rw[←hl'];exact J7
 refine ry (L7 DR k2 x.TX x.k3 x.TL x.k4 m.P m.pt m.z l (fM x.told) hM A ⟨h5,s.gens,s.drawn,t5,s.os⟩ _ _ hA hF T5 P7 λy h7 t7 T7 p7=>?_);obtain⟨z7,v7,k5⟩:=y;have K7:Keeps [g] h5 h7:=p7.keeps;have k7s:=K7.1;have s7:∀a∈aE z7 v7,h5.objs.size≤a:=p7.fresh;have BV:Keeps [54,231,g+1,g+2,g] h3 h7:=(Keeps.mono K5 λa ha=>by simp only[aM,bO,or_false]at ha⊢;exact Ur ha).trans (Keeps.mono K7 λa ha=>by simp only[aM,bO,or_false]at ha⊢;exact UI ha)
 have ag4:(x.TL::x.told.map Row.a).Nodup:=by
  refine D3.right.nd.sublist (?_:(x.TL::x.told.map Row.a).Sublist (adr x.led));delta LA.led adr;rw[aL,aL,bQ];exact List.sublist_append_of_sublist_left (vB (l₁:=[x.TL]) (.cons _ (.refl _)) (.refl _))
 have HJ:∀a∈x.told.map Row.a,a∈adr x.led:=λa ha=>by
  delta LA.led adr;rw[aL,aL,bQ];exact inl (inr ha)
 have P8:Lies (kt w.params) h7 ([(true,g,pN w SC k1 DR k2 x.TX x.k3 x.TL x.k4 z7.S k5)]++([(false,x.TL,ai (c6 x.told) 6),(true,224,fy)]++ju x.told)):=by
  refine Lies.mk' T7 (λp hp=>?_) ?_ λp hp hm=>?_
  ·rcases mA hp with hp|hp
   ·rw[sA hp];exact p7.frame
   rcases mA hp with hp|hp
   ·apply bJ hp
    ·exact BV.2 _ _ (λm=>by exact I7 hg g3 HH.1 (pT m)) (D3.right.get (p:=(true,x.TL,ai (c6 x.told) 6)) PX)
    ·exact BV.2 _ _ (λm=>by exact Q9 (pT m) hg) (yi.2 _ _ (λm=>by exact Rb (b3 m) hg) (hP.get (p:=(true,224,_)) (.tail _ (.tail _ (.tail _ (.tail _ (.tail _ (.tail _ (.tail _ (.head _))))))))))
   ·refine aS (aN.mp hp) λr hr aG=>?_;subst aG;exact BV.2 _ _ (λm=>by exact I7 hg g3 (lI r.a (HJ _ (c7 hr))).1 (pT m)) (D3.right.get (p:=(true,r.a,ai (aD r.vs) r.e)) (inl (inr (aN.mpr ⟨r,hr,rfl⟩))))
  ·have e:adr ([(true,g,pN w SC k1 DR k2 x.TX x.k3 x.TL x.k4 z7.S k5)]++([(false,x.TL,ai (c6 x.told) 6),(true,224,fy)]++ju x.told))=g::x.TL::224::x.told.map Row.a:=by
    delta ju adr;rw[aL,aL,bQ];rfl
   rw[e];refine dY (bA.mp ag4) λr1 r2=>?_;refine bA.mpr ⟨λm=>?_,bA.mpr ⟨λm=>?_,bA.mpr ⟨λm=>?_,r2⟩⟩⟩
   ·rcases aM.mp m with e|m
    ·exact VY g3 e HH.1
    rcases aM.mp m with e|m
    ·exact Rh hg e
    ·exact IJ g3 (lI g (HJ _ m)).1
   ·rcases aM.mp m with e|m
    ·exact Vv hg g3 HH.1 e
    ·exact r1 m
   ·exact Iw hg g3 (lI 224 (HJ _ m)).1
  ·rcases mA hp with hp|hp
   ·rw[sA hp];exact BP
   rcases mA hp with hp|hp
   ·revert hm;apply bJ hp<;>intro hm
    ·cases hm
    ·exact(hP.off (true,224,_) (.tail _ (.tail _ (.tail _ (.tail _ (.tail _ (.tail _ (.tail _ (.head _)))))))) rfl)
   ·refine aS (aN.mp hp) λr hr aG=>?_;subst aG;cases hm
 refine ry (L8 DR k2 x.TX x.k3 x.TL x.k4 z7.S k5 6 x.told x.six.1 A ⟨h7,s.gens,s.drawn,t7,s.os⟩ _ _ hA hF T7 P8 λy h8 t8 T8 p8=>?_);obtain⟨C,oc,ec,k6⟩:=y;have K8:Keeps [g,224] h7 h8:=p8.keeps;have P5:xY (fM x.told) (dM oc):=p8.is;have lC:Lies (kt w.params) h8 ([(true,C,ai (aT oc) ec)]++bI oc):=p8.lies;have rok:=agO p7.is p7.nd p7.ready (p7.nf.trans p7.np.symm) P5;have sL:Lies (kt w.params) h8 (aO w z7 v7):=gy p7.lies T8 K8 λb hb m=>by
  exact Xz hg g3 yj BU (s7 b m) (b3 hb)
 have caps:∀a∈C::oc.map (·.1),a≠g∧a∉aE z7 v7:=λa ha=>by
  have h1:=(p8.fresh:∀a∈C::oc.map (·.1),h7.objs.size≤a) a ha;refine⟨by exact XN g3 yj BU k7s h1,λm=>?_⟩
  have:=(λa ha=>p7.lies.lt (cP w z7 v7▸ha)) a m;exact E0 this h1
 refine ry (L9 DR k2 x.TX x.k3 x.TL x.k4 k5 C k6 dep ec ds dlt (Sd dl) oc z7 p7.hD v7 rok A ⟨h8,s.gens,s.drawn,t8,s.os⟩ _ _ hA hF T8 ⟨Lies.mk' T8 (λp hp=>?_) ?_ (λp hp hm=>?_),⟨sL,λm=>?_,BP⟩,lC,caps⟩ λsl h9 t9 T9 p9=>?_)
 ·apply bJ hp
  ·exact p8.frame
  ·exact((Keeps.mono BQ λa ha=>by simp only[aM,bO,or_false]at ha⊢;exact UU ha).trans ((Keeps.mono BV λa ha=>by simp only[aM,bO,or_false]at ha⊢;exact Ut ha).trans (Keeps.mono K8 λa ha=>by simp only[aM,bO,or_false]at ha⊢;exact UP ha)):Keeps [g,g+3,54,231,g+1,g+2,224] h1 h8).2 _ _ (λm=>by have m:=XW m;exact Vx hg g3 f1 m) PV
 ·show[g,DR].Nodup;simp only[bA,aM,or_false,not_or,gT,and_true,rW,not_false_eq_true];exact V2 g3 f1
 ·have hp:=b3 hp;rcases hp with rfl|rfl<;>cases hm
 ·exact W5 g3 yj BU (s7 g m)
 refine dY p9 λgF9 K9=>?_;have K9:Keeps ([g]++aE z7 v7) h8 h9:=bw.toK K9;have rK:Keeps [g,224] h5 h9:=((Keeps.mono K7 λa ha=>by simp only[aM,bO,or_false]at ha⊢;exact UJ ha).trans K8).trans' K9 λa ha=>by
  rcases mA ha with ha|ha
  ·rw[sA ha];exact .inl (.head _)
  ·exact .inr (s7 a ha)
 have uX:∀a,a≠g→a≠224→a∉[g,224]:=λa h1 h2 m=>by exact UQ (b3 m) h2 h1
 refine dJ (agQ P5) λfl6 fC9 flo=>?_;have mle:∀a∈adr (fW w m.z l),a≠g∧a≠224:=λa ha=>by
  refine⟨λe=>(λm=>P7.apart (a:=a) (by delta adr at ha⊢;rw[aL];exact inr ha) m) (e▸.tail _ (.head _)),λe=>?_⟩
  subst e;rw[←hl']at ha;delta fW adr at ha;rw[aL]at ha;rcases mA ha with ha|ha
  ·exact WU hg g3 BR.1 (uW (m.b+7) (.tail _ (.head _))).1 (jO ha)
  ·have:=uW 224 (by
    delta ML.led adr;rw[aL,aL];exact inl (inr ha))
   exact Iw hg g3 this.1
 refine L10 sl g SC k1 DR k2 x.TX x.k3 x.TL x.k4 z7.S k5 C k6 ec m.P m.pt oc m.z l (fM x.told) hM fC9 fl6 flo A ⟨h9,s.gens,s.drawn,t9,s.os⟩ _ _ hA hF T9 ⟨?_,?_,?_⟩ λaf gH t10 T10 uY=>?_
 ·refine Lies.mk' T9 (λp hp=>?_) ?_ λp hp hm=>?_
  ·apply cB hp
   ·exact rK.2 _ _ (uX (g+1) SD (Rl hg)) P1
   ·exact rK.2 _ _ (uX (g+2) SE (Rm hg)) P4
   ·have:=uW m.P (mD mP);exact rK.2 _ _ (uX m.P (V3 g3 this.1) (Vz hg g3 this.1)) (D5.right.get (p:=(true,m.P,ai (six m.pt) 8)) mP)
  ·show[g+1,g+2,m.P].Nodup;simp only[bA,aM,or_false,not_or,gT,and_true,rW,not_false_eq_true];exact VZ g3 (uW m.P (mD mP)).1
  ·have hp:=fB hp;rcases hp with rfl|rfl|rfl<;>cases hm
 ·refine P7.left.right.keep T9 rK λp hp=>?_;have:=mle p.2.1 (mD hp);exact uX _ this.1 this.2
 ·have lC9:=lC.keep T9 K9 λp hp m=>by
   have q:p.2.1∈C::oc.map (·.1):=by
    rcases mA hp with hp|hp
    ·rw[sA hp];exact .head _
    ·unfold bI at hp;refine aS (aN.mp hp) λo ho aG=>?_;subst aG;exact .tail _ (aN.mpr ⟨o,ho,rfl⟩)
   rcases mA m with m|m
   ·exact(caps _ q).1 (sA m)
   ·exact(caps _ q).2 m
  have ahe:Lies (kt w.params) h9 ([(false,C,ai (aT oc) ec)]++kq oc):=lC9.PU (λp hp=>by
   rcases mA hp with hp|hp
   ·rw[sA hp]
   ·unfold kq at hp;refine aS (aN.mp hp) λo af aG=>?_;subst aG;rfl) (by
   delta kq bI;rw[aL,aL,bQ,bQ];rfl)
  refine(Lies.seen gF9 T9).join ahe λa ha hb=>?_;rw[sA ha]at hb;refine(caps g ?_).1 rfl;have hb:g∈C::(oc.map λx=>(false,x.1,ai (x.2.1.map iv) x.2.2)).map (λp:Bool×Nat×Obj=>p.2.1):=hb;rw[bQ]at hb;exact hb
 ·have uY:Keeps [] h9 gH:=uY;refine fC agZ λv54 e54=>?_;refine fC ag0 λahh ahi=>?_;refine fC p8.tbl λahj ahk=>?_;refine hQ gH t10 T10 ?_ ⟨v54,?_⟩ ⟨ahh,?_⟩ ⟨ahj,?_⟩
  ·have a1:Keeps [g,g+1,g+2,g+3,54,231,224] s.heap h3:=Keeps.mono yi λa ha=>by simp only[aM,bO,or_false]at ha⊢;exact UT ha
   have a2:Keeps [g,g+1,g+2,g+3,54,231,224] h3 h5:=Keeps.mono K5 λa ha=>by simp only[aM,bO,or_false]at ha⊢;exact Us ha
   have a3:Keeps [g,g+1,g+2,g+3,54,231,224] h5 h9:=Keeps.mono rK λa ha=>by simp only[aM,bO,or_false]at ha⊢;exact UO ha
   exact((a1.trans a2).trans a3).trans uY.ext
  ·exact uY.2 _ _ (λh=>nomatch h) (rK.2 _ _ (uX 54 (Rk hg) (by decide)) e54)
  ·exact uY.2 _ _ (λh=>nomatch h) (rK.2 _ _ (uX 231 (Rj hg) (by decide)) ahi)
  ·refine uY.2 _ _ (λh=>nomatch h) (K9.2 _ _ (λm=>?_) ahk);rcases mA m with m|m
   ·exact Ra (sA m) hg
   ·exact WV hg g3 yj BU (s7 224 m)
def ahl(w:ao)(SC ep g k1:Nat)(items:List (Int×Nat)):Led:=[(false,SC,ai (items.map iv) ep),(true,54,fy),(true,231,fy),(true,224,fy),(true,g,uQ w SC k1),(true,g+1,bG none),(true,g+2,bG none),(true,g+3,bG none)]
structure ahm(g:Nat)(h h':az):Prop where
 keeps:Keeps [g,g+1,g+2,g+3,54,231,224] h h'
 t54:∃vs,h'.get? 54=some (gk vs)
 ahT:∃vs,h'.get? 231=some (gk vs)
 ahU:∃vs,h'.get? 224=some (gk vs)
theorem ahn(w0:ao)(fb fc:Bool)(SC ep g k1:Nat)(items:List (Int×Nat))(hl:items.length≤900)(hg:236≤g):
  cT (ak w0 fb fc) (some []) 60 (.func (fBody jr) (eV g)) (λh=>Lies (kt (ak w0 fb fc).params) h (ahl (ak w0 fb fc) SC ep g k1 items)) Unit (λaf=>.ok (.ret (.bool true))) (λaf h h'=>ahm g h h'):=by
 intro A s R hA hF hT hP hR;refine codeAny_func ?_;refine agV w0 fb fc SC ep g k1 items hl hg (A:=A.under (.func (fBody jr) (eV g))) (hA.under rfl) (AV hF _ _) hT (hP.perm ?_) λh' t' T' K t1 t2 t3=>hR () h' t' T' ⟨K,t1,t2,t3⟩;exact .cons _ (vo (l₁:=[_,_,_]) (l₂:=[_,_,_,_]))
theorem aho(w0:ao)(fb fc:Bool)(SC ep:Nat)(items:List (Int×Nat))(hl:items.length≤900):
  cT (ak w0 fb fc) (some []) 60 (.call (.ref 234) ⟨[.ref SC],[]⟩) (λh=>Lies (kt (ak w0 fb fc).params) h [(false,SC,ai (items.map iv) ep),(true,54,fy),(true,231,fy),(true,224,fy)]∧236≤h.objs.size) Unit (λaf=>.ok (.ret (.bool true)))
   (λaf h h'=>Keeps [54,231,224] h h'∧(∃vs,h'.get? 54=some (gk vs))∧(∃vs,h'.get? 231=some (gk vs))∧∃vs,h'.get? 224=some (gk vs)):=by
 have h1:=λg k1 hg=>ahn w0 fb fc SC ep g k1 items hl hg;generalize hw:ak w0 fb fc=w at*;refine j5 rfl rfl λA s R hF hT hP hR=>?_;obtain⟨hL,hsz⟩:=hP;refine⟨_,hL,aq (dec 312744520196161) (.eH A.frames 60 (.func (fBody jr) (eV s.heap.objs.size)) [(0,false,SC,ai (items.map iv) ep),(1,true,54,fy),(2,true,231,fy),(3,true,224,fy),(4,true,s.heap.objs.size,uQ w SC s.toks),(5,true,s.heap.objs.size+1,bG none),(6,true,s.heap.objs.size+2,bG none),(7,true,s.heap.objs.size+3,bG none)] Unit (λaf=>.ok (.ret (.bool true))) (λaf=>[]) λaf h1 af af=>
  aq (dec 0) (.done (.ok (.ret (.bool true))) [] [])),au (jl (hF.symm▸h1 s.heap.objs.size s.toks hsz) (λh a=>a.lies) (λaf af h' af T af=>⟨(λaf h=>nomatch h),.nil,(λaf h=>nomatch h),T⟩) λaf h2 h3 af af a2 T2 q2=>au (bu λhp t' K T' af af af af=>?_)),?_⟩
 ·have K1:Keeps [] h3 hp:=K;obtain⟨q1,⟨v1,q2⟩,⟨v2,q3⟩,v3,q4⟩:=q2;have f:∀x,x∈[s.heap.objs.size,s.heap.objs.size+1,s.heap.objs.size+2,s.heap.objs.size+3,54,231,224]→x∈[54,231,224]∨s.heap.objs.size≤x:=λx hx=>by
   simp only[aM,bO,or_false]at hx⊢;exact UR hx
  exact hR () hp t' T' ⟨(a2.keeps.trans' q1 f).trans K1.ext,⟨v1,K1.2 _ _ (λh=>nomatch h) q2⟩,⟨v2,K1.2 _ _ (λh=>nomatch h) q3⟩,⟨v3,K1.2 _ _ (λh=>nomatch h) q4⟩⟩
 ·clear hL hsz hR hT hF h1 hl;(apply cO hw;kernel_rfl!)
section
open PySem.W.X
theorem uZ{h:az}{p:Nat×Obj}{K:Frag}:AllIn h K→p∈K→h.get? p.1=some p.2:=by
 induction K with
 |nil=>exact λaf m=>nomatch m
 |cons q K ih=>
  intro H m;rcases aM.mp m with e|m
  ·rw[e];exact H.1
  ·exact ih H.2 m
theorem ahp{h:az}(f:Nat×Obj→Bool){K:Frag}:AllIn h K→AllIn h (K.filter f):=by
 induction K with
 |nil=>exact λaf=>trivial
 |cons p K ih=>
  intro H;rw[mE];split
  ·exact⟨H.1,ih H.2⟩
  ·exact ih H.2
theorem ahq{h h':az}(k:∀b o,h.get? b=some o→h'.get? b=some o){K:Frag}:AllIn h K→AllIn h' K:=by
 induction K with
 |nil=>exact λaf=>trivial
 |cons p K ih=>exact λH=>⟨k _ _ H.1,ih H.2⟩
theorem ahr{w:ao}{h:az}(A:AllIn h (nK w.params)):aR (kt w.params) h:=λa o e=>by
 rw[←ad1]at e;refine kt_at (holds_of ?_) e;exact ahp _ A
theorem P6(P:cF):(nK P)[38]?=some (54,fy):=by kernel_rfl!
theorem P9(P:cF):(nK P)[175]?=some (224,fy):=by kernel_rfl!
theorem Qa(P:cF):(nK P)[182]?=some (231,fy):=by kernel_rfl!
theorem ahs(P:cF):(kt P).get 54=none:=by kernel_rfl!
theorem aht(P:cF):(kt P).get 224=none:=by kernel_rfl!
theorem ahu(P:cF):(kt P).get 231=none:=by kernel_rfl!
theorem ahv(P:cF):(kt P).get 235=none:=by kernel_rfl!
theorem ahw(P:cF):(kt P).get 58=some tE:=by kernel_rfl!
theorem ahx(P:cF):(kt P).get 228=some tF:=by kernel_rfl!
theorem ahy(P:cF):(kt P).get 233=some tG:=by kernel_rfl!
noncomputable def nR(o:Obj):Array aj:=match o.data with
 |.fields vs=>vs
 |_=>#[]
theorem tab_of{h:az}{P:cF}(T:aR (kt P) h){c b:Nat}{o:Obj}(e:(kt P).get c=some o)(h1:o.cls=.type "code")(h2:o.data=.fields (nR o))(h3:(nR o)[11]?=some (.ref b)):isCodeTable h b:=⟨c,o,nR o,T _ _ e,h1,h2,h3⟩
theorem HK(P:cF):tE.cls=.type "code"∧tE.data=.fields (nR tE)∧(nR tE)[11]?=some (.ref 54):=⟨by kernel_rfl!,by kernel_rfl!,by kernel_rfl!⟩
theorem HL(P:cF):tF.cls=.type "code"∧tF.data=.fields (nR tF)∧(nR tF)[11]?=some (.ref 224):=⟨by kernel_rfl!,by kernel_rfl!,by kernel_rfl!⟩
theorem HM(P:cF):tG.cls=.type "code"∧tG.data=.fields (nR tG)∧(nR tG)[11]?=some (.ref 231):=⟨by kernel_rfl!,by kernel_rfl!,by kernel_rfl!⟩
theorem ahz{vs:List aj}{ns:List Int}(h:IntsAre vs ns):∃items:List (Int×Nat),vs=items.map iv∧items.length=ns.length:=by
 induction h with
 |nil=>exact⟨[],rfl,rfl⟩
 |cons n t _ ih=>
  refine aS ih λitems aG e=>?_;subst aG;exact⟨(n,t)::items,rfl,congrArg Nat.succ e⟩
theorem oldK{h h':az}{P:cF}(T:aR (kt P) h)(A:AllIn h (nK P))(K:Keeps [54,231,224] h h')(t1:∃vs,h'.get? 54=some (gk vs))(t2:∃vs,h'.get? 231=some (gk vs))(t3:∃vs,h'.get? 224=some (gk vs)):OldK h h':=by
 have tb:∀b,h.get? b=some fy→isCodeTable h b→(∃vs,h'.get? b=some (gk vs))→∀o,h.get? b=some o→asItWas h h' b o:=λb e c t o e'=>by
  rw[e]at e';injection e' with e'
  subst e';obtain⟨vs,t⟩:=t;exact .inr (.inl ⟨c,rfl,#[],⟨vs⟩,rfl,by rw[t];simp[gk,fy]⟩)
 refine⟨λb o e=>?_,λb o e=>?_⟩
 ·by_cases h1:b=54
  ·subst h1;exact tb 54 (uZ A (eB (P6 P))) (tab_of T (ahw P) (HK P).1 (HK P).2.1 (HK P).2.2) t1 o e
  by_cases h2:b=231
  ·subst h2;exact tb 231 (uZ A (eB (Qa P))) (tab_of T (ahy P) (HM P).1 (HM P).2.1 (HM P).2.2) t2 o e
  by_cases h3:b=224
  ·subst h3;exact tb 224 (uZ A (eB (P9 P))) (tab_of T (ahx P) (HL P).1 (HL P).2.1 (HL P).2.2) t3 o e
  ·exact .inl (K.2 b o (λm=>by have m:=fB m;exact m.elim h1 λm=>m.elim h2 h3) e)
 ·by_cases h1:b=54
  ·subst h1;exact t1.imp' gk λaf h=>h
  by_cases h2:b=231
  ·subst h2;exact t2.imp' gk λaf h=>h
  by_cases h3:b=224
  ·subst h3;exact t3.imp' gk λaf h=>h
  ·exact⟨o,K.2 b o (λm=>by have m:=fB m;exact m.elim h1 λm=>m.elim h2 h3) e⟩
theorem hc{d:DefRec}{kwd}(hn:d.name=gB "law"):WalkX vw Gy (XL vw []) Gz GA xC.toRowW d kwd λf vs=>PySem.call f vs:=by
  intro w s₀ s₁ mg mb G y fa o pm cd doc dV kV ho hd hcd hD hmg hg args vals as L hpre hlay hrd hwl hlo;clear hd hD;have f:=z_facts (K:=nK) (λP=>by rfl) y
  have KX:Frag.In (nK w.params) s₁.heap:=InK.keeps w s₀.heap s₁.heap f.2.1 L.keeps;refine Ground.open G ?_;intro T B D TE TW;wrow_args hpre hlay hrd hwl hlo
  rw[hn]at hmg;obtain⟨hat,hsz⟩:=script_at L;rw[f.2.2.1]at hat hsz;subst hat;x_fa T KX hmg
  have A:=ahq L.keeps f.1;have Tp:=ahr A;refine aS (ahz ‹IntsAre _ _›) λitems hv hlen=>?_;have hl:items.length≤900:=by rw[hlen];exact Sx (‹¬(((63:Nat):Int)<_)›)
  have hcall:=aho w (w.params.followText "special-get-raises") (w.params.followText "comprehension-iter-twice") 235 0 items hl;rw[aaH]at hcall;refine zk ?_;refine hcall callerA s₁ _ ⟨λaf=>rfl,by decide,by decide,rfl⟩ rfl Tp ⟨Lies.mk' Tp (λp hp=>?_) (show[235,54,231,224].Nodup by decide) λp hp af=>?_,by exact RN hsz⟩ λaf h' t' T' p=>?_
  ·apply fX hp
   ·rw[(script_obj L ‹Heap.IsList _ 235 _›),hv];rfl
   ·exact uZ A (eB (P6 w.params))
   ·exact uZ A (eB (Qa w.params))
   ·exact uZ A (eB (P9 w.params))
  ·apply fX hp
   ·exact ahv _
   ·exact ahs _
   ·exact ahu _
   ·exact aht _
  ·show GoodWG xC.claim (classAt s₀.heap) (ExcName.means s₀.heap) _ s₁ (Except.ok (Flow.ret (.bool true))) _;refine⟨.inl ⟨.bool true,.bool true,[],rfl,λaf=>rfl,ReadsW.bool _,?_,λaf=>⟨.nil,λaf h=>nomatch h⟩⟩,oldK Tp A p.1 p.2.1 p.2.2.1 p.2.2.2,rfl,?_⟩
   ·exact postW_of (by wrow_shape) (by wtm_val) (by str_meet;first|done|w_fin)
   ·show AllBare s₁.gens;rw[hg];intro y hy;simp at hy
end
section
open PySem.W.X
theorem hh:J5.Holds:=by
 w_on;refine holds_law (by decide+kernel) λsaid=>?_
 refine holds_openX (q:=vw) (loose:=Gy) (Xt:=λs=>xlAt vw [] s && recOk xC.toRowW.records s) (XP:=XL vw []) (Yf:=Gz) (Ya:=GA) (N:=3176) ad2 (λs e=>xl_of s (yV.mp e).1) XL.keeps (by rfl) (by rfl) (by rfl) (λs e=>recFacts_of (yV.mp e).2) (by rfl) (by first|assumption|decide+kernel) (by decide+kernel) ⟨rfl,rfl,rfl,rfl,rfl,by decide+kernel⟩ ?hw ?hc
 case hw=>w_witness2
 case hc=>exact hc rfl
end
end
end Mine
theorem PySem.Challenge.cw_ik0048_01_holds : PySem.Challenge.rw_ik0048_01.Holds :=
 Mine.hh
