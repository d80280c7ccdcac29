/- Lemmas for FnVtSigsEntry; no conditions. -/
import Derived.Test.YtbnbadcnfchdhaaGreatDoorP00
set_option maxRecDepth 100000
set_option maxHeartbeats 16000000
set_option linter.all false
namespace Go.Proofs.YtbnbadcnfchdhaaGreatDoor
open Go.RowKit
def mk(f:Nat->Int):Array Int:=Array.ofFn (n:=800) λi=>f i.val
theorem T9(f:Nat->Int):(mk f).size=800:=by simp[mk]
theorem AKx(f:Nat->Int)(i:Nat)(hi:i<800):(mk f)[i]! = f i:=by simp[mk,getElem!_pos,hi]
theorem ANm(f:Nat->Int)(i:Nat)(v:Int)(g:Nat->Int)(h:∀j,j<800->g j=if i=j then v else f j):(mk f).set! i v=mk g:=by
 apply Array.ext_getElem?;intro j;rw[Array.set!_eq_setIfInBounds,Array.getElem?_setIfInBounds];by_cases hj:j<800
 .have e:(mk g)[j]?=some (g j):=by simp[mk,hj]
  have e2:(mk f)[j]?=some (f j):=by simp[mk,hj]
  rw[e,e2,h j hj,T9];by_cases hij:i=j
  .subst hij;simp[hj]
  simp[hij]
 have e:(mk g)[j]?=none:=by simp[mk,hj]
 have e2:(mk f)[j]?=none:=by simp[mk,hj]
 rw[e,e2,T9];by_cases hij:i=j
 .subst hij;simp[hj]
 simp[hij]
theorem AL6{d:Array Int}(h:d.size=800):mk (λi=>d[i]!)=d:=by
 apply Array.ext
 .simp[mk,h]
 intro j h1 h2;simp[mk,getElem!_pos,h2]
def GG(X t i:Nat):Int:=((X/10^(t-1-i)%10:Nat):Int)+48
def A8(d:Array Int)(X t w:Nat):Array Int:=mk λi=>if w<=i/\i<t then GG X t i else d[i]!
open Classical in
noncomputable def BK(b:Bool)(X t w:Nat):Bool:=if ∃i,w<=i/\800<=i/\i<t/\GG X t i≠48 then true else b
theorem ACf{d:Array Int}(h:d.size=800)(X t w:Nat)(hw:t<=w):A8 d X t w=d:=by
 rw[<-AL6 h];unfold A8;congr 1;funext i;rw[if_neg Om];by_cases hi:i<800
 .rw[AKx _ i hi]
 rw[getElem!_neg (mk λi=>d[i]!) i (by rw[T9];omega),getElem!_neg d i (by rw[h];omega)]
theorem XO{d:Array Int}(X t w:Nat)(hw:w<t):(A8 d X t (w+1)).set! w (GG X t w)=A8 d X t w:=by
 unfold A8;apply ANm;intro j hj;by_cases e:w=j
 .subst e;rw[if_pos ⟨Nl,hw⟩,if_pos rfl]
 rw[if_neg e];by_cases h:w<=j/\j<t
 .rw[if_pos h,if_pos ⟨Om,h.2⟩]
 rw[if_neg h,if_neg Om]
theorem AAf{d:Array Int}(X t w:Nat)(hw:800<=w):A8 d X t (w+1)=A8 d X t w:=by unfold A8 mk;congr 1;funext i;have:=i.isLt;show (if w+1<=i.val/\i.val<t then GG X t i.val else d[i.val]!)=if w<=i.val/\i.val<t then GG X t i.val else d[i.val]!;rw[if_neg Om,if_neg Om]
theorem VD{d:Array Int}(X t w i:Nat)(hi:i<800):(A8 d X t w)[i]! = if w<=i/\i<t then GG X t i else d[i]!:=AKx _ i hi
theorem DG{d:Array Int}(X t w:Nat):(A8 d X t w).size=800:=T9 _
theorem AD5(b:Bool)(X t w:Nat)(hw:t<=w):BK b X t w=b:=by unfold BK;rw[if_neg (by rintro ⟨i,h1,h2,h3,_⟩;omega)]
theorem XD(b:Bool)(X t w:Nat)(hw:w<800):BK b X t (w+1)=BK b X t w:=by
 have e:(∃i,w+1<=i/\800<=i/\i<t/\GG X t i≠48)↔(∃i,w<=i/\800<=i/\i<t/\GG X t i≠48):=by
  constructor
  .rintro ⟨i,h1,h⟩;exact⟨i,Om,h⟩
  rintro ⟨i,h1,h2,h⟩;exact⟨i,Om,h2,h⟩
 unfold BK;by_cases h:∃i,w<=i/\800<=i/\i<t/\GG X t i≠48
 .rw[if_pos h,if_pos (e.2 h)]
 rw[if_neg h,if_neg λh'=>h (e.1 h')]
theorem AI8(b:Bool)(X t w:Nat)(hw:800<=w)(ht:w<t)(h:GG X t w≠48):BK b X t w=true:=by unfold BK;rw[if_pos ⟨w,Nl,hw,ht,h⟩]
theorem AMw(b:Bool)(X t w:Nat)(h:GG X t w=48):BK b X t (w+1)=BK b X t w:=by
 have e:(∃i,w+1<=i/\800<=i/\i<t/\GG X t i≠48)↔(∃i,w<=i/\800<=i/\i<t/\GG X t i≠48):=by
  constructor
  .rintro ⟨i,h1,h⟩;exact⟨i,Om,h⟩
  rintro ⟨i,h1,h2,h3,h4⟩;refine⟨i,?_,h2,h3,h4⟩;rcases Nat.lt_or_eq_of_le h1 with h5|h5
  .exact h5
  subst h5;exact absurd h h4
 unfold BK;by_cases h':∃i,w<=i/\800<=i/\i<t/\GG X t i≠48
 .rw[if_pos h',if_pos (e.2 h')]
 rw[if_neg h',if_neg λh2=>h' (e.1 h2)]
noncomputable def CM.lsh(x:CM)(nd k:Nat):CM:=
 let D:=val (LP x.d) nd
 let t:=nd+EZ D nd k
 CM.trim { x with d:=A8 x.d (D*2^k) t 0,nd:=(min t 800:Nat),dp:=x.dp+(EZ D nd k:Nat),trunc:=BK x.trunc (D*2^k) t 0 }
theorem AKr{D k e c S n:Nat}(hS:S=D%10^e)(hn:n=S*2^k/10^e)(hc:c=D/10^e%10) :
 n+c*2^k=D%10^(e+1)*2^k/10^e/\(n+c*2^k)/10=D%10^(e+1)*2^k/10^(e+1)/\(n+c*2^k)%10=D*2^k/10^e%10/\n<2^k:=by
 have p:0<10^e:=Nat.pow_pos De
 have hm:D%10^(e+1)=c*10^e+S:=by rw[Nat.pow_succ,Nat.mod_mul,hc,hS,Nat.mul_comm (10^e)];omega
 have h1:n+c*2^k=D%10^(e+1)*2^k/10^e:=by rw[hm,Nat.add_mul,Nat.mul_right_comm,Nat.mul_comm (c*2^k) (10^e),Nat.mul_add_div p,hn];omega
 refine⟨h1,?_,?_,?_⟩
 .rw[h1,Nat.div_div_eq_div_mul,<-Nat.pow_succ]
 .rw[h1]
  have hD:D=10^(e+1)*(D/10^(e+1))+D%10^(e+1):=(Nat.div_add_mod D _).symm;have h2:D*2^k=10^e*(10*(D/10^(e+1)*2^k))+D%10^(e+1)*2^k:=by
   conv=>lhs;rw[hD]
   rw[Nat.add_mul,Nat.pow_succ];ac_rfl
  rw[h2,Nat.mul_add_div p];omega
 rw[hn,Nat.div_lt_iff_lt_mul p,hS,Nat.mul_comm]
 exact Nat.mul_lt_mul_of_pos_left (Nat.mod_lt _ p) (Nat.two_pow_pos k)
theorem XR{g:Nat->Nat}(r:Nat):∀c,(∀i,i<r+1+c->g i<=9)->val g (r+1+c)/10^c%10=g r
 |c,h=>by obtain⟨s,h1,h2⟩:=KE g (r+1) c h;rw[h1,Nat.mul_comm,Nat.mul_add_div (Nat.pow_pos De),Nat.div_eq_of_lt h2,val];have:=h r Om;omega
theorem JH{w:World}{B:Nat}{x:CM}{C i:Nat}(h:C≠B):(dw w B x).cell? ⟨C,i,none⟩=w.cell? ⟨C,i,none⟩:=by simp[World.cell?,dw,Array.getElem?_setIfInBounds_ne (Ne.symm h)]
structure NA(w:World)(N:Nat):Prop where
 ex:∃R o cap:Nat,R<N/\14<N/\w.cell? ⟨14,0,none⟩=some (.slice (some ⟨R,o,none⟩) 61 cap)/\
  ∀k,k<=60->w.cell? ⟨R,o+k*2,none⟩=some (.int .i64 (D8 k).1)/\w.cell? ⟨R,o+k*2+1,none⟩=some (.string ⟨(D8 k).2.toArray⟩)
theorem YX{k:Nat}(R:Row k):AIa ⟨(D8 k).2.toArray⟩ (ABv (D8 k).2):=by
 have hs:(⟨(D8 k).2.toArray⟩:ByteArray).size=FE k:=by simp[ByteArray.size,FE]
 have key:∀i (hi:i<(D8 k).2.length),((D8 k).2[i].toNat:Int)=(ABv (D8 k).2 i:Int)+48/\ABv (D8 k).2 i<=9:=λi hi=>by have:=R.digit _ (List.getElem_mem hi);unfold ABv;rw[List.getD_eq_getElem?_getD,List.getElem?_eq_getElem hi,Option.getD_some];omega
 refine⟨λi hi=>?_,λi hi=>?_,?_⟩
 .exact(key i (by simpa[ByteArray.size] using hi)).1
 .exact(key i (by simpa[ByteArray.size] using hi)).2
 rw[hs];exact R.last
theorem AGs(B:Nat)(x:CM)(W:World)(hW:W.heap[B]?=some (.cells x.cells 234 (0,0)))(nd:Nat)(hx:x.Ok nd)(k:Nat)(R:Row k)(cap:Nat) :
 Calls Tryz.prog 201 #[.slice (some ⟨B,0,none⟩) nd cap,.string ⟨(D8 k).2.toArray⟩] W λe w'=>e=.returned (.bool (decide (val (LP x.d) nd*10^FE k<5^k*10^nd)))/\∃m,w'=W.drewN m:=by
 have hB:=(Array.getElem?_eq_some_iff.1 hW).1
 have:=AFq B x W hB nd hx _ _ (YX R) cap
 rw[ZL hW]at this
 have hs:(⟨(D8 k).2.toArray⟩:ByteArray).size=FE k:=by simp[ByteArray.size,FE]
 rw[hs,R.five]at this
 refine this.mono λe w' ⟨he,m,hw⟩=>⟨he,m,?_⟩
 rw[hw,<-AAw,ZL hW]
theorem AGu{x:CM}{nd k:Nat}(hx:x.Ok nd)(h1:1<=nd)(hk1:1<=k)(R:Row k)(hd20:EZ (val (LP x.d) nd) nd k<=20) :
 ∃nd',(x.lsh nd k).Ok nd'/\1<=nd'/\x.dp<=(x.lsh nd k).dp/\(x.lsh nd k).dp<=x.dp+20/\((x.lsh nd k).dp=x.dp->x.d[0]! < (x.lsh nd k).d[0]!):=by
 obtain⟨v,rfl⟩:∃v,nd=v+1:=⟨nd-1,Om⟩
 have hlead:1<=LP x.d 0:=by have:=hx.lead Om;unfold LP;omega
 have hDlo:10^v<=val (LP x.d) (v+1):=ADh hlead v
 have hDhi:val (LP x.d) (v+1)<10^(v+1):=ADq _ λi hi=>LR hx i hi
 obtain⟨xlo,xhi⟩:=VX (k:=k) R hDlo hDhi
 have hd0:val (LP x.d) (v+1)/10^v%10=LP x.d 0:=by have:=XR (g:=LP x.d) 0 v (λi hi=>LR hx i Om);rw[show 0+1+v=v+1 by omega]at this;exact this
 obtain⟨D,hD⟩:∃D,val (LP x.d) (v+1)=D:=⟨_,rfl⟩
 unfold CM.lsh
 rw[hD]at hDlo hDhi xlo xhi hd0 hd20
 simp only[]
 rw[hD]
 obtain⟨dl,hdl⟩:∃dl,EZ D (v+1) k=dl:=⟨_,rfl⟩
 rw[hdl]at xlo xhi hd20
 rw[hdl]
 obtain⟨X,hX⟩:∃X,D*2^k=X:=⟨_,rfl⟩
 rw[hX]at xlo xhi
 rw[hX]
 obtain⟨t,ht⟩:∃t,v+1+dl=t:=⟨_,rfl⟩
 rw[ht]at xhi
 rw[ht]
 rw[show v+dl=t-1 by omega]at xlo
 have hp:0<10^(t-1):=Nat.pow_pos De
 have q1:1<=X/10^(t-1):=(Nat.le_div_iff_mul_le hp).2 Om
 have q9:X/10^(t-1)<10:=by rw[Nat.div_lt_iff_lt_mul hp,Nat.mul_comm,<-Nat.pow_succ,show (t-1).succ=t by omega];exact xhi
 have hA0:(A8 x.d X t 0)[0]! = (X/10^(t-1):Nat)+48:=by rw[VD _ _ _ _ Om,if_pos ⟨Nl,Om⟩];unfold GG;rw[Nat.sub_zero,Nat.mod_eq_of_lt q9]
 have hne:(A8 x.d X t 0)[0]!≠48:=by rw[hA0];omega
 have tp:=RK hne (min t 800) Om
 have tl:=V5 (A8 x.d X t 0) (min t 800)
 refine⟨JN (A8 x.d X t 0) (min t 800),?_⟩
 unfold CM.trim
 simp only[Int.toNat_natCast]
 rw[if_neg Om]
 have hsz:(A8 x.d X t 0).size=800:=DG X t 0
 generalize hA:A8 x.d X t 0=A at hA0 hne tp tl hsz ⊢
 have hdig:∀i,i<min t 800->48<=A[i]!/\A[i]!<=57:=λi hi=>by rw[<-hA,VD _ _ _ _ Om,if_pos ⟨Nat.zero_le _,Om⟩];unfold GG;omega
 refine⟨⟨hsz,rfl,Om,λi hi=>hdig i Om,λ_=>?_⟩,tp,?_,?_,λe=>?_⟩
 .simp only[];rw[hA0];omega
 .simp only[];omega
 .simp only[];omega
 simp only[]at e ⊢
 have hdl0:dl=0:=Om
 rw[hA0,VL hx 0 Om,<-hd0]
 have hv:t-1=v:=Om
 rw[hv]at q1 q9 ⊢
 have hpv:0<10^v:=Nat.pow_pos De
 have h2:2*(D/10^v)<=X/10^v:=by rw[Nat.le_div_iff_mul_le hpv,<-hX];have h3:D/10^v*10^v<=D:=Nat.div_mul_le_self _ _;have h4:D*2<=D*2^k:=Nat.mul_le_mul_left _ (show 2^1<=2^k from Nat.pow_le_pow_right De hk1);rw[Nat.mul_assoc];omega
 have h5:1<=D/10^v:=(Nat.le_div_iff_mul_le hpv).2 Om
 generalize D/10^v=a at h2 h5 ⊢
 generalize X/10^v=b at h2 q9 ⊢
 omega
theorem ABn(x:CM)(w:World)(nq B nd k D dl X t:Nat)(hB:B<w.heap.size)(hD:val (LP x.d) nd=D)(hdl:EZ D nd k=dl)(hX:X=D*2^k)(ht:t=nd+dl) :
 Calls Tryz.prog 202 #[.pointer (some ⟨B,0,none⟩)] (dw (w.drewN nq) B { x with d:=A8 x.d X t 0,trunc:=BK x.trunc X t 0,nd:=((min t 800:Nat):Int),dp:=x.dp+(dl:Int) })
  λe w'=>e=.returned (.tuple #[])/\∃m,w'=dw (w.drewN m) B (x.lsh nd k):=by
 obtain⟨mm,hmm⟩:∃mm,mm=min t 800:=⟨_,rfl⟩
 have hm8:mm<=800:=Om
 have hsz:=DG (d:=x.d) X t 0
 obtain⟨A,hA⟩:∃A,A8 x.d X t 0=A:=⟨_,rfl⟩
 rw[hA]at hsz
 rw[hA,<-hmm]
 refine(UK B { x with d:=A,trunc:=BK x.trunc X t 0,nd:=(mm:Int),dp:=x.dp+(dl:Int) } (w.drewN nq) hB hsz mm hm8 rfl).mono ?_
 rintro e w' ⟨rfl,m,rfl⟩
 refine⟨rfl,nq+m,?_⟩
 have e1:(w.drewN nq).drewN m=w.drewN (nq+m):=World.drewN_drewN _ _ _
 have key:x.lsh nd k=CM.trim { x with d:=A,trunc:=BK x.trunc X t 0,nd:=(mm:Int),dp:=x.dp+(dl:Int) }:=by unfold CM.lsh;simp only[];rw[hD,hdl,<-hX,<-ht,hA,<-hmm]
 rw[e1,key]
theorem AFb(B:Nat)(x:CM)(w:World)(hB:B<w.heap.size)(nd:Nat)(hx:x.Ok nd)(h1:1<=nd)(k:Nat)(hk1:1<=k)(hk:k<=60)(hdp0:-1000000<=x.dp)(hdp1:x.dp<=1000000)
 (N:Nat) (hC:NA w N) (hN:N<=B) :
 Calls Tryz.prog 194 #[.pointer (some ⟨B,0,none⟩),.int .u64 k] (dw w B x) λe w'=>e=.returned (.tuple #[])/\∃m nd',w'=dw (w.drewN m) B (x.lsh nd k)/\(x.lsh nd k).Ok nd'/\1<=nd'/\x.dp<=(x.lsh nd k).dp/\(x.lsh nd k).dp<=x.dp+20/\((x.lsh nd k).dp=x.dp->x.d[0]! < (x.lsh nd k).d[0]!):=by
 obtain⟨P,hP⟩:∃P:Nat,P=2^k:=⟨_,rfl⟩
 have hP60:P<=1152921504606846976:=by rw[hP];exact ACb hk
 have hP0:0<P:=by rw[hP];exact Nat.two_pow_pos k
 have hR:=APc k hk1 hk
 have hL18:(D8 k).1<=19:=by have h:=(List.all_eq_true.1 (show (List.range 61).all (λk=>decide ((D8 k).1<=19))=true by decide +kernel)) k (List.mem_range.2 Om);simpa using h
 obtain⟨δ,hδ⟩:∃δ,(D8 k).1=δ:=⟨_,rfl⟩
 obtain⟨RR,o,cap,hRN,h14N,c14,ck⟩:=hC.ex
 obtain⟨ck1,ck2⟩:=ck k hk
 have c14':(dw w B x).cell? ⟨14,0,none⟩=some (.slice (some ⟨RR,o,none⟩) 61 cap):=by rw[JH Om];exact c14
 have ck1':(dw w B x).cell? ⟨RR,o+k*2,none⟩=some (.int .i64 δ):=by rw[JH Om,<-hδ];exact ck1
 have ck2':(dw w B x).cell? ⟨RR,o+k*2+1,none⟩=some (.string ⟨(D8 k).2.toArray⟩):=by rw[JH Om];exact ck2
 have hblk:(dw w B x).heap[B]?=some (.cells x.cells 234 (0,0)):=KW hB
 have hcnd:(dw w B x).cell? ⟨B,800,none⟩=some (.int .i64 nd):=by rw[<-hx.many];exact LE hB hx.size
 have hm:=hx.most
 generalize hW:dw w B x=W at c14' ck1' ck2' hblk hcnd
 have CP:Hid (∀m,Calls Tryz.prog 201 #[.slice (some ⟨B,0,none⟩) nd 800,.string ⟨(D8 k).2.toArray⟩] (W.drewN m) λe w'=>e=.returned (.bool (decide (val (LP x.d) nd*10^FE k<5^k*10^nd)))/\∃n,w'=(W.drewN m).drewN n):=
  λm=>AGs B x (W.drewN m) hblk nd hx k hR 800
 have hk61:(k:Int)<61:=Om
 have hnd8:(nd:Int)<=800:=Om
 have HX:=Hd hx
 have HW:=Hd hW
 have HP:=Hd hP
 have hδ19:δ<=19:=hδ▸hL18
 have GR:1<=δ:=by rw[<-hδ,hR.delta];have:=hR.small;omega
 have HR:=Hd hR
 have HD:=Hd hδ
 clear hx hW hP hR hδ hC c14 ck ck1 ck2
 obtain⟨b,hb⟩:∃b,decide (val (LP x.d) nd*10^FE k<5^k*10^nd)=b:=⟨_,rfl⟩
 obtain⟨str,hstr⟩:∃s:ByteArray,(⟨(D8 k).2.toArray⟩:ByteArray)=s:=⟨_,rfl⟩
 rw[hb,hstr]at CP
 rw[hstr]at ck2'
 have HBb:=Hd hb
 clear hb hstr
 go_enter Tryz.func194,Tryz.ntmps194
 go_wp2_with fail
 go_quiet ((go_at_call 201;refine(CP.out _).mono ?_;rintro e w' ⟨rfl,n,rfl⟩;exact⟨rfl,_,World.drewN_drewN _ _ _⟩))
 go_upto_if 30 with fail
 go_cut [4] from 31 to 32 (λd wx=>d=.int .i64 (EZ (val (LP x.d) nd) nd k:Nat)/\wx=W.drewN nq)
 case first=>
  have hdl:EZ (val (LP x.d) nd) nd k=if b=true then δ-1 else δ:=by unfold EZ;rw[<-HBb.out,<-HD.out,HR.out.delta];simp only[decide_eq_true_eq];split<;>omega
  have HDl:=Hd hdl;clear hdl
  cases b
  .go_wp2_with fail
   go_meet;exact⟨by rw[HDl.out];rfl,rfl⟩
  go_wp2_with fail;go_meet;exact⟨by rw[HDl.out];simp;omega,rfl⟩
 obtain⟨rfl,rfl⟩:=hcut
 obtain⟨D,hDv⟩:∃D,val (LP x.d) nd=D:=⟨_,rfl⟩
 rw[hDv]
 obtain⟨dl,hdl⟩:∃dl,EZ D nd k=dl:=⟨_,rfl⟩
 rw[hdl]
 have hdl20:dl<=20:=by rw[<-hdl];unfold EZ;have h1:=HR.out.delta;split<;>omega
 have HDv:=Hd hDv
 have HDl:=Hd hdl
 clear hDv hdl
 go_wp2_with fail
 have hworld:W.drewN nq=dw (w.drewN nq) B x:=by rw[<-HW.out];rfl
 rw[hworld]
 clear hworld CP c14' ck1' ck2' hblk hcnd HBb HW
 have hB':B<(w.drewN nq).heap.size:=hB
 generalize hw1:w.drewN nq=w1 at hB'
 obtain⟨t,ht⟩:∃t,t=nd+dl:=⟨_,rfl⟩
 obtain⟨X,hX⟩:∃X,X=D*2^k:=⟨_,rfl⟩
 have HT:=Hd ht
 have HXX:=Hd hX
 have HW1:=Hd hw1
 clear ht hX hw1
 go_loopg [5,6,7,8,9] nd (λR r ww n _ _ wr=>R<=nd/\r=.int .i64 ((R:Int)-1)/\ww=.int .i64 ((R:Int)+dl)/\n=.int .u64 (D%10^(nd-R)*2^k/10^(nd-R):Nat)/\
  wr=dw w1 B { x with d:=A8 x.d X t (R+dl),trunc:=BK x.trunc X t (R+dl) })
 case atStart=>
  refine⟨Nl,rfl,rfl,?_,?_⟩
  .rw[Nat.sub_self,Nat.pow_zero,Nat.mod_one,Nat.zero_mul,Nat.zero_div];rfl
  rw[ACf HX.out.size _ _ _ (by rw[HT.out];omega),AD5 _ _ _ _ (by rw[HT.out];omega)]
 obtain⟨hRnd,hr0,hw0,hn0,hwr⟩:=hrel
 cases gk with
 |zero=>
  obtain⟨n0,hnn⟩:∃n0,n0=D%10^(nd-0)*2^k/10^(nd-0):=⟨_,rfl⟩
  rw[<-hnn]at hn0
  subst hr0 hw0 hn0
  have HNN:=Hd hnn
  have HWR:=Hd hwr
  clear hwr hnn
  have hneg:¬((0:Int)-1≥0):=Om
  go_wp2_with fail
  obtain⟨v,hv⟩:∃v,nd=v+1:=⟨nd-1,Om⟩
  have hDlo:10^v<=D:=by rw[<-HDv.out,hv];exact ADh (by have:=HX.out.lead Om;unfold LP;omega) v
  have hDhi:D<10^(v+1):=by rw[<-HDv.out,<-hv];exact ADq nd λi hi=>LR HX.out i hi
  obtain⟨xlo,xhi⟩:=VX (k:=k) HR.out hDlo hDhi
  rw[<-hv,HDl.out,<-HXX.out]at xhi
  rw[<-hv,HDl.out,<-HXX.out,show v+dl=t-1 by have:=HT.out;omega]at xlo
  rw[<-HT.out]at xhi
  have hXP:X<P*10^nd:=by rw[HXX.out,<-HP.out,Nat.mul_comm,hv];exact Nat.mul_lt_mul_of_pos_left hDhi hP0
  have hn0:n0=X/10^(t-dl):=by rw[HNN.out,Nat.sub_zero,Nat.mod_eq_of_lt (by rw[hv];exact hDhi),<-HXX.out,show t-dl=nd by have:=HT.out;omega]
  have XLO:=Hd xlo
  have XHI:=Hd xhi
  have XP:=Hd hXP
  have HN0:=Hd hn0
  have htt:t<=820:=by have:=HT.out;omega
  have ht1:1<=t:=by have:=HT.out;omega
  have HV:=Hd hv
  have HDlo:=Hd hDlo
  have HDhi:=Hd hDhi
  clear xlo xhi hXP hn0 HNN hneg hv hDlo hDhi
  have hfa:=AGu HX.out h1 hk1 HR.out (by rw[HDv.out,HDl.out];exact hdl20)
  have HFa:=Hd hfa
  clear hfa
  go_loopg [6,7,10,11] dl (λW ww n _ _ wx=>W<=dl/\ww=.int .i64 W/\n=.int .u64 (X/10^(t-W):Nat)/\wx=dw w1 B { x with d:=A8 x.d X t W,trunc:=BK x.trunc X t W })
  case atStart=>exact⟨Nl,rfl,by rw[HN0.out],by rw[HWR.out,Nat.zero_add]⟩
  clear HWR HN0
  obtain⟨hWdl,hw0,hn0,hwr⟩:=hrel
  obtain⟨n1,hn1⟩:∃n1,X/10^(t-gk)=n1:=⟨_,rfl⟩
  rw[hn1]at hn0
  have hn1P:n1<P:=by rw[<-hn1];refine Nat.lt_of_le_of_lt (Nat.div_le_div_left (Nat.pow_le_pow_right De (show nd<=t-gk by have:=HT.out;omega)) (Nat.pow_pos De)) ?_;rw[Nat.div_lt_iff_lt_mul (Nat.pow_pos De)];exact XP.out
  cases gk with
  |zero=>
   have hz:n1=0:=by rw[<-hn1,Nat.sub_zero];exact Nat.div_eq_of_lt XHI.out
   subst hz
   subst hw0 hn0
   have HWR:=Hd hwr
   clear hwr hn1
   have c1:wr.cell? ⟨B,800,none⟩=some (.int .i64 nd):=by rw[HWR.out,<-HX.out.many];exact LE (x:={ x with d:=A8 x.d X t 0,trunc:=BK x.trunc X t 0 }) hB' (DG _ _ _)
   have c2:wr.cell? ⟨B,801,none⟩=some (.int .i64 x.dp):=by rw[HWR.out];exact VO (x:={ x with d:=A8 x.d X t 0,trunc:=BK x.trunc X t 0 }) hB' (DG _ _ _)
   have hfz:∀i,wr.frozen? ⟨B,i,none⟩=false:=λi=>by rw[HWR.out];exact IF hB' _
   have f1:=hfz 800
   have f2:=hfz 801
   clear hfz
   have hnn:(nd:Int)+dl<=900:=Om
   by_cases h800:nd+dl≥800
   .have h8':(nd:Int)+dl≥800:=Om
    go_wp2_with fail;have hmin:((min t 800:Nat):Int)=800:=by have:=HT.out;omega
    have hst:((wr.setCell ⟨B,800,none⟩ (.int .i64 ((nd:Int)+dl))).setCell ⟨B,800,none⟩ (.int .i64 800)).setCell ⟨B,801,none⟩ (.int .i64 (x.dp+dl))=dw w1 B { x with d:=A8 x.d X t 0,trunc:=BK x.trunc X t 0,nd:=((min t 800:Nat):Int),dp:=x.dp+(dl:Int) }:=by rw[HWR.out,KB (x:={ x with d:=A8 x.d X t 0,trunc:=BK x.trunc X t 0 }) (DG (d:=x.d) X t 0)];rw[KB (x:={ x with d:=A8 x.d X t 0,trunc:=BK x.trunc X t 0,nd:=(nd:Int)+dl }) (DG (d:=x.d) X t 0)];rw[F7 (x:={ x with d:=A8 x.d X t 0,trunc:=BK x.trunc X t 0,nd:=800 }) (DG (d:=x.d) X t 0),hmin]
    rw[hst];clear hmin hst;rw[<-HW1.out];refine(ABn x w nq B nd k D dl X t hB HDv.out HDl.out HXX.out HT.out).mono ?_;rintro e w' ⟨rfl,m,hw'⟩;have Hw':=Hd hw';clear hw';go_wp2_with fail;go_end0;obtain⟨nd',hf⟩:=HFa.out;exact⟨rfl,m,nd',Hw'.out,hf⟩
   have h8':¬(nd:Int)+dl≥800:=Om
   go_wp2_with fail
   have hmin:((min t 800:Nat):Int)=(nd:Int)+dl:=by have:=HT.out;omega
   have hst:(wr.setCell ⟨B,800,none⟩ (.int .i64 ((nd:Int)+dl))).setCell ⟨B,801,none⟩ (.int .i64 (x.dp+dl))=dw w1 B { x with d:=A8 x.d X t 0,trunc:=BK x.trunc X t 0,nd:=((min t 800:Nat):Int),dp:=x.dp+(dl:Int) }:=by rw[HWR.out,KB (x:={ x with d:=A8 x.d X t 0,trunc:=BK x.trunc X t 0 }) (DG (d:=x.d) X t 0)];rw[F7 (x:={ x with d:=A8 x.d X t 0,trunc:=BK x.trunc X t 0,nd:=(nd:Int)+dl }) (DG (d:=x.d) X t 0),hmin]
   rw[hst]
   clear hmin hst
   rw[<-HW1.out]
   refine(ABn x w nq B nd k D dl X t hB HDv.out HDl.out HXX.out HT.out).mono ?_
   rintro e w' ⟨rfl,m,hw'⟩
   have Hw':=Hd hw'
   clear hw'
   go_wp2_with fail
   go_end0
   obtain⟨nd',hf⟩:=HFa.out
   exact⟨rfl,m,nd',Hw'.out,hf⟩
  |succ V=>
   have hpos:1<=n1:=by rw[<-hn1];refine(Nat.le_div_iff_mul_le (Nat.pow_pos De)).2 ?_;rw[Nat.one_mul];exact Nat.le_trans (Nat.pow_le_pow_right De Om) XLO.out
   have hVt:V+1<=t:=by have:=HT.out;omega
   have hplace:GG X t V=(n1%10:Nat)+48:=by unfold GG;rw[show t-1-V=t-(V+1) by omega,hn1]
   have hq:n1/10=X/10^(t-V):=by rw[<-hn1,Nat.div_div_eq_div_mul,<-Nat.pow_succ,show (t-(V+1)).succ=t-V by omega]
   obtain⟨q,hqq⟩:∃q,n1/10=q:=⟨_,rfl⟩
   obtain⟨rm,hrm⟩:∃rm,n1%10=rm:=⟨_,rfl⟩
   rw[hqq]at hq
   rw[hrm]at hplace
   rw[show ((V+1:Nat):Int)=(V:Int)+1 by omega]at hw0
   subst hw0 hn0
   have hrm9:rm<=9:=Om
   have hn1q:n1=10*q+rm:=Om
   have hV820:(V:Int)<=820:=Om
   have hpos':(0:Int)<(n1:Int):=Om
   have HQ:=Hd hq
   have HPl:=Hd hplace
   have HVt:=Hd hVt
   have htd:Int.tdiv (n1:Int) 10=(q:Int):=by rw[<-hqq];rfl
   have hqw:IntKind.u64.wrap (q:Int)=(q:Int):=wrap_u64 Om Om
   have hmul:IntKind.u64.wrap (10*(q:Int))=10*(q:Int):=wrap_u64 Om Om
   have hsub:IntKind.u64.wrap ((n1:Int)-10*(q:Int))=(rm:Int):=by rw[wrap_u64 Om Om];omega
   have h48:IntKind.u64.wrap ((rm:Int)+48)=(rm:Int)+48:=wrap_u64 Om Om
   have h256:((rm:Int)+48)%256=(rm:Int)+48:=Om
   clear hq hplace hn1 hqq hrm hn1q hVt hpos hn1P
   by_cases hw8:V<800
   .have hw8':(V:Int)<800:=Om
    have hcellw:wr.cell? ⟨B,V,none⟩=some (.int .u8 ((A8 x.d X t (V+1))[V]!)):=by rw[hwr];exact E0 (x:={ x with d:=A8 x.d X t (V+1),trunc:=BK x.trunc X t (V+1) }) hB' (DG _ _ _) V hw8
    have hfz:wr.frozen? ⟨B,V,none⟩=false:=by rw[hwr];exact IF hB' _
    have HWR:=Hd hwr;clear hwr;go_wp2_with fail;clear htd hqw hmul hsub h48 h256;go_roundg V
    case rel=>refine⟨Om,rfl,by rw[HQ.out],?_⟩;have hset:=IB (w:=w1) (B:=B) (x:={ x with d:=A8 x.d X t (V+1),trunc:=BK x.trunc X t (V+1) }) (DG _ _ _) V hw8 ((rm:Int)+48);rw[HWR.out,hset];simp only[];rw[<-HPl.out,XO _ _ _ (by have:=HVt.out;omega),XD _ _ _ _ hw8]
    omega
   exact absurd hw8 Om
 |succ R=>
  obtain⟨e,he⟩:∃e,e=nd-(R+1):=⟨_,rfl⟩
  have hnde:nd=R+1+e:=Om
  obtain⟨S,hS⟩:∃S,S=D%10^e:=⟨_,rfl⟩
  obtain⟨na,hna⟩:∃na,na=S*2^k/10^e:=⟨_,rfl⟩
  obtain⟨c,hc⟩:∃c,LP x.d R=c:=⟨_,rfl⟩
  have hcD:c=D/10^e%10:=by rw[<-HDv.out,hnde,XR R e λi hi=>LR HX.out i Om,hc]
  obtain⟨f1,f2,f3,f4⟩:=AKr hS hna hcD
  rw[<-HP.out]at f1 f2 f3 f4
  have hc9:c<=9:=by rw[<-hc];exact LR HX.out R Om
  have hcP:c*P<=9*P:=Nat.mul_le_mul_right _ hc9
  obtain⟨cp,hcp⟩:∃cp,c*P=cp:=⟨_,rfl⟩
  rw[hcp]at f1 f2 f3 hcP
  have hcell:wr.cell? ⟨B,R,none⟩=some (.int .u8 ((c:Int)+48)):=by rw[hwr,<-hc,<-VL HX.out R Om];have:=E0 (w:=w1) (x:={ x with d:=A8 x.d X t (R+1+dl),trunc:=BK x.trunc X t (R+1+dl) }) hB' (DG _ _ _) R Om;rw[this,VD _ _ _ _ Om,if_neg Om]
  have hshl:IntKind.u64.wrap ((c:Int)*2^k)=(cp:Int):=by rw[show ((c:Int)*2^k)=((c*P:Nat):Int) by rw[HP.out];norm_cast,hcp,wrap_u64 Om Om]
  have hR8:(R:Int)<800:=Om
  rw[<-he,<-hS,<-hna]at hn0
  obtain⟨wm,hwm⟩:∃wm,wm=R+dl:=⟨_,rfl⟩
  rw[show ((R+1:Nat):Int)-1=(R:Int) by omega]at hr0
  rw[show ((R+1:Nat):Int)+(dl:Int)=(wm:Int)+1 by omega]at hw0
  rw[show R+1+dl=wm+1 by omega]at hwr
  subst hr0 hw0 hn0
  have hplace:GG X t wm=((na+cp)%10:Nat)+48:=by unfold GG;rw[HXX.out,show t-1-wm=e by have:=HT.out;omega,f3,HP.out]
  have hq:(na+cp)/10=D%10^(nd-R)*2^k/10^(nd-R):=by rw[f2,HP.out,show nd-R=e+1 by omega]
  have hlt:na+cp<10*P:=Om
  have hwt:wm<t:=by have:=HT.out;omega
  have hw820:(wm:Int)<=820:=by have:=HT.out;omega
  obtain⟨n1,hn1⟩:∃n1,n1=na+cp:=⟨_,rfl⟩
  obtain⟨q,hqq⟩:∃q,n1/10=q:=⟨_,rfl⟩
  obtain⟨rm,hrm⟩:∃rm,n1%10=rm:=⟨_,rfl⟩
  rw[<-hn1]at hplace hq hlt
  rw[hqq]at hq
  rw[hrm]at hplace
  have hrm9:rm<=9:=Om
  have hn1q:n1=10*q+rm:=Om
  have HQ:=Hd hq
  have HPl:=Hd hplace
  have HWT:=Hd hwt
  have HWM:=Hd hwm
  have hRm:¬((R:Int)<0):=Om
  have hadd:IntKind.u64.wrap ((na:Int)+(cp:Int))=(n1:Int):=by rw[wrap_u64 Om Om];omega
  have htd:Int.tdiv (n1:Int) 10=(q:Int):=by rw[<-hqq];rfl
  have hqw:IntKind.u64.wrap (q:Int)=(q:Int):=wrap_u64 Om Om
  have hmul:IntKind.u64.wrap (10*(q:Int))=10*(q:Int):=wrap_u64 Om Om
  have hsub:IntKind.u64.wrap ((n1:Int)-10*(q:Int))=(rm:Int):=by rw[wrap_u64 Om Om];omega
  have h48:IntKind.u64.wrap ((rm:Int)+48)=(rm:Int)+48:=wrap_u64 Om Om
  have h256:((rm:Int)+48)%256=(rm:Int)+48:=Om
  clear hq hplace hn1 hcD f1 f2 f3 f4 hc hcp hna hS he hnde hwm hqq hrm hn1q hlt hcP hwt
  by_cases hw8:wm<800
  .have hw8':(wm:Int)<800:=Om
   have hcellw:wr.cell? ⟨B,wm,none⟩=some (.int .u8 ((A8 x.d X t (wm+1))[wm]!)):=by rw[hwr];exact E0 (x:={ x with d:=A8 x.d X t (wm+1),trunc:=BK x.trunc X t (wm+1) }) hB' (DG _ _ _) wm hw8
   have hfz:wr.frozen? ⟨B,wm,none⟩=false:=by rw[hwr];exact IF hB' _
   have HWR:=Hd hwr;clear hwr;go_wp2_with fail;clear hadd htd hqw hmul hsub h48 h256 hshl;go_roundg R
   case rel=>refine⟨Om,rfl,by rw[HWM.out];rfl,by rw[HQ.out],?_⟩;have hset:=IB (w:=w1) (B:=B) (x:={ x with d:=A8 x.d X t (wm+1),trunc:=BK x.trunc X t (wm+1) }) (DG _ _ _) wm hw8 ((rm:Int)+48);rw[HWR.out,hset];simp only[];rw[<-HPl.out,XO _ _ _ HWT.out,XD _ _ _ _ hw8,HWM.out]
   omega
  have hw8':¬(wm:Int)<800:=Om
  have hcellt:wr.cell? ⟨B,803,none⟩=some (.bool (BK x.trunc X t (wm+1))):=by rw[hwr];exact OE (x:={ x with d:=A8 x.d X t (wm+1),trunc:=BK x.trunc X t (wm+1) }) hB' (DG _ _ _)
  have hfz:wr.frozen? ⟨B,803,none⟩=false:=by rw[hwr];exact IF hB' _
  have HWR:=Hd hwr
  clear hwr
  by_cases hr0:rm=0
  .have hne:((rm:Int)!=0)=false:=by simp[hr0]
   have HR0:=Hd hr0;clear hr0;go_wp2_with fail;clear hadd htd hqw hmul hsub h48 h256 hshl;go_roundg R
   case rel=>refine⟨Om,rfl,by rw[HWM.out];rfl,by rw[HQ.out],?_⟩;rw[HWR.out,<-HWM.out,AAf _ _ _ Om,AMw _ _ _ _ (by rw[HPl.out,HR0.out];rfl)]
   omega
  have hne:((rm:Int)!=0)=true:=by rw[bne_iff_ne];omega
  go_wp2_with fail
  clear hadd htd hqw hmul hsub h48 h256 hshl
  go_roundg R
  case rel=>refine⟨Om,rfl,by rw[HWM.out];rfl,by rw[HQ.out],?_⟩;have hset:=J8 (w:=w1) (B:=B) (x:={ x with d:=A8 x.d X t (wm+1),trunc:=BK x.trunc X t (wm+1) }) (DG _ _ _) true;rw[HWR.out,hset];simp only[];rw[<-HWM.out,AAf _ _ _ Om,AI8 _ _ _ _ Om HWT.out (by rw[HPl.out];omega)]
  omega
theorem AF6(B:Nat)(x:CM)(w:World)(hB:B<w.heap.size)(nd:Nat)(hx:x.Ok nd)(h1:1<=nd)(k:Nat)(hk1:1<=k)(hk:k<=60)(hdp0:-1000000<=x.dp)(hdp1:x.dp<=1000000)
 (N:Nat) (hC:NA w N) (hN:N<=B) :
 Calls Tryz.prog 183 #[.pointer (some ⟨B,0,none⟩),.int .i64 k] (dw w B x) λe w'=>e=.returned (.tuple #[])/\∃m nd',w'=dw (w.drewN m) B (x.lsh nd k)/\(x.lsh nd k).Ok nd'/\1<=nd'/\x.dp<=(x.lsh nd k).dp/\(x.lsh nd k).dp<=x.dp+20/\((x.lsh nd k).dp=x.dp->x.d[0]! < (x.lsh nd k).d[0]!):=by
 have CL:=Hd (AFb B x w hB nd hx h1 k hk1 hk hdp0 hdp1 N hC hN)
 have c1:(dw w B x).cell? ⟨B,800,none⟩=some (.int .i64 nd):=by rw[<-hx.many];exact LE hB hx.size
 generalize dw w B x=W at CL c1
 have b0:((nd:Int)==0)=false:=Bq
 have b1:(0:Int)<(k:Int):=Om
 have b2:¬((60:Int)<(k:Int)):=Om
 clear hx hC hdp0 hdp1 h1 hk1
 go_enter Tryz.func183,Tryz.ntmps183
 go_wp2_with fail
 go_loopg [1] 0 (λ_ s wr=>s=.int .i64 k/\wr=W)
 case atStart=>exact⟨rfl,rfl⟩
 obtain⟨rfl,rfl⟩:=hrel
 go_wp2_with fail
 refine CL.out.mono ?_
 rintro e w' ⟨rfl,hw'⟩
 have Hw':=Hd hw'
 clear hw'
 go_wp2_with fail
 go_end0
 exact⟨rfl,Hw'.out⟩
def CM.shr(x:CM)(n:Nat):CM:=if h:n<=60 then x.rsh x.nd.toNat n else(x.rsh x.nd.toNat 60).shr (n-60)
 termination_by n
theorem ABz{x:CM}{n:Nat}(h:n<=60):x.shr n=x.rsh x.nd.toNat n:=by unfold CM.shr;rw[dif_pos h]
theorem AKa{x:CM}{n:Nat}(h:¬n<=60):x.shr n=(x.rsh x.nd.toNat 60).shr (n-60):=by
 conv=>lhs;unfold CM.shr
 rw[dif_neg h]
theorem AFe(B:Nat)(x:CM)(w:World)(hB:B<w.heap.size)(nd:Nat)(hx:x.Ok nd)(h1:1<=nd)(n:Nat)(hn1:1<=n)(hn:n<=200000)(hdp0:-500000<=x.dp)(hdp1:x.dp<=1000000) :
 Calls Tryz.prog 183 #[.pointer (some ⟨B,0,none⟩),.int .i64 (-(n:Int))] (dw w B x) λe w'=>e=.returned (.tuple #[])/\∃m nd',w'=dw (w.drewN m) B (x.shr n)/\(x.shr n).Ok nd'/\1<=nd'/\(x.shr n).dp<=x.dp/\x.dp-(n:Int)-20<=(x.shr n).dp:=by
 have c1:(dw w B x).cell? ⟨B,800,none⟩=some (.int .i64 nd):=by rw[<-hx.many];exact LE hB hx.size
 obtain⟨W,hW⟩:∃W,dw w B x=W:=⟨_,rfl⟩
 rw[hW]at c1
 rw[hW]
 have b0:((nd:Int)==0)=false:=Bq
 have b1:¬(0:Int) < -(n:Int):=Om
 have b2:-(n:Int)<0:=Om
 have HX:=Hd hx
 have HW:=Hd hW
 clear hx hW
 go_enter Tryz.func183,Tryz.ntmps183
 go_wp2_with fail
 go_loopg [1] n (λg s wr=>∃(y:CM) (m nd1:Nat),1<=g/\g<=n/\s=.int .i64 (-(g:Int))/\wr=dw (w.drewN m) B y/\y.Ok nd1/\1<=nd1/\y.shr g=x.shr n/\y.dp<=x.dp/\x.dp-((n:Int)-g)<=y.dp)
 case atStart=>exact⟨x,0,nd,hn1,Nl,rfl,by rw[<-HW.out];rfl,HX.out,h1,rfl,Om,Om⟩
 obtain⟨y,m,nd1,hg1,hgn,rfl,hwr,hy,hnd1,hsh,GR,hd2⟩:=hrel
 have hB':B<(w.drewN m).heap.size:=hB
 have hnat:y.nd.toNat=nd1:=by rw[hy.many];rfl
 by_cases hg:gk<=60
 .have hs:=SA B y (w.drewN m) hB' nd1 hy hnd1 gk hg1 hg Om Om
  rw[<-hnat,<-ABz hg,hsh,<-hwr]at hs;have CS:=Hd hs;have HD1:=Hd (And.intro GR hd2);have b3:¬(-(gk:Int) < -60):=Om;have b4:- -(gk:Int)=(gk:Int):=Om;clear hs hwr hy hsh GR hd2 hnat;go_wp2_with fail;refine CS.out.mono ?_;rintro e w' ⟨rfl,hw'⟩;have Hw':=Hd hw';clear hw';go_wp2_with fail;go_end0;obtain⟨m',nd',e1,e2,e3,e4,e5,_⟩:=Hw'.out;obtain⟨d1,d2⟩:=HD1.out;exact⟨rfl,m+m',nd',by rw[e1,World.drewN_drewN],e2,e3,Om,Om⟩
 have hs:=SA B y (w.drewN m) hB' nd1 hy hnd1 60 Om Om Om Om
 rw[<-hnat,<-hwr]at hs
 rw[AKa hg]at hsh
 have CS:=Hd hs
 have HD1:=Hd (And.intro GR hd2)
 have HSh:=Hd hsh
 have b3:-(gk:Int) < -60:=Om
 have b5:-(gk:Int)+60=-((gk-60:Nat):Int):=Om
 clear hs hwr hy hsh GR hd2 hnat
 go_wp2_with fail
 refine CS.out.mono ?_
 rintro e w' ⟨rfl,hw'⟩
 have Hw':=Hd hw'
 clear hw'
 have B5:=Hd b5
 clear b5
 go_wp2_with fail
 go_roundg (gk-60)
 case rel=>obtain⟨m',nd',e1,e2,e3,e4,e5,_⟩:=Hw'.out;obtain⟨d1,d2⟩:=HD1.out;exact⟨_,m+m',nd',Om,Om,by rw[B5.out],by rw[e1,World.drewN_drewN],e2,e3,HSh.out,Om,Om⟩
 omega
theorem Z9(B:Nat)(x:CM)(w:World)(hB:B<w.heap.size)(nd:Nat)(hx:x.Ok nd)(h1:1<=nd)(n:Nat)(hn1:1<=n)(hn:n<=60)(hdp0:-500000<=x.dp)(hdp1:x.dp<=1000000) :
 Calls Tryz.prog 183 #[.pointer (some ⟨B,0,none⟩),.int .i64 (-(n:Int))] (dw w B x) λe w'=>e=.returned (.tuple #[])/\∃m nd',w'=dw (w.drewN m) B (x.shr n)/\(x.shr n).Ok nd'/\1<=nd'/\(x.shr n).dp<=x.dp/\x.dp-20<=(x.shr n).dp/\((x.shr n).dp=x.dp->(x.shr n).d[0]! < x.d[0]!):=by
 have c1:(dw w B x).cell? ⟨B,800,none⟩=some (.int .i64 nd):=by rw[<-hx.many];exact LE hB hx.size
 have hs:=SA B x w hB nd hx h1 n hn1 hn Om Om
 have hnat:x.nd.toNat=nd:=by rw[hx.many];rfl
 rw[<-hnat,<-ABz hn]at hs
 have CS:=Hd hs
 clear hs hnat
 generalize dw w B x=W at CS c1
 have b0:((nd:Int)==0)=false:=Bq
 have b1:¬(0:Int) < -(n:Int):=Om
 have b2:-(n:Int)<0:=Om
 have b3:¬(-(n:Int) < -60):=Om
 have b4:- -(n:Int)=(n:Int):=Om
 clear hx hdp0 hdp1 h1
 go_enter Tryz.func183,Tryz.ntmps183
 go_wp2_with fail
 go_loopg [1] 0 (λ_ s wr=>s=.int .i64 (-(n:Int))/\wr=W)
 case atStart=>exact⟨rfl,rfl⟩
 obtain⟨rfl,rfl⟩:=hrel
 go_wp2_with fail
 refine CS.out.mono ?_
 rintro e w' ⟨rfl,hw'⟩
 have Hw':=Hd hw'
 clear hw'
 go_wp2_with fail
 go_end0
 exact⟨rfl,Hw'.out⟩
def CM.rup(x:CM)(m:Int):Bool:=
 if m<0\/x.nd<=m then false
 else if LP x.d m.toNat=5/\m+1=x.nd then x.trunc||(decide (0<m)&&decide (LP x.d (m.toNat-1)%2=1))
 else decide (5<=LP x.d m.toNat)
theorem AGm(B:Nat)(x:CM)(w:World)(hB:B<w.heap.size)(nd:Nat)(hx:x.Ok nd)(m:Int)(hm:m<=1000000)(hm0:-1000000<=m) :
 Calls Tryz.prog 196 #[.pointer (some ⟨B,0,none⟩),.int .i64 m] (dw w B x) λe w'=>e=.returned (.bool (x.rup m))/\w'=dw w B x:=by
 have c1:(dw w B x).cell? ⟨B,800,none⟩=some (.int .i64 nd):=by rw[<-hx.many];exact LE hB hx.size
 have c2:(dw w B x).cell? ⟨B,803,none⟩=some (.bool x.trunc):=OE hB hx.size
 have hdig:∀i,i<nd->(dw w B x).cell? ⟨B,i,none⟩=some (.int .u8 ((LP x.d i:Int)+48)):=λi hi=>by rw[<-VL hx i hi];exact E0 hB hx.size i (by have:=hx.most;omega)
 have hmost:=hx.most
 have hmany:=hx.many
 have HX:=Hd hx
 have HD:=Hd hdig
 generalize dw w B x=W at c1 c2 HD
 clear hx hdig
 by_cases h0:m<0
 .have hr:x.rup m=false:=by unfold CM.rup;rw[if_pos (Or.inl h0)]
  rw[hr];clear hmany hr;go_enter Tryz.func196,Tryz.ntmps196;go_wp2_with fail;go_ret;exact⟨rfl,rfl⟩
 obtain⟨k,rfl⟩:∃k:Nat,m=k:=⟨m.toNat,Om⟩
 by_cases h1:nd<=k
 .have hr:x.rup (k:Int)=false:=by unfold CM.rup;rw[if_pos (Or.inr Om)]
  rw[hr];have h0':¬((k:Int)<0):=h0;have h1':(k:Int)≥(nd:Int):=Om;clear hmany hr h0;go_enter Tryz.func196,Tryz.ntmps196;go_wp2_with fail;go_ret;exact⟨rfl,rfl⟩
 have h1':¬((k:Int)≥(nd:Int)):=Om
 have hk8:(k:Int)<800:=Om
 have hc:=HD.out k Om
 have hc9:=LR HX.out k Om
 have hr:x.rup (k:Int)=if LP x.d k=5/\(k:Int)+1=(nd:Int) then x.trunc||(decide (0<(k:Int))&&decide (LP x.d (k-1)%2=1)) else decide (5<=LP x.d k):=by unfold CM.rup;rw[if_neg Om,hmany];rfl
 rw[hr]
 obtain⟨c,hcc⟩:∃c,LP x.d k=c:=⟨_,rfl⟩
 rw[hcc]at hc hc9
 rw[hcc]
 clear hmany hr hcc
 by_cases h5:c=5/\(k:Int)+1=(nd:Int)
 .rw[if_pos h5]
  obtain⟨rfl,he⟩:=h5;have he':(((k:Int)+1)==(nd:Int))=true:=by rw[beq_iff_eq];exact he
  clear he
  cases ht:x.trunc with
  |true=>rw[ht]at c2;clear ht;go_enter Tryz.func196,Tryz.ntmps196;go_wp2_with fail;go_ret;exact⟨rfl,rfl⟩
  |false=>
   rw[ht]at c2;clear ht;by_cases hk0:k=0
   .subst hk0
    go_enter Tryz.func196,Tryz.ntmps196;go_wp2_with fail;go_ret;exact⟨rfl,rfl⟩
   obtain⟨j,hj⟩:∃j,j=k-1:=⟨_,rfl⟩;have hcj:=HD.out j Om;have hj9:=LR HX.out j Om;rw[<-hj];obtain⟨b,hb⟩:∃b,LP x.d j=b:=⟨_,rfl⟩;rw[hb]at hcj hj9;rw[hb];have hpos:(0:Int)<(k:Int):=Om;have hsub:(k:Int)-1=(j:Int):=Om;have hj8:(j:Int)<800:=Om;clear hb hk0 hj;go_enter Tryz.func196,Tryz.ntmps196;go_wp2_with fail;go_ret;refine⟨?_,rfl⟩;show Ending.returned (Value.bool ((b:Int)%2 !=0))=_;congr 2;rw[Bool.eq_iff_iff,bne_iff_ne];simp;omega
 rw[if_neg h5]
 by_cases hc5:c=5
 .have he':(((k:Int)+1)==(nd:Int))=false:=by rw[Bn];intro e;exact h5 ⟨hc5,e⟩
  subst hc5;clear h5;go_enter Tryz.func196,Tryz.ntmps196;go_wp2_with fail;go_ret;exact⟨rfl,rfl⟩
 have he':(((c:Int)+48)==53)=false:=Bq
 clear h5
 go_enter Tryz.func196,Tryz.ntmps196
 go_wp2_with fail
 go_ret
 refine⟨?_,rfl⟩
 show Ending.returned (Value.bool (decide (53<=(c:Int)+48)))=_
 congr 2
 exact decide_eq_decide.2 Om
def TB(x:CM)(nd:Nat):Nat->Int
 |0=>0
 |i+1=>if i<nd then IntKind.u64.wrap (IntKind.u64.wrap (TB x nd i*10)+(LP x.d i:Int)) else IntKind.u64.wrap (TB x nd i*10)
def CM.rint(x:CM)(nd:Nat):Int:=
 if x.dp>20 then 18446744073709551615
 else if x.rup x.dp=true then IntKind.u64.wrap (TB x nd x.dp.toNat+1) else TB x nd x.dp.toNat
theorem LL(z:Int):0<=IntKind.u64.wrap z/\IntKind.u64.wrap z<18446744073709551616:=by unfold IntKind.wrap;simp[IntKind.bits,IntKind.signed];omega
theorem AD0(x:CM)(nd:Nat):∀i,0<=TB x nd i/\TB x nd i<18446744073709551616
 |0=>⟨by simp[TB],by simp[TB]⟩
 |i+1=>by unfold TB;split<;>exact LL _
theorem ACx(B:Nat)(x:CM)(w:World)(hB:B<w.heap.size)(nd:Nat)(hx:x.Ok nd)(hdp0:-1000000<=x.dp)(hdp1:x.dp<=1000000) :
 Calls Tryz.prog 184 #[.pointer (some ⟨B,0,none⟩)] (dw w B x) λe w'=>e=.returned (.int .u64 (x.rint nd))/\w'=dw w B x:=by
 have CU:=Hd (AGm B x w hB nd hx x.dp hdp1 hdp0)
 have c1:(dw w B x).cell? ⟨B,800,none⟩=some (.int .i64 nd):=by rw[<-hx.many];exact LE hB hx.size
 have c2:(dw w B x).cell? ⟨B,801,none⟩=some (.int .i64 x.dp):=VO hB hx.size
 have hdig:∀i,i<nd->(dw w B x).cell? ⟨B,i,none⟩=some (.int .u8 ((LP x.d i:Int)+48)):=λi hi=>by rw[<-VL hx i hi];exact E0 hB hx.size i (by have:=hx.most;omega)
 have hmost:=hx.most
 have HX:=Hd hx
 have HD:=Hd hdig
 obtain⟨p,hp⟩:∃p,x.dp=p:=⟨_,rfl⟩
 have HR:Hid (x.rint nd=if p>20 then 18446744073709551615 else if x.rup p=true then IntKind.u64.wrap (TB x nd p.toNat+1) else TB x nd p.toNat):=Hd (by unfold CM.rint;rw[hp])
 rw[hp]at CU c2 hdp0 hdp1
 generalize dw w B x=W at c1 c2 HD CU
 clear hx hdig hp
 by_cases h20:p>20
 .rw[HR.out,if_pos h20]
  go_enter Tryz.func184,Tryz.ntmps184;go_wp2_with fail;go_ret;exact⟨rfl,rfl⟩
 have hr:=HR.out
 rw[if_neg h20]at hr
 clear HR
 have HR:=Hd hr
 have h20':¬(20<p):=h20
 clear h20 hr
 obtain⟨b,hb⟩:∃b,x.rup p=b:=⟨_,rfl⟩
 rw[hb]at CU HR
 generalize x.rint nd=r at HR ⊢
 clear hb
 go_enter Tryz.func184,Tryz.ntmps184
 go_wp2_with fail
 go_loop [3,4] (λi n=>∃k:Nat,k<=nd/\(k:Int)<=max p 0/\i=.int .i64 k/\n=.int .u64 (TB x nd k)) (λi _=>nd-(intOf i).toNat)
 case atStart=>exact⟨0,Om,Om,rfl,rfl⟩
 obtain⟨k,hk,hkp,rfl,rfl⟩:=hrel
 by_cases hlt:(k:Int)<p
 .by_cases hlt2:(k:Int)<(nd:Int)
  .have hc:=HD.out k Om
   have hc9:=LR HX.out k Om;have hs:TB x nd (k+1)=IntKind.u64.wrap (IntKind.u64.wrap (TB x nd k*10)+(LP x.d k:Int)):=by
    conv=>lhs;unfold TB
    rw[if_pos Om]
   have hin:=AD0 x nd k;have HS:=Hd hs;clear hs;generalize TB x nd k=n at *;generalize LP x.d k=c at *;have hk8:(k:Int)<800:=Om;go_wp2_with fail;go_round
   case rel=>exact⟨k+1,Om,Om,by go_num,by rw[HS.out]⟩
   simp[intOf];omega
  have hst:(nd:Int)<=k\/p<=k:=Om;have HST:=Hd hst;clear hst;go_wp2_with fail;go_loop [3,4] (λi n=>∃q:Nat,Hid ((nd:Int)<=q\/p<=q)/\(q:Int)<=max p 0/\i=.int .i64 q/\n=.int .u64 (TB x nd q)) (λi _=>30-(intOf i).toNat)
  case atStart=>exact⟨k,HST,hkp,rfl,rfl⟩
  obtain⟨q,hq,hqp,rfl,rfl⟩:=hrel;by_cases hlq:(q:Int)<p
  .have hs:TB x nd (q+1)=IntKind.u64.wrap (TB x nd q*10):=by
    conv=>lhs;unfold TB
    rw[if_neg (by have:=hq.out;omega)]
   have hin:=AD0 x nd q;have HS:=Hd hs;clear hs;generalize TB x nd q=n at *;go_wp2_with fail;go_round
   case rel=>exact⟨q+1,Hd (by have:=hq.out;omega),Om,by go_num,by rw[HS.out]⟩
   simp[intOf];omega
  have hpq:p.toNat=q:=Om;have HPQ:=Hd hpq;clear hpq
  cases b with
  |true=>go_wp2_with fail;refine CU.out.mono ?_;rintro e w' ⟨rfl,rfl⟩;go_wp2_with fail;go_ret;exact⟨by rw[HR.out,HPQ.out];rfl,rfl⟩
  |false=>go_wp2_with fail;refine CU.out.mono ?_;rintro e w' ⟨rfl,rfl⟩;go_wp2_with fail;go_ret;exact⟨by rw[HR.out,HPQ.out];rfl,rfl⟩
 have hst:(nd:Int)<=k\/p<=k:=Om
 have HST:=Hd hst
 clear hst
 go_wp2_with fail
 go_loop [3,4] (λi n=>∃q:Nat,Hid ((nd:Int)<=q\/p<=q)/\(q:Int)<=max p 0/\i=.int .i64 q/\n=.int .u64 (TB x nd q)) (λi _=>30-(intOf i).toNat)
 case atStart=>exact⟨k,HST,hkp,rfl,rfl⟩
 obtain⟨q,hq,hqp,rfl,rfl⟩:=hrel
 by_cases hlq:(q:Int)<p
 .have hs:TB x nd (q+1)=IntKind.u64.wrap (TB x nd q*10):=by
   conv=>lhs;unfold TB
   rw[if_neg (by have:=hq.out;omega)]
  have hin:=AD0 x nd q;have HS:=Hd hs;clear hs;generalize TB x nd q=n at *;go_wp2_with fail;go_round
  case rel=>exact⟨q+1,Hd (by have:=hq.out;omega),Om,by go_num,by rw[HS.out]⟩
  simp[intOf];omega
 have hpq:p.toNat=q:=Om
 have HPQ:=Hd hpq
 clear hpq
 cases b with
 |true=>
  go_wp2_with fail
  refine CU.out.mono ?_
  rintro e w' ⟨rfl,rfl⟩
  go_wp2_with fail
  go_ret
  exact⟨by rw[HR.out,HPQ.out];rfl,rfl⟩
 |false=>
  go_wp2_with fail
  refine CU.out.mono ?_
  rintro e w' ⟨rfl,rfl⟩
  go_wp2_with fail
  go_ret
  exact⟨by rw[HR.out,HPQ.out];rfl,rfl⟩
def AG9:List Nat:=[1,3,6,9,13,16,19,23,26]
def KV(p:Nat):Nat:=if p≥9 then 27 else AG9.getD p 0
theorem AEh(p:Nat):1<=KV p/\KV p<=27:=by
 unfold KV;split
 .omega
 rename_i h;have:p=0\/p=1\/p=2\/p=3\/p=4\/p=5\/p=6\/p=7\/p=8:=Om;rcases this with rfl|rfl|rfl|rfl|rfl|rfl|rfl|rfl|rfl<;>decide
structure ZI(w:World)(N:Nat):Prop where
 ex:∃R o cap:Nat,R<N/\14<N/\w.cell? ⟨11,0,none⟩=some (.slice (some ⟨R,o,none⟩) 9 cap)/\∀i:Nat,i<9->w.cell? ⟨R,o+i,none⟩=some (.int .i64 (AG9.getD i 0:Nat))
 i0:w.cell? ⟨6,0,none⟩=some (.int .u64 52)
 i1:w.cell? ⟨6,1,none⟩=some (.int .u64 11)
 i2:w.cell? ⟨6,2,none⟩=some (.int .i64 (-1023))
def GK:Nat->CM->Int->CM×Int
 |0,x,e=>(x,e)
 |f+1,x,e=>if x.dp>0 then GK f (x.shr (KV x.dp.toNat)) (e+KV x.dp.toNat) else(x,e)
noncomputable def TI:Nat->CM->Int->CM×Int
 |0,x,e=>(x,e)
 |f+1,x,e=>if x.dp<0\/x.dp=0/\x.d[0]! < 53 then TI f (x.lsh x.nd.toNat (KV (-x.dp).toNat)) (e-KV (-x.dp).toNat) else(x,e)
def UW(x:CM):Nat:=(10*x.dp+(x.d[0]!-49)).toNat
def upM(x:CM):Nat:=(10 * -x.dp+(57-x.d[0]!)).toNat
theorem XA{x y:CM}{nd nd':Nat}(hx:x.Ok nd)(h1:1<=nd)(hy:y.Ok nd')(h1':1<=nd')(hp:0<x.dp)(h:y.dp<=x.dp)(he:y.dp=x.dp->y.d[0]! < x.d[0]!):UW y<UW x:=by
 have a:=hx.digit 0 Om;have b:=hx.lead Om;have c:=hy.digit 0 Om;have d:=hy.lead Om;unfold UW;by_cases e:y.dp=x.dp
 .have:=he e;omega
 omega
theorem YZ{x y:CM}{nd nd':Nat}(hx:x.Ok nd)(h1:1<=nd)(hy:y.Ok nd')(h1':1<=nd')(hp:x.dp<=0)(hq:x.dp=0->x.d[0]! < 53)(h:x.dp<=y.dp)(he:y.dp=x.dp->x.d[0]! < y.d[0]!):upM y<upM x:=by
 have a:=hx.digit 0 Om;have b:=hx.lead Om;have c:=hy.digit 0 Om;have d:=hy.lead Om;unfold upM;by_cases e:y.dp=x.dp
 .have:=he e;omega
 by_cases e0:x.dp=0
 .have:=hq e0;omega
 omega
noncomputable def JT(z:CM)(e:Int):Bool:=
 if e+1023≥2047 then true
 else if (z.lsh z.nd.toNat 53).rint (z.lsh z.nd.toNat 53).nd.toNat=9007199254740992 then decide (e+1+1023≥2047) else false
noncomputable def VS(z:CM)(e:Int):Bool:=if e < -1022 then JT (z.shr (-1022-e).toNat) (-1022) else JT z e
noncomputable def SD(x:CM):Bool:=
 if x.nd=0 then false else if x.dp>310 then true else if x.dp < -330 then false
 else VS (TI 6000 (GK 6000 x 0).1 (GK 6000 x 0).2).1 ((TI 6000 (GK 6000 x 0).1 (GK 6000 x 0).2).2-1)
