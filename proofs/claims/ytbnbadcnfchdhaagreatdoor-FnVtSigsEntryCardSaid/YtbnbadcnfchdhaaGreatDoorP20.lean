/- Lemmas for FnVtSigsEntry; no conditions. -/
import Derived.Test.YtbnbadcnfchdhaaGreatDoorP07
import Derived.Test.YtbnbadcnfchdhaaGreatDoorP19
import Derived.Maps.OwnOps
import Derived.Maps.OwnSet
set_option maxRecDepth 100000
set_option maxHeartbeats 16000000
set_option linter.all false
namespace Go.Proofs.YtbnbadcnfchdhaaGreatDoor
open Go.RowKit
def AKb(N:Nat):Prop:=∀(p:Ph),p.sz<=N->p.sz<=5000->p.dd<=2->p.good->∀(w:World) (k:Nat) (x:ByteArray) (A:Option Addr) (n c:Nat) (b:Bool) (t:ByteArray),PhAt w (λ_=>True) (NX k x A n c b t) p->
 Calls Tryz.prog 22 #[.agg #[.int .i64 k,.string x,.slice A n c,.bool b,.string t]] w (ID (λ_=>True) w)
theorem AG8(N:Nat)(ih:AKb N):AKb (N+1):=by
 intro p hp hp5 hpd hgood w k x A n c b t hat;have HAT:=Hd (λ(W:World) (hW:Below w.heap.size w W)=>hat.keep hW);have HPN:=Hd hp;have HP5:=Hd hp5;have HPD:=Hd hpd;have HGOOD:=Hd hgood
 cases hat with
 |mk k x A n c kids ty rows hn hrow hP hA hkid=>
 have hsz:K8 kids<=N:=by simp[Ph.sz]at hp;omega
 have hs5:K8 kids<=5000:=by simp[Ph.sz]at hp5;omega
 have hddk:H8 kids<=2:=by simp only[Ph.dd]at hpd;omega
 have hgk:FB kids:=by simp only[Ph.good]at hgood;exact hgood.2.2
 have hn63:n<=5000:=by have:=GP kids;omega
 have HTY:=Hd (show ∀u,ty=some u->u.size<=255/\IP u from λu hu=>by simp only[Ph.good]at hgood;exact hgood.2.1 u hu);have HN:=Hd hn;have HA:=Hd hA;have HRow:=Hd hrow;have HK:=Hd hkid;have HIH:=Hd ih;have HS:=Hd hsz;have HS5:=Hd hs5;have HDD:=Hd hddk;have HG:=Hd hgk;clear hp hp5 hpd hgood hP hn hrow hA hkid ih hsz hs5 hddk hgk;generalize hb:ty.isSome=b at *;generalize ht:ZV ty=t at *;have HBT:=Hd (show b=true->ty=some t by
  intro h;rw[h]at hb;cases ty with
  |none=>simp at hb
  |some y=>simp[ZV]at ht;rw[ht])
 have HBF:=Hd (show b=false->ty=none by
  intro h;rw[h]at hb;cases ty with
  |none=>rfl
  |some y=>simp at hb)
 clear hb ht;go_enter Tryz.func22,Tryz.ntmps22;go_upto_region 1 with fail;have hlt0:w.heap.size<(w.alloc (.cells #[.int .i64 k,.string x,.slice A n c,.bool b,.string t] 37)).heap.size:=by simp
 have hbx:Below w.heap.size w (w.alloc (.cells #[.int .i64 k,.string x,.slice A n c,.bool b,.string t] 37)):=Bl.alloc Nl _;obtain⟨q0,q1,q2,q3,q4⟩:=AL (heap_alloc_new w (.cells #[.int .i64 k,.string x,.slice A n c,.bool b,.string t] 37));generalize w.alloc (.cells #[.int .i64 k,.string x,.slice A n c,.bool b,.string t] 37)=wb at *;have hbxs:=hbx.size;have HBX:=Hd hbx;clear hbx;have HOLC:=Hd (λ(W:World) (hW:Below w.heap.size w W)=>J9 _ _ Nl W k x A n c b t (HAT.out W hW));have HTYC:=Hd (λ(W:World) (hW:Below w.heap.size w W)=>OS _ _ Nl HP5.out HPD.out HGOOD.out W k x A n c b t (HAT.out W hW));generalize MY (.mk k x kids ty)=hol at *;go_wp2_with fail;go_loopw [8] (λv8 wr=>∃m:Nat,m<=n/\v8=.int .i64 m/\Below wb.heap.size wb wr) (λi _=>n-(intOf i).toNat)
 case atStart=>exact⟨0,Nat.zero_le _,rfl,Bl⟩
 obtain⟨m,hm,rfl,hbel⟩:=hrel;have hbs:=hbel.size;have hbw0:Below w.heap.size w wr:=HBX.out.trans (hbel.mono hbxs);by_cases hlt:(m:Int)<(n:Int)
 .have hmn:m<kids.length:=by have:=HN.out;omega
  have hsz1:=CW kids m hmn;have hdd1:=DF kids m hmn;obtain⟨g,hg,hgl⟩:=HA.out Om;subst hg;have hrow1:=AD HRow.out hbw0;obtain⟨k1,x1,A1,n1,cc1,b1,t1,hat1,c0,c1,c2,c3,c4⟩:=PhAt.kid HN.out hrow1 (λi h=>(HK.out i h).keep hbw0) m hmn;have HAT1:=Hd (λ(W:World) (hW:Below wr.heap.size wr W)=>hat1.keep hW);have HC:=Hd (λ(W:World) (hW:Below wr.heap.size wr W)=>HIH.out kids[m] (by have:=HS.out;omega) (by have:=HS5.out;omega) (by have:=HDD.out;omega) (BD kids m hmn HG.out) W k1 x1 A1 n1 cc1 b1 t1 (hat1.keep hW));have HKP:=Hd (show kids[m].sz<=5000/\kids[m].dd<=2/\kids[m].good from⟨by have:=HS5.out;omega,by have:=HDD.out;omega,BD kids m hmn HG.out⟩);clear hrow1 hat1 hsz1 hdd1;go_upto_if 13 with(go_at_call 22;refine(HC.out _ (AK _ _)).mono ?_;rintro e w2 ⟨rb,rfl,_,hb2⟩);have hb3:Below wb.heap.size wb w2:=hbel.trans (((AK _ _).trans (hb2.mono Sm)).mono hbs)
  cases rb with
  |true=>go_wp2_with fail;go_ret;exact⟨_,rfl,trivial,HBX.out.trans (hb3.mono hbxs)⟩
  |false=>
   go_wp2_with fail;go_roundw
   case rel=>exact⟨m+1,Om,by go_num,hb3⟩
   simp[intOf];omega
 have p0:=(hbel.cell (p:=⟨w.heap.size,0,none⟩) hlt0).trans q0;have p1:=(hbel.cell (p:=⟨w.heap.size,1,none⟩) hlt0).trans q1;have p2:=(hbel.cell (p:=⟨w.heap.size,2,none⟩) hlt0).trans q2;have p3:=(hbel.cell (p:=⟨w.heap.size,3,none⟩) hlt0).trans q3;have p4:=(hbel.cell (p:=⟨w.heap.size,4,none⟩) hlt0).trans q4;clear q0 q1 q2 q3 q4 HAT HA HRow HK HIH;have hk57:(∃q5 q7,((k:Int)==5)=q5/\((k:Int)==7)=q7/\(q5=true\/q7=true))\/((k:Int)==5)=false/\((k:Int)==7)=false:=by
  cases h5:((k:Int)==5)<;>cases h7:((k:Int)==7)<;>simp
 rcases hk57 with⟨q5,q7,e5,e7,hq⟩|⟨e5,e7⟩
 .cases q5 with
  |true=>
   clear hq;by_cases hn0:(0:Int)<(n:Int)
   .cases b with
    |true=>go_wp2_with fail;go_ret;exact⟨_,rfl,trivial,hbw0⟩
    |false=>
     cases hol with
     |false=>go_wp2_with (go_at_call 24;refine(HOLC.out _ (by first|exact hbw0|exact hbw0.drew)).mono ?_;rintro e w2 ⟨rfl,hb2⟩);go_ret;exact⟨_,rfl,trivial,hbw0.trans (hb2.mono Om)⟩
     |true=>go_wp2_with (first|(go_at_call 24;refine(HOLC.out _ (by first|exact hbw0|exact hbw0.drew)).mono ?_;rintro e w2 ⟨rfl,hb2⟩;have hbw2:Below w.heap.size w w2:=hbw0.trans (hb2.mono Om);have z0:=(hb2.cell (p:=⟨w.heap.size,0,none⟩) (show w.heap.size<wr.heap.size by omega)).trans p0;have z1:=(hb2.cell (p:=⟨w.heap.size,1,none⟩) (show w.heap.size<wr.heap.size by omega)).trans p1;have z2:=(hb2.cell (p:=⟨w.heap.size,2,none⟩) (show w.heap.size<wr.heap.size by omega)).trans p2;have z3:=(hb2.cell (p:=⟨w.heap.size,3,none⟩) (show w.heap.size<wr.heap.size by omega)).trans p3;have z4:=(hb2.cell (p:=⟨w.heap.size,4,none⟩) (show w.heap.size<wr.heap.size by omega)).trans p4)|(go_at_call 38;refine(HTYC.out _ (by first|exact hbw2|exact hbw2.drew)).mono ?_;rintro e w3 ⟨A3,n3,c3,zs,rfl,hn3,_,_,hb3⟩;have HN3:=Hd hn3;clear hn3));go_ret;exact⟨_,rfl,trivial,hbw2.trans (hb3.mono hbw2.size)⟩
   go_wp2_with fail;go_ret;exact⟨_,rfl,trivial,hbw0⟩
  |false=>
   obtain rfl:q7=true:=by simpa using hq
   clear hq;by_cases hn0:(0:Int)<(n:Int)
   .cases b with
    |true=>go_wp2_with fail;go_ret;exact⟨_,rfl,trivial,hbw0⟩
    |false=>
     cases hol with
     |false=>go_wp2_with (go_at_call 24;refine(HOLC.out _ (by first|exact hbw0|exact hbw0.drew)).mono ?_;rintro e w2 ⟨rfl,hb2⟩);go_ret;exact⟨_,rfl,trivial,hbw0.trans (hb2.mono Om)⟩
     |true=>go_wp2_with (first|(go_at_call 24;refine(HOLC.out _ (by first|exact hbw0|exact hbw0.drew)).mono ?_;rintro e w2 ⟨rfl,hb2⟩;have hbw2:Below w.heap.size w w2:=hbw0.trans (hb2.mono Om);have z0:=(hb2.cell (p:=⟨w.heap.size,0,none⟩) (show w.heap.size<wr.heap.size by omega)).trans p0;have z1:=(hb2.cell (p:=⟨w.heap.size,1,none⟩) (show w.heap.size<wr.heap.size by omega)).trans p1;have z2:=(hb2.cell (p:=⟨w.heap.size,2,none⟩) (show w.heap.size<wr.heap.size by omega)).trans p2;have z3:=(hb2.cell (p:=⟨w.heap.size,3,none⟩) (show w.heap.size<wr.heap.size by omega)).trans p3;have z4:=(hb2.cell (p:=⟨w.heap.size,4,none⟩) (show w.heap.size<wr.heap.size by omega)).trans p4)|(go_at_call 38;refine(HTYC.out _ (by first|exact hbw2|exact hbw2.drew)).mono ?_;rintro e w3 ⟨A3,n3,c3,zs,rfl,hn3,_,_,hb3⟩;have HN3:=Hd hn3;clear hn3));go_ret;exact⟨_,rfl,trivial,hbw2.trans (hb3.mono hbw2.size)⟩
   go_wp2_with fail;go_ret;exact⟨_,rfl,trivial,hbw0⟩
 go_wp2_with fail;go_ret;exact⟨_,rfl,trivial,hbw0⟩
theorem AAx:∀N,AKb N
 |0=>λp hp=>by have:=p.sz_pos;omega
 |N+1=>AG8 N (AAx N)
def EO(x:ByteArray):Prop:=AIg x\/∃i0 i1 i2 neg eneg,Q3 x i0 i1 i2 neg eneg
theorem FG{x:ByteArray}(h:EO x):x.size<=100000/\1<=x.size:=by
 rcases h with h|⟨i0,i1,i2,neg,eneg,h⟩
 .have:=h.small;have:=h.three;omega
 have:=h.small;have:=h.some;have:=h.fits;omega
theorem IL{x:ByteArray}(h:EO x):∀i,i<x.size->AA x i≠95:=by
 intro i hi;rcases h with h|⟨i0,i1,i2,neg,eneg,h⟩
 .by_cases h0:i=0
  .subst h0;rw[h.zero];decide
  by_cases h1:i=1
  .subst h1;rw[h.x];decide
  have:=h.digit i Om hi;omega
 have hsg:=h.sign;have hso:=h.some;have hf:=h.fits;by_cases hm:i0<=i
 .by_cases hm1:i<i1
  .have:=h.mant i hm hm1;omega
  rcases h.tail with ht|⟨t1,t2,t3,t4⟩
  .omega
  by_cases e:i=i1
  .subst e;omega
  by_cases e2:i<i2
  .have:i=i1+1:=Om
   subst this;omega
  have:=t4 i Om hi;omega
 have:i=0:=Om;subst this;omega
theorem O5{x:ByteArray}{i0 i1 i2:Nat}{neg eneg:Bool}(h:Q3 x i0 i1 i2 neg eneg):∀c,c=AA x (i0+1)->c≠120/\c≠88/\c≠98/\c≠66/\c≠111/\c≠79:=by
 rintro c rfl;have hso:=h.some;have hf:=h.fits;by_cases hm1:i0+1<i1
 .have:=h.mant (i0+1) Om hm1;omega
 have e:i1=i0+1:=Om;rcases h.tail with ht|⟨t1,_⟩
 .have:AA x (i0+1)=0:=by
   unfold AA;rw[List.getD_eq_getElem?_getD,List.getElem?_eq_none (by show x.size<=_;omega)];rfl
  omega
 rw[e]at t1;omega
theorem N6(t:ByteArray)(hms:t.size<=100000)(h1:1<=t.size)(hus:∀i,i<t.size->AA t i≠95)(hb:(AA t 0=48/\AA t 1=120/\3<=t.size)\/(AA t 0=48/\∀c,c=AA t 1->c≠120/\c≠88/\c≠98/\c≠66/\c≠111/\c≠79)\/AA t 0≠48)(k:Nat)(hk:8<=k)(hk2:k<=64)(w:World) :
 Calls Tryz.prog 98 #[.string t,.int .i64 0,.int .i64 k] w λe w'=>e=.returned (.tuple #[.int .u64 (CZ t k).1,CY (CZ t k).2])/\Below w.heap.size w w':=by
 have hext:∀a,a<=t.size->∀i,i<(t.extract a t.size).size->(((t.extract a t.size).data.toList.getD i 0).toNat:Nat)≠95:=λa ha i hi=>by rw[AU _ _ ha]at hi;have h2:=BC t a i;have h3:=hus (a+i) Om;rw[<-h2]at h3;unfold AA at h3;omega
 unfold CZ
 rw[if_neg Om]
 unfold ZB
 rcases hb with⟨b0,b1,b3⟩|⟨b0,b1⟩|b0
 .rw[if_pos b0,if_pos ⟨b3,b1⟩]
  exact ALw t _ hms (by rw[AU _ _ Om];omega) Om b0 b1 b3 rfl (hext 2 Om) k hk hk2 w
 .rw[if_pos b0,if_neg (λh=>(b1 _ rfl).1 h.2)]
  exact ANn t _ hms (by rw[AU _ _ Om];omega) Om b0 b1 rfl (hext 1 Om) k hk hk2 w
 rw[if_neg b0]
 exact AMk t t hms hms Om b0 rfl (λi hi=>by have:=hus i hi;unfold AA at this;omega) k hk hk2 w
theorem LD(t:ByteArray)(k:Nat):(CZ t k).2<=2:=by
 unfold CZ;split
 .exact Nl
 exact(NJ _ 0 (Nat.zero_le _)).2
theorem SR{x:ByteArray}(h:EO x):(AA x 0=48/\AA x 1=120/\3<=x.size)\/(AA x 0=48/\∀c,c=AA x 1->c≠120/\c≠88/\c≠98/\c≠66/\c≠111/\c≠79)\/AA x 0≠48:=by
 rcases h with h|⟨i0,i1,i2,neg,eneg,h⟩
 .exact .inl ⟨h.zero,h.x,h.three⟩
 by_cases h0:AA x 0=48
 .refine .inr (.inl ⟨h0,?_⟩)
  have:=h.sign;have e:i0=0:=Om;have h2:=O5 h;rw[e]at h2;exact h2
 exact .inr (.inr h0)
theorem AGd{x:ByteArray}(h:EO x)(k:Nat)(hk:8<=k)(hk2:k<=64)(w:World)(hE:FN w) :
 Calls Tryz.prog 65 #[.string x,.int .i64 0,.int .i64 k] w λe w'=>∃(n:Int) (v:Value),e=.returned (.tuple #[.int .u64 n,v])/\CQ (decide ((CZ x k).2=0)) v/\Below w.heap.size w w':=by
 obtain⟨hs,h1⟩:=FG h
 refine AEk x hs 0 k w hE _ (LD x k) ?_
 refine(N6 x hs h1 (IL h) (SR h) k hk hk2 w).mono ?_
 rintro e w' ⟨rfl,hb⟩
 exact⟨_,rfl,hb⟩
def K6(x:ByteArray)(k:Nat):Nat:=if AA x 0=43 then BP false k (CZ (x.extract 1 x.size) k) else if AA x 0=45 then BP true k (CZ (x.extract 1 x.size) k) else BP false k (CZ x k)
theorem AF9(b:Bool)(k:Nat)(r:Nat×Nat):BP b k r<=2:=by
 unfold BP
 repeat' split
 all_goals omega
theorem AH4{x:ByteArray}(h:EO x)(k:Nat)(hk:8<=k)(hk2:k<=64)(w:World)(hE:FN w) :
 Calls Tryz.prog 64 #[.string x,.int .i64 0,.int .i64 k] w λe w'=>∃(n:Int) (v:Value),e=.returned (.tuple #[.int .i64 n,v])/\CQ (decide (K6 x k=0)) v/\Below w.heap.size w w':=by
 obtain⟨hs,h1⟩:=FG h
 have hle:K6 x k<=2:=by unfold K6;(repeat' split);all_goals exact AF9 _ _ _
 refine AQk x hs 0 k w hE _ hle ?_
 have hsg:∀(he:AA x 0=43\/AA x 0=45) (W:World),Calls Tryz.prog 98 #[.string (x.extract 1 x.size),.int .i64 0,.int .i64 k] W λe w'=>e=.returned (.tuple #[.int .u64 (CZ (x.extract 1 x.size) k).1,CY (CZ (x.extract 1 x.size) k).2])/\Below W.heap.size W w':=λhe W=>by
  rcases h with h|⟨i0,i1,i2,neg,eneg,h⟩
  .have:=h.zero;omega
  have hsi:=h.sign;have e0:i0=1:=Om;subst e0;have hso:=h.some;have hf:=h.fits;have e1:=AU x 1 Om;refine N6 _ Om Om (λi hi=>?_) ?_ k hk hk2 W
  .rw[BC];exact IL (.inr ⟨_,_,_,_,_,h⟩) _ Om
  by_cases h48:AA x 1=48
  .refine .inr (.inl ⟨by rw[BC];exact h48,λc hc=>?_⟩)
   rw[BC]at hc;exact O5 h c hc
  exact .inr (.inr (by rw[BC];exact h48))
 by_cases h43:AA x 0=43
 .unfold K6;rw[if_pos h43]
  exact RW x _ false hs Om (.inr (.inl ⟨h43,rfl,rfl⟩)) 0 k hk hk2 _ (LD _ k) (hsg (.inl h43)) w
 by_cases h45:AA x 0=45
 .unfold K6;rw[if_neg h43,if_pos h45]
  exact RW x _ true hs Om (.inr (.inr ⟨h45,rfl,rfl⟩)) 0 k hk hk2 _ (LD _ k) (hsg (.inr h45)) w
 unfold K6;rw[if_neg h43,if_neg h45]
 exact RW x x false hs Om (.inl ⟨h43,h45,rfl,rfl⟩) 0 k hk hk2 _ (LD _ k) (λW=>N6 x hs h1 (IL h) (SR h) k hk hk2 W) w
def PF(T F:Nat->Nat)(x:ByteArray)(ok:Bool):Prop:=∀w N,MX T F w N->FN w->Calls Tryz.prog 62 #[.string x,.int .i64 64] w λe w'=>∃(f:Nat) (v:Value),e=.returned (.tuple #[.float .f64 f,v])/\CQ ok v/\Below w.heap.size w w'
theorem ADd(T F:Nat->Nat)(hT8:∀i,T i<18446744073709551616)(hPl:∀i,i<23->GO (F i)=true){x:ByteArray}(h:EO x):∃ok,PF T F x ok:=by
 rcases h with h|⟨i0,i1,i2,neg,eneg,h⟩
 .exact⟨false,λw N _ hE=>AOl x h w hE⟩
 obtain⟨ok,h2⟩:=ANs T F hT8 hPl x i0 i1 i2 neg eneg h;exact⟨ok,h2⟩
theorem D2{T F:Nat->Nat}{w w1:World}{N:Nat}(h:MX T F w N)(hb:Below w.heap.size w w1):MX T F w1 N:=by
 have hc:∀(b o:Nat) (v:Value),w.cell? ⟨b,o,none⟩=some v->w1.cell? ⟨b,o,none⟩=some v:=λb o v hv=>(hb.cell (p:=⟨b,o,none⟩) (World.block_lt_of_cell? w _ hv)).trans hv;refine⟨⟨λi hi=>hc _ _ _ (h.p10.cell i hi),h.p10.small⟩,?_,?_,?_,hc _ _ _ h.opt,h.small,Nat.le_trans h.fits hb.size⟩
 .obtain⟨⟨R,o,cap,h1,h2⟩,h3⟩:=h.f10
  exact⟨⟨R,o,cap,hc _ _ _ h1,λi hi=>hc _ _ _ (h2 i hi)⟩,hc _ _ _ h3⟩
 .obtain⟨⟨R,o,cap,h0,h1,h2,h3⟩,h4,h5,h6⟩:=h.pows
  exact⟨⟨R,o,cap,h0,h1,hc _ _ _ h2,λi hi=>hc _ _ _ (h3 i hi)⟩,hc _ _ _ h4,hc _ _ _ h5,hc _ _ _ h6⟩
 obtain⟨⟨R,o,cap,h0,h1,h2,h3⟩⟩:=h.cheats;exact⟨⟨R,o,cap,h0,h1,hc _ _ _ h2,λk hk=>⟨hc _ _ _ (h3 k hk).1,hc _ _ _ (h3 k hk).2⟩⟩⟩
end Go.Proofs.YtbnbadcnfchdhaaGreatDoor
namespace Go.Proofs.YtbnbadcnfchdhaaGreatDoor
section
open Go.RowKit
open Go.Maps
theorem LJ{H:Type}{P:Program}(w:World){ops:Array Oper}{rest:List Oper}{o:Oper}{a:Act}{Q:Exit->Act->World->Prop}
 (hg:o.guard=none) (m x v:Operand) (t:TypeId) (hop:o.op=Op.insert t m x v)
 (k e:TypeId) (K:Keyed P k) (ht:P.underlying t=some (.map k e)) (R:Value->Option (DataW H×List MemPlace)) (b n:Nat) (D:DataW H)
 (hm:a.eval m=.map (some b)) (hown:w.ownsMap P k R b n D) (hn:n<maxLen) (key val:Value) (kl:Lit) (hx:a.eval x=key) (hv:a.eval v=val) (hkey:keyOf P k key=some kl)
 (d:DataW H) (ps:List MemPlace) (hval:R val=some (d,ps))
 (hK:∀w',w'.ownsMap P k R b (n+1) (D.put kl d)->w.grownBy w' (some b)->wpList P ops Q rest (a.put o.dst undef) w') :
 wpList P ops Q (o::rest) a w:=by
 refine wpList_plain hg λK' hK'=>?_
 obtain⟨w',hrun,r1,r2⟩:=hown.update K ht hn hkey hval
 unfold Oper.wp
 simp[execOp,hop,hm,hx,hv,hrun,Result.andThen]
 exact hK' _ _ (hK w' r1 r2)
theorem ACg(a:Addr)(w:World):(binOp .neq 59 (.iface 182 (.pointer (some a))) .nilIface).run Tryz.prog w=.ok (.bool true) w:=Kr
theorem ACu(w:World):(binOp .neq 59 .nilIface .nilIface).run Tryz.prog w=.ok (.bool false) w:=Kr
theorem AOi:Keyed Tryz.prog 5:=int_keyed Tryz.underlying5
theorem AP4(w:World):(zeroValue 3).run Tryz.prog w=.ok (.int .i64 0) w:=Kr
def M5(c:Int):Int:=if c=116 then 64 else if c=120 then 64 else if c=117 then 32 else if c=105 then 32 else if c=113 then 16 else if c=110 then 16 else if c=121 then 8 else 0
abbrev bD(k v:Int)(D:DataW Unit):DataW Unit:=D.put (.int .u8 k) (.lit (.int .i64 v))
def AQa:DataW Unit:=bD 116 64 (bD 120 64 (bD 117 32 (bD 105 32 (bD 113 16 (bD 110 16 (bD 121 8 (.map [])))))))
theorem IY{k v c r:Int}{D:DataW Unit}(hD:IsMap D)(h:(bD k v D).atKey (.int .u8 c) (.lit (.int .i64 0))=.lit (.int .i64 r)):(c=k/\r=v)\/(c≠k/\D.atKey (.int .u8 c) (.lit (.int .i64 0))=.lit (.int .i64 r)):=by
 by_cases e:c=k
 .subst e
  rw[atKey_put_same hD (by trivial)]at h;injection h with h;injection h with _ h;exact .inl ⟨rfl,h.symm⟩
 rw[atKey_put_other (by intro h2;injection h2 with _ h2;exact e h2)]at h;exact .inr ⟨e,h⟩
theorem AM1{c r:Int}(h:AQa.atKey (.int .u8 c) (.lit (.int .i64 0))=.lit (.int .i64 r)):r=M5 c:=by
 have m0:IsMap (.map []:DataW Unit):=isMap_empty;unfold M5;rcases IY ((((((m0.put _ _).put _ _).put _ _).put _ _).put _ _).put _ _) h with⟨e,h⟩|⟨e,h⟩
 .rw[if_pos e];exact h
 rw[if_neg e];rcases IY (((((m0.put _ _).put _ _).put _ _).put _ _).put _ _) h with⟨e,h⟩|⟨e,h⟩
 .rw[if_pos e];exact h
 rw[if_neg e];rcases IY ((((m0.put _ _).put _ _).put _ _).put _ _) h with⟨e,h⟩|⟨e,h⟩
 .rw[if_pos e];exact h
 rw[if_neg e];rcases IY (((m0.put _ _).put _ _).put _ _) h with⟨e,h⟩|⟨e,h⟩
 .rw[if_pos e];exact h
 rw[if_neg e];rcases IY ((m0.put _ _).put _ _) h with⟨e,h⟩|⟨e,h⟩
 .rw[if_pos e];exact h
 rw[if_neg e];rcases IY (m0.put _ _) h with⟨e,h⟩|⟨e,h⟩
 .rw[if_pos e];exact h
 rw[if_neg e];rcases IY m0 h with⟨e,h⟩|⟨e,h⟩
 .rw[if_pos e];exact h
 rw[if_neg e];injection h with h;injection h with _ h;exact h.symm
def RX(T F:Nat->Nat)(x:ByteArray)(c:Int):Prop:=
 (c=100->PF T F x true)/\(c=110->K6 x 16=0)/\(c=105->K6 x 32=0)/\(c=120->K6 x 64=0)/\
 (c=121->(CZ x 8).2=0)/\(c=113->(CZ x 16).2=0)/\(c=117->(CZ x 32).2=0)/\(c=116->(CZ x 64).2=0)
def UI(P:Prop)(w:World)(en:Ending)(w':World):Prop:=
 ∃(K N:Int) (S:ByteArray) (A:Option Addr) (n c:Nat) (ok:Bool),en=.returned (.tuple #[.agg #[.int .u8 K,.int .u64 N,.string S,.slice A n c],.bool ok])/\(ok=true->P)/\Below w.heap.size w w'
def AAe:Array Value:=#[.int .u8 0,.int .u64 0,.string ⟨#[]⟩,.slice none 0 0]
theorem A5{wx:World}{b:Nat}{v0 v1 v2 v3:Value}{t:TypeId}(h:wx.heap[b]?=some (.cells #[v0,v1,v2,v3] t (0,0))) :
 wx.cell? ⟨b,0,none⟩=some v0/\wx.cell? ⟨b,1,none⟩=some v1/\wx.cell? ⟨b,2,none⟩=some v2/\wx.cell? ⟨b,3,none⟩=some v3:=by
 simp[World.cell?,h]
theorem AM{w W:World}(hb:Below w.heap.size w W){b:Nat}(h:w.heap.size<=b)(v0 v1 v2 v3:Value):Below w.heap.size w ((((W.setCell ⟨b,0,none⟩ v0).setCell ⟨b,1,none⟩ v1).setCell ⟨b,2,none⟩ v2).setCell ⟨b,3,none⟩ v3):=
 (((hb.setCell (p:=⟨b,0,none⟩) h _).setCell (p:=⟨b,1,none⟩) h _).setCell (p:=⟨b,2,none⟩) h _).setCell (p:=⟨b,3,none⟩) h _
theorem VF(T F:Nat->Nat)(hT8:∀i,T i<18446744073709551616)(hPl:∀i,i<23->GO (F i)=true){x:ByteArray}(hx:EO x)(c:Int)(hc0:0<=c)(hc1:c<=255){w:World}{N:Nat}(hT:MX T F w N)(hE:FN w) :
 Calls Tryz.prog 41 #[.string x,.int .u8 c] w (UI (RX T F x c) w):=by
 have hwf:(Lit.int .u8 c).wf=true:=WalkArith.wf_u8 ⟨hc0,hc1⟩
 obtain⟨okf,hpf⟩:=ADd T F hT8 hPl hx
 have HPF:=Hd hpf
 have HTB:=Hd (λ(W:World) (hW:Below w.heap.size w W)=>D2 hT hW)
 have HEB:=Hd (λ(W:World) (hW:Below w.heap.size w W)=>BH hE hW)
 have HIZ:=Hd (λ(W:World) (hW:Below w.heap.size w W) (k:Nat) (hk:8<=k) (hk2:k<=64)=>AH4 hx k hk hk2 W (BH hE hW))
 have HUZ:=Hd (λ(W:World) (hW:Below w.heap.size w W) (k:Nat) (hk:8<=k) (hk2:k<=64)=>AGd hx k hk hk2 W (BH hE hW))
 have HX:=Hd hx
 clear hpf hT hE hx hT8 hPl
 have hmm:=@run_makeMap Tryz.prog
 have htb:=ANo
 have hnp:=ACg
 have hnn:=ACu
 go_enter Tryz.func41,Tryz.ntmps41
 go_upto_region 2 with fail
 have hB:Below w.heap.size w ((w.alloc (.cells AAe 26)).alloc (.cells #[.int .u8 c,.int .u64 0,.string ⟨#[]⟩,.slice none 0 0] 26)):=(Bl.alloc Nl _).alloc Sm _
 have h4:((w.alloc (.cells AAe 26)).alloc (.cells #[.int .u8 c,.int .u64 0,.string ⟨#[]⟩,.slice none 0 0] 26)).heap[w.heap.size]?=some (.cells AAe 26 (0,0)):=(DM _ _ Sm).trans (heap_alloc_new w _)
 have h6:((w.alloc (.cells AAe 26)).alloc (.cells #[.int .u8 c,.int .u64 0,.string ⟨#[]⟩,.slice none 0 0] 26)).heap[w.heap.size+1]?=some (.cells #[.int .u8 c,.int .u64 0,.string ⟨#[]⟩,.slice none 0 0] 26 (0,0)):=by have:=heap_alloc_new (w.alloc (.cells AAe 26)) (.cells #[.int .u8 c,.int .u64 0,.string ⟨#[]⟩,.slice none 0 0] 26);simpa using this
 have hsz:((w.alloc (.cells AAe 26)).alloc (.cells #[.int .u8 c,.int .u64 0,.string ⟨#[]⟩,.slice none 0 0] 26)).heap.size=w.heap.size+2:=by simp
 change Code.wp _ _ _ _ ((w.alloc (.cells AAe 26)).alloc (.cells #[.int .u8 c,.int .u64 0,.string ⟨#[]⟩,.slice none 0 0] 26))
 generalize (w.alloc (.cells AAe 26)).alloc (.cells #[.int .u8 c,.int .u64 0,.string ⟨#[]⟩,.slice none 0 0] 26)=wb at *
 have HB:=Hd hB
 have HSZ:=Hd hsz
 have H4:=Hd h4
 have H6:=Hd h6
 clear hB hsz h4 h6
 go_upto_region 3 with(first
  |(refine LJ _ rfl _ _ _ 100 rfl 5 3 AOi Tryz.underlying100 _ _ _ _ rfl hown (by unfold maxLen;omega) _ _ _ rfl rfl (keyOf_int_mk Tryz.underlying5 De) _ [] (plainElem_int Tryz.underlying3 De) ?_;intro w1 hown1 hgrow1;have hbm1:=hbm.grown hgrow1 hbm.size (λj hj=>by cases hj;exact Nl);clear hgrow1;clear hbm hown;have hbm:=hbm1;have hown:=hown1;clear hbm1 hown1)
  |(refine LJ (H:=Unit) _ rfl _ _ _ 100 rfl 5 3 AOi Tryz.underlying100 (plainElem Tryz.prog 3) _ 0 (.map []) rfl (World.ownsMap_made _ _ _ _) (by unfold maxLen;omega) _ _ _ rfl rfl (keyOf_int_mk Tryz.underlying5 De) _ [] (plainElem_int Tryz.underlying3 De) ?_;intro w1 hown hgrow1;have hbm:Below wb.heap.size wb w1:=(Bl.alloc Nl _).grown hgrow1 Sm (λj hj=>by cases hj;exact Nl);clear hgrow1)
  |(at_lookup;refine wpList_lookup_own_int _ rfl _ _ 100 rfl 5 3 .i64 AOi Tryz.underlying100 Tryz.underlying3 (AP4 _) _ _ _ rfl hown _ _ rfl (keyOf_int_mk Tryz.underlying5 hwf) ?_;intro v hat hwv;have hv:=AM1 hat;clear hat))
 have h4:=(hbm.block w.heap.size (by have:=HSZ.out;omega)).trans H4.out
 have h6:=(hbm.block (w.heap.size+1) (by have:=HSZ.out;omega)).trans H6.out
 have HBM:=Hd (HB.out.trans (hbm.mono (by have:=HSZ.out;omega)))
 have hszm:w.heap.size+2<=w1.heap.size:=by have:=HSZ.out;have:=hbm.size;omega
 have HH4:=Hd h4
 have HH6:=Hd h6
 clear hown hbm hwv hwf hmm H4 H6 HB HSZ h4 h6 hc0 hc1
 have hN:∀P:Prop,Hid P->P:=λ_ h=>h
 clear hN
 by_cases e100:c=100
 .have u100:((c:Int)==100)=true:=by rw[beq_iff_eq];omega
  have HVN:=Hd (show okf=true->RX T F x c from λh=>⟨λ_=>by have h2:=HPF.out;rw[h]at h2;exact h2,Om,Om,Om,Om,Om,Om,Om⟩);clear e100 HIZ HUZ
  cases okf with
  |false=>go_wp2_with (go_at_call 62;refine(HPF.out _ _ (HTB.out _ (by first|exact HBM.out|exact HBM.out.drew)) (HEB.out _ (by first|exact HBM.out|exact HBM.out.drew))).mono ?_;rintro e w2 ⟨f,v,rfl,hne,hb2⟩;obtain⟨a,rfl⟩:∃a,v=.iface 182 (.pointer (some a)):=(by simpa[CQ] using hne);clear hne;have h4:=(hb2.block w.heap.size Om).trans HH4.out;have h6:=(hb2.block (w.heap.size+1) Om).trans HH6.out;obtain⟨z0,z1,z2,z3⟩:=A5 h4;obtain⟨y0,y1,y2,y3⟩:=A5 h6;have f0:=AB h4 0;have f1:=AB h4 1;have f2:=AB h4 2;have f3:=AB h4 3;have g1:=AB h6 1;have hbw:Below w.heap.size w w2:=HBM.out.trans (hb2.mono Om);clear h4 h6 hb2);refine bodyPost_ret (v:=.tuple #[.agg #[.int .u8 0,.int .u64 0,.string ⟨#[]⟩,.slice none 0 0],.bool false]) (by simp[results,Tryz.results41,go_sem,z0,z1,z2,z3]) rfl ?_;exact⟨0,0,⟨#[]⟩,none,0,0,false,rfl,λh=>by simp at h,AM hbw Nl _ _ _ _⟩
  |true=>go_wp2_with (go_at_call 62;refine(HPF.out _ _ (HTB.out _ (by first|exact HBM.out|exact HBM.out.drew)) (HEB.out _ (by first|exact HBM.out|exact HBM.out.drew))).mono ?_;rintro e w2 ⟨f,v,rfl,hne,hb2⟩;obtain rfl:v=.nilIface:=(by simpa[CQ] using hne);clear hne;have h4:=(hb2.block w.heap.size Om).trans HH4.out;have h6:=(hb2.block (w.heap.size+1) Om).trans HH6.out;obtain⟨z0,z1,z2,z3⟩:=A5 h4;obtain⟨y0,y1,y2,y3⟩:=A5 h6;have f0:=AB h4 0;have f1:=AB h4 1;have f2:=AB h4 2;have f3:=AB h4 3;have g1:=AB h6 1;have hbw:Below w.heap.size w w2:=HBM.out.trans (hb2.mono Om);clear h4 h6 hb2);refine bodyPost_ret (v:=.tuple #[.agg #[.int .u8 c,.int .u64 (f:Int),.string ⟨#[]⟩,.slice none 0 0],.bool true]) (by simp[results,Tryz.results41,go_sem,z0,z1,z2,z3]) rfl ?_;exact⟨c,(f:Int),⟨#[]⟩,none,0,0,true,rfl,λ_=>HVN.out (by first|exact trivial|rfl),AM (hbw.setCell (p:=⟨w.heap.size+1,1,none⟩) (Nat.le_succ _) _) Nl _ _ _ _⟩
 by_cases e110:c=110
 .have u100:((c:Int)==100)=false:=Bq
  have u110:((c:Int)==110)=true:=by rw[beq_iff_eq];omega
  have hbits:M5 c=((16:Nat):Int):=by rw[e110];rfl
  rw[hbits];have HVN:=Hd (show K6 x 16=0->RX T F x c from λh=>⟨Om,λ_=>h,Om,Om,Om,Om,Om,Om⟩);have HC:=Hd (λ(W:World) (hW:Below w.heap.size w W)=>HIZ.out W hW 16 Om Om);have HOB:=Hd (λ(h:decide (K6 x 16=0)=true)=>HVN.out (of_decide_eq_true h));clear HVN hbits;generalize decide (K6 x 16=0)=ob at *;clear e100 e110 HIZ HUZ HPF HTB HEB
  cases ob with
  |false=>go_wp2_with (go_at_call 64;refine(HC.out _ (by first|exact HBM.out|exact HBM.out.drew)).mono ?_;rintro e w2 ⟨n,v,rfl,hne,hb2⟩;obtain⟨a,rfl⟩:∃a,v=.iface 182 (.pointer (some a)):=(by simpa[CQ] using hne);clear hne;have h4:=(hb2.block w.heap.size Om).trans HH4.out;have h6:=(hb2.block (w.heap.size+1) Om).trans HH6.out;obtain⟨z0,z1,z2,z3⟩:=A5 h4;obtain⟨y0,y1,y2,y3⟩:=A5 h6;have f0:=AB h4 0;have f1:=AB h4 1;have f2:=AB h4 2;have f3:=AB h4 3;have g1:=AB h6 1;have hbw:Below w.heap.size w w2:=HBM.out.trans (hb2.mono Om);clear h4 h6 hb2);refine bodyPost_ret (v:=.tuple #[.agg #[.int .u8 0,.int .u64 0,.string ⟨#[]⟩,.slice none 0 0],.bool false]) (by simp[results,Tryz.results41,go_sem,z0,z1,z2,z3]) rfl ?_;exact⟨0,0,⟨#[]⟩,none,0,0,false,rfl,λh=>by simp at h,AM hbw Nl _ _ _ _⟩
  |true=>go_wp2_with (go_at_call 64;refine(HC.out _ (by first|exact HBM.out|exact HBM.out.drew)).mono ?_;rintro e w2 ⟨n,v,rfl,hne,hb2⟩;obtain rfl:v=.nilIface:=(by simpa[CQ] using hne);clear hne;have h4:=(hb2.block w.heap.size Om).trans HH4.out;have h6:=(hb2.block (w.heap.size+1) Om).trans HH6.out;obtain⟨z0,z1,z2,z3⟩:=A5 h4;obtain⟨y0,y1,y2,y3⟩:=A5 h6;have f0:=AB h4 0;have f1:=AB h4 1;have f2:=AB h4 2;have f3:=AB h4 3;have g1:=AB h6 1;have hbw:Below w.heap.size w w2:=HBM.out.trans (hb2.mono Om);clear h4 h6 hb2);refine bodyPost_ret (v:=.tuple #[.agg #[.int .u8 c,.int .u64 (IntKind.u64.wrap n),.string ⟨#[]⟩,.slice none 0 0],.bool true]) (by simp[results,Tryz.results41,go_sem,z0,z1,z2,z3]) rfl ?_;exact⟨c,(IntKind.u64.wrap n),⟨#[]⟩,none,0,0,true,rfl,λ_=>HOB.out (by first|exact trivial|rfl),AM (hbw.setCell (p:=⟨w.heap.size+1,1,none⟩) (Nat.le_succ _) _) Nl _ _ _ _⟩
 by_cases e105:c=105
 .have u100:((c:Int)==100)=false:=Bq
  have u110:((c:Int)==110)=false:=Bq;have u105:((c:Int)==105)=true:=by rw[beq_iff_eq];omega
  have hbits:M5 c=((32:Nat):Int):=by rw[e105];rfl
  rw[hbits];have HVN:=Hd (show K6 x 32=0->RX T F x c from λh=>⟨Om,Om,λ_=>h,Om,Om,Om,Om,Om⟩);have HC:=Hd (λ(W:World) (hW:Below w.heap.size w W)=>HIZ.out W hW 32 Om Om);have HOB:=Hd (λ(h:decide (K6 x 32=0)=true)=>HVN.out (of_decide_eq_true h));clear HVN hbits;generalize decide (K6 x 32=0)=ob at *;clear e100 e110 e105 HIZ HUZ HPF HTB HEB
  cases ob with
  |false=>go_wp2_with (go_at_call 64;refine(HC.out _ (by first|exact HBM.out|exact HBM.out.drew)).mono ?_;rintro e w2 ⟨n,v,rfl,hne,hb2⟩;obtain⟨a,rfl⟩:∃a,v=.iface 182 (.pointer (some a)):=(by simpa[CQ] using hne);clear hne;have h4:=(hb2.block w.heap.size Om).trans HH4.out;have h6:=(hb2.block (w.heap.size+1) Om).trans HH6.out;obtain⟨z0,z1,z2,z3⟩:=A5 h4;obtain⟨y0,y1,y2,y3⟩:=A5 h6;have f0:=AB h4 0;have f1:=AB h4 1;have f2:=AB h4 2;have f3:=AB h4 3;have g1:=AB h6 1;have hbw:Below w.heap.size w w2:=HBM.out.trans (hb2.mono Om);clear h4 h6 hb2);refine bodyPost_ret (v:=.tuple #[.agg #[.int .u8 0,.int .u64 0,.string ⟨#[]⟩,.slice none 0 0],.bool false]) (by simp[results,Tryz.results41,go_sem,z0,z1,z2,z3]) rfl ?_;exact⟨0,0,⟨#[]⟩,none,0,0,false,rfl,λh=>by simp at h,AM hbw Nl _ _ _ _⟩
  |true=>go_wp2_with (go_at_call 64;refine(HC.out _ (by first|exact HBM.out|exact HBM.out.drew)).mono ?_;rintro e w2 ⟨n,v,rfl,hne,hb2⟩;obtain rfl:v=.nilIface:=(by simpa[CQ] using hne);clear hne;have h4:=(hb2.block w.heap.size Om).trans HH4.out;have h6:=(hb2.block (w.heap.size+1) Om).trans HH6.out;obtain⟨z0,z1,z2,z3⟩:=A5 h4;obtain⟨y0,y1,y2,y3⟩:=A5 h6;have f0:=AB h4 0;have f1:=AB h4 1;have f2:=AB h4 2;have f3:=AB h4 3;have g1:=AB h6 1;have hbw:Below w.heap.size w w2:=HBM.out.trans (hb2.mono Om);clear h4 h6 hb2);refine bodyPost_ret (v:=.tuple #[.agg #[.int .u8 c,.int .u64 (IntKind.u64.wrap n),.string ⟨#[]⟩,.slice none 0 0],.bool true]) (by simp[results,Tryz.results41,go_sem,z0,z1,z2,z3]) rfl ?_;exact⟨c,(IntKind.u64.wrap n),⟨#[]⟩,none,0,0,true,rfl,λ_=>HOB.out (by first|exact trivial|rfl),AM (hbw.setCell (p:=⟨w.heap.size+1,1,none⟩) (Nat.le_succ _) _) Nl _ _ _ _⟩
 by_cases e120:c=120
 .have u100:((c:Int)==100)=false:=Bq
  have u110:((c:Int)==110)=false:=Bq;have u105:((c:Int)==105)=false:=Bq;have u120:((c:Int)==120)=true:=by rw[beq_iff_eq];omega
  have hbits:M5 c=((64:Nat):Int):=by rw[e120];rfl
  rw[hbits];have HVN:=Hd (show K6 x 64=0->RX T F x c from λh=>⟨Om,Om,Om,λ_=>h,Om,Om,Om,Om⟩);have HC:=Hd (λ(W:World) (hW:Below w.heap.size w W)=>HIZ.out W hW 64 Om Om);have HOB:=Hd (λ(h:decide (K6 x 64=0)=true)=>HVN.out (of_decide_eq_true h));clear HVN hbits;generalize decide (K6 x 64=0)=ob at *;clear e100 e110 e105 e120 HIZ HUZ HPF HTB HEB
  cases ob with
  |false=>go_wp2_with (go_at_call 64;refine(HC.out _ (by first|exact HBM.out|exact HBM.out.drew)).mono ?_;rintro e w2 ⟨n,v,rfl,hne,hb2⟩;obtain⟨a,rfl⟩:∃a,v=.iface 182 (.pointer (some a)):=(by simpa[CQ] using hne);clear hne;have h4:=(hb2.block w.heap.size Om).trans HH4.out;have h6:=(hb2.block (w.heap.size+1) Om).trans HH6.out;obtain⟨z0,z1,z2,z3⟩:=A5 h4;obtain⟨y0,y1,y2,y3⟩:=A5 h6;have f0:=AB h4 0;have f1:=AB h4 1;have f2:=AB h4 2;have f3:=AB h4 3;have g1:=AB h6 1;have hbw:Below w.heap.size w w2:=HBM.out.trans (hb2.mono Om);clear h4 h6 hb2);refine bodyPost_ret (v:=.tuple #[.agg #[.int .u8 0,.int .u64 0,.string ⟨#[]⟩,.slice none 0 0],.bool false]) (by simp[results,Tryz.results41,go_sem,z0,z1,z2,z3]) rfl ?_;exact⟨0,0,⟨#[]⟩,none,0,0,false,rfl,λh=>by simp at h,AM hbw Nl _ _ _ _⟩
  |true=>go_wp2_with (go_at_call 64;refine(HC.out _ (by first|exact HBM.out|exact HBM.out.drew)).mono ?_;rintro e w2 ⟨n,v,rfl,hne,hb2⟩;obtain rfl:v=.nilIface:=(by simpa[CQ] using hne);clear hne;have h4:=(hb2.block w.heap.size Om).trans HH4.out;have h6:=(hb2.block (w.heap.size+1) Om).trans HH6.out;obtain⟨z0,z1,z2,z3⟩:=A5 h4;obtain⟨y0,y1,y2,y3⟩:=A5 h6;have f0:=AB h4 0;have f1:=AB h4 1;have f2:=AB h4 2;have f3:=AB h4 3;have g1:=AB h6 1;have hbw:Below w.heap.size w w2:=HBM.out.trans (hb2.mono Om);clear h4 h6 hb2);refine bodyPost_ret (v:=.tuple #[.agg #[.int .u8 c,.int .u64 (IntKind.u64.wrap n),.string ⟨#[]⟩,.slice none 0 0],.bool true]) (by simp[results,Tryz.results41,go_sem,z0,z1,z2,z3]) rfl ?_;exact⟨c,(IntKind.u64.wrap n),⟨#[]⟩,none,0,0,true,rfl,λ_=>HOB.out (by first|exact trivial|rfl),AM (hbw.setCell (p:=⟨w.heap.size+1,1,none⟩) (Nat.le_succ _) _) Nl _ _ _ _⟩
 by_cases e121:c=121
 .have u100:((c:Int)==100)=false:=Bq
  have u110:((c:Int)==110)=false:=Bq;have u105:((c:Int)==105)=false:=Bq;have u120:((c:Int)==120)=false:=Bq;have u121:((c:Int)==121)=true:=by rw[beq_iff_eq];omega
  have hbits:M5 c=((8:Nat):Int):=by rw[e121];rfl
  rw[hbits];have HVN:=Hd (show (CZ x 8).2=0->RX T F x c from λh=>⟨Om,Om,Om,Om,λ_=>h,Om,Om,Om⟩);have HC:=Hd (λ(W:World) (hW:Below w.heap.size w W)=>HUZ.out W hW 8 Om Om);have HOB:=Hd (λ(h:decide ((CZ x 8).2=0)=true)=>HVN.out (of_decide_eq_true h));clear HVN hbits;generalize decide ((CZ x 8).2=0)=ob at *;clear e100 e110 e105 e120 e121 HIZ HUZ HPF HTB HEB
  cases ob with
  |false=>go_wp2_with (go_at_call 65;refine(HC.out _ (by first|exact HBM.out|exact HBM.out.drew)).mono ?_;rintro e w2 ⟨n,v,rfl,hne,hb2⟩;obtain⟨a,rfl⟩:∃a,v=.iface 182 (.pointer (some a)):=(by simpa[CQ] using hne);clear hne;have h4:=(hb2.block w.heap.size Om).trans HH4.out;have h6:=(hb2.block (w.heap.size+1) Om).trans HH6.out;obtain⟨z0,z1,z2,z3⟩:=A5 h4;obtain⟨y0,y1,y2,y3⟩:=A5 h6;have f0:=AB h4 0;have f1:=AB h4 1;have f2:=AB h4 2;have f3:=AB h4 3;have g1:=AB h6 1;have hbw:Below w.heap.size w w2:=HBM.out.trans (hb2.mono Om);clear h4 h6 hb2);refine bodyPost_ret (v:=.tuple #[.agg #[.int .u8 0,.int .u64 0,.string ⟨#[]⟩,.slice none 0 0],.bool false]) (by simp[results,Tryz.results41,go_sem,z0,z1,z2,z3]) rfl ?_;exact⟨0,0,⟨#[]⟩,none,0,0,false,rfl,λh=>by simp at h,AM hbw Nl _ _ _ _⟩
  |true=>go_wp2_with (go_at_call 65;refine(HC.out _ (by first|exact HBM.out|exact HBM.out.drew)).mono ?_;rintro e w2 ⟨n,v,rfl,hne,hb2⟩;obtain rfl:v=.nilIface:=(by simpa[CQ] using hne);clear hne;have h4:=(hb2.block w.heap.size Om).trans HH4.out;have h6:=(hb2.block (w.heap.size+1) Om).trans HH6.out;obtain⟨z0,z1,z2,z3⟩:=A5 h4;obtain⟨y0,y1,y2,y3⟩:=A5 h6;have f0:=AB h4 0;have f1:=AB h4 1;have f2:=AB h4 2;have f3:=AB h4 3;have g1:=AB h6 1;have hbw:Below w.heap.size w w2:=HBM.out.trans (hb2.mono Om);clear h4 h6 hb2);refine bodyPost_ret (v:=.tuple #[.agg #[.int .u8 c,.int .u64 n,.string ⟨#[]⟩,.slice none 0 0],.bool true]) (by simp[results,Tryz.results41,go_sem,z0,z1,z2,z3]) rfl ?_;exact⟨c,n,⟨#[]⟩,none,0,0,true,rfl,λ_=>HOB.out (by first|exact trivial|rfl),AM (hbw.setCell (p:=⟨w.heap.size+1,1,none⟩) (Nat.le_succ _) _) Nl _ _ _ _⟩
 by_cases e113:c=113
 .have u100:((c:Int)==100)=false:=Bq
  have u110:((c:Int)==110)=false:=Bq;have u105:((c:Int)==105)=false:=Bq;have u120:((c:Int)==120)=false:=Bq;have u121:((c:Int)==121)=false:=Bq;have u113:((c:Int)==113)=true:=by rw[beq_iff_eq];omega
  have hbits:M5 c=((16:Nat):Int):=by rw[e113];rfl
  rw[hbits];have HVN:=Hd (show (CZ x 16).2=0->RX T F x c from λh=>⟨Om,Om,Om,Om,Om,λ_=>h,Om,Om⟩);have HC:=Hd (λ(W:World) (hW:Below w.heap.size w W)=>HUZ.out W hW 16 Om Om);have HOB:=Hd (λ(h:decide ((CZ x 16).2=0)=true)=>HVN.out (of_decide_eq_true h));clear HVN hbits;generalize decide ((CZ x 16).2=0)=ob at *;clear e100 e110 e105 e120 e121 e113 HIZ HUZ HPF HTB HEB
  cases ob with
  |false=>go_wp2_with (go_at_call 65;refine(HC.out _ (by first|exact HBM.out|exact HBM.out.drew)).mono ?_;rintro e w2 ⟨n,v,rfl,hne,hb2⟩;obtain⟨a,rfl⟩:∃a,v=.iface 182 (.pointer (some a)):=(by simpa[CQ] using hne);clear hne;have h4:=(hb2.block w.heap.size Om).trans HH4.out;have h6:=(hb2.block (w.heap.size+1) Om).trans HH6.out;obtain⟨z0,z1,z2,z3⟩:=A5 h4;obtain⟨y0,y1,y2,y3⟩:=A5 h6;have f0:=AB h4 0;have f1:=AB h4 1;have f2:=AB h4 2;have f3:=AB h4 3;have g1:=AB h6 1;have hbw:Below w.heap.size w w2:=HBM.out.trans (hb2.mono Om);clear h4 h6 hb2);refine bodyPost_ret (v:=.tuple #[.agg #[.int .u8 0,.int .u64 0,.string ⟨#[]⟩,.slice none 0 0],.bool false]) (by simp[results,Tryz.results41,go_sem,z0,z1,z2,z3]) rfl ?_;exact⟨0,0,⟨#[]⟩,none,0,0,false,rfl,λh=>by simp at h,AM hbw Nl _ _ _ _⟩
  |true=>go_wp2_with (go_at_call 65;refine(HC.out _ (by first|exact HBM.out|exact HBM.out.drew)).mono ?_;rintro e w2 ⟨n,v,rfl,hne,hb2⟩;obtain rfl:v=.nilIface:=(by simpa[CQ] using hne);clear hne;have h4:=(hb2.block w.heap.size Om).trans HH4.out;have h6:=(hb2.block (w.heap.size+1) Om).trans HH6.out;obtain⟨z0,z1,z2,z3⟩:=A5 h4;obtain⟨y0,y1,y2,y3⟩:=A5 h6;have f0:=AB h4 0;have f1:=AB h4 1;have f2:=AB h4 2;have f3:=AB h4 3;have g1:=AB h6 1;have hbw:Below w.heap.size w w2:=HBM.out.trans (hb2.mono Om);clear h4 h6 hb2);refine bodyPost_ret (v:=.tuple #[.agg #[.int .u8 c,.int .u64 n,.string ⟨#[]⟩,.slice none 0 0],.bool true]) (by simp[results,Tryz.results41,go_sem,z0,z1,z2,z3]) rfl ?_;exact⟨c,n,⟨#[]⟩,none,0,0,true,rfl,λ_=>HOB.out (by first|exact trivial|rfl),AM (hbw.setCell (p:=⟨w.heap.size+1,1,none⟩) (Nat.le_succ _) _) Nl _ _ _ _⟩
 by_cases e117:c=117
 .have u100:((c:Int)==100)=false:=Bq
  have u110:((c:Int)==110)=false:=Bq;have u105:((c:Int)==105)=false:=Bq;have u120:((c:Int)==120)=false:=Bq;have u121:((c:Int)==121)=false:=Bq;have u113:((c:Int)==113)=false:=Bq;have u117:((c:Int)==117)=true:=by rw[beq_iff_eq];omega
  have hbits:M5 c=((32:Nat):Int):=by rw[e117];rfl
  rw[hbits];have HVN:=Hd (show (CZ x 32).2=0->RX T F x c from λh=>⟨Om,Om,Om,Om,Om,Om,λ_=>h,Om⟩);have HC:=Hd (λ(W:World) (hW:Below w.heap.size w W)=>HUZ.out W hW 32 Om Om);have HOB:=Hd (λ(h:decide ((CZ x 32).2=0)=true)=>HVN.out (of_decide_eq_true h));clear HVN hbits;generalize decide ((CZ x 32).2=0)=ob at *;clear e100 e110 e105 e120 e121 e113 e117 HIZ HUZ HPF HTB HEB
  cases ob with
  |false=>go_wp2_with (go_at_call 65;refine(HC.out _ (by first|exact HBM.out|exact HBM.out.drew)).mono ?_;rintro e w2 ⟨n,v,rfl,hne,hb2⟩;obtain⟨a,rfl⟩:∃a,v=.iface 182 (.pointer (some a)):=(by simpa[CQ] using hne);clear hne;have h4:=(hb2.block w.heap.size Om).trans HH4.out;have h6:=(hb2.block (w.heap.size+1) Om).trans HH6.out;obtain⟨z0,z1,z2,z3⟩:=A5 h4;obtain⟨y0,y1,y2,y3⟩:=A5 h6;have f0:=AB h4 0;have f1:=AB h4 1;have f2:=AB h4 2;have f3:=AB h4 3;have g1:=AB h6 1;have hbw:Below w.heap.size w w2:=HBM.out.trans (hb2.mono Om);clear h4 h6 hb2);refine bodyPost_ret (v:=.tuple #[.agg #[.int .u8 0,.int .u64 0,.string ⟨#[]⟩,.slice none 0 0],.bool false]) (by simp[results,Tryz.results41,go_sem,z0,z1,z2,z3]) rfl ?_;exact⟨0,0,⟨#[]⟩,none,0,0,false,rfl,λh=>by simp at h,AM hbw Nl _ _ _ _⟩
  |true=>go_wp2_with (go_at_call 65;refine(HC.out _ (by first|exact HBM.out|exact HBM.out.drew)).mono ?_;rintro e w2 ⟨n,v,rfl,hne,hb2⟩;obtain rfl:v=.nilIface:=(by simpa[CQ] using hne);clear hne;have h4:=(hb2.block w.heap.size Om).trans HH4.out;have h6:=(hb2.block (w.heap.size+1) Om).trans HH6.out;obtain⟨z0,z1,z2,z3⟩:=A5 h4;obtain⟨y0,y1,y2,y3⟩:=A5 h6;have f0:=AB h4 0;have f1:=AB h4 1;have f2:=AB h4 2;have f3:=AB h4 3;have g1:=AB h6 1;have hbw:Below w.heap.size w w2:=HBM.out.trans (hb2.mono Om);clear h4 h6 hb2);refine bodyPost_ret (v:=.tuple #[.agg #[.int .u8 c,.int .u64 n,.string ⟨#[]⟩,.slice none 0 0],.bool true]) (by simp[results,Tryz.results41,go_sem,z0,z1,z2,z3]) rfl ?_;exact⟨c,n,⟨#[]⟩,none,0,0,true,rfl,λ_=>HOB.out (by first|exact trivial|rfl),AM (hbw.setCell (p:=⟨w.heap.size+1,1,none⟩) (Nat.le_succ _) _) Nl _ _ _ _⟩
 by_cases e116:c=116
 .have u100:((c:Int)==100)=false:=Bq
  have u110:((c:Int)==110)=false:=Bq;have u105:((c:Int)==105)=false:=Bq;have u120:((c:Int)==120)=false:=Bq;have u121:((c:Int)==121)=false:=Bq;have u113:((c:Int)==113)=false:=Bq;have u117:((c:Int)==117)=false:=Bq;have u116:((c:Int)==116)=true:=by rw[beq_iff_eq];omega
  have hbits:M5 c=((64:Nat):Int):=by rw[e116];rfl
  rw[hbits];have HVN:=Hd (show (CZ x 64).2=0->RX T F x c from λh=>⟨Om,Om,Om,Om,Om,Om,Om,λ_=>h⟩);have HC:=Hd (λ(W:World) (hW:Below w.heap.size w W)=>HUZ.out W hW 64 Om Om);have HOB:=Hd (λ(h:decide ((CZ x 64).2=0)=true)=>HVN.out (of_decide_eq_true h));clear HVN hbits;generalize decide ((CZ x 64).2=0)=ob at *;clear e100 e110 e105 e120 e121 e113 e117 e116 HIZ HUZ HPF HTB HEB
  cases ob with
  |false=>go_wp2_with (go_at_call 65;refine(HC.out _ (by first|exact HBM.out|exact HBM.out.drew)).mono ?_;rintro e w2 ⟨n,v,rfl,hne,hb2⟩;obtain⟨a,rfl⟩:∃a,v=.iface 182 (.pointer (some a)):=(by simpa[CQ] using hne);clear hne;have h4:=(hb2.block w.heap.size Om).trans HH4.out;have h6:=(hb2.block (w.heap.size+1) Om).trans HH6.out;obtain⟨z0,z1,z2,z3⟩:=A5 h4;obtain⟨y0,y1,y2,y3⟩:=A5 h6;have f0:=AB h4 0;have f1:=AB h4 1;have f2:=AB h4 2;have f3:=AB h4 3;have g1:=AB h6 1;have hbw:Below w.heap.size w w2:=HBM.out.trans (hb2.mono Om);clear h4 h6 hb2);refine bodyPost_ret (v:=.tuple #[.agg #[.int .u8 0,.int .u64 0,.string ⟨#[]⟩,.slice none 0 0],.bool false]) (by simp[results,Tryz.results41,go_sem,z0,z1,z2,z3]) rfl ?_;exact⟨0,0,⟨#[]⟩,none,0,0,false,rfl,λh=>by simp at h,AM hbw Nl _ _ _ _⟩
  |true=>go_wp2_with (go_at_call 65;refine(HC.out _ (by first|exact HBM.out|exact HBM.out.drew)).mono ?_;rintro e w2 ⟨n,v,rfl,hne,hb2⟩;obtain rfl:v=.nilIface:=(by simpa[CQ] using hne);clear hne;have h4:=(hb2.block w.heap.size Om).trans HH4.out;have h6:=(hb2.block (w.heap.size+1) Om).trans HH6.out;obtain⟨z0,z1,z2,z3⟩:=A5 h4;obtain⟨y0,y1,y2,y3⟩:=A5 h6;have f0:=AB h4 0;have f1:=AB h4 1;have f2:=AB h4 2;have f3:=AB h4 3;have g1:=AB h6 1;have hbw:Below w.heap.size w w2:=HBM.out.trans (hb2.mono Om);clear h4 h6 hb2);refine bodyPost_ret (v:=.tuple #[.agg #[.int .u8 c,.int .u64 n,.string ⟨#[]⟩,.slice none 0 0],.bool true]) (by simp[results,Tryz.results41,go_sem,z0,z1,z2,z3]) rfl ?_;exact⟨c,n,⟨#[]⟩,none,0,0,true,rfl,λ_=>HOB.out (by first|exact trivial|rfl),AM (hbw.setCell (p:=⟨w.heap.size+1,1,none⟩) (Nat.le_succ _) _) Nl _ _ _ _⟩
 have u100:((c:Int)==100)=false:=Bq
 have u110:((c:Int)==110)=false:=Bq
 have u105:((c:Int)==105)=false:=Bq
 have u120:((c:Int)==120)=false:=Bq
 have u121:((c:Int)==121)=false:=Bq
 have u113:((c:Int)==113)=false:=Bq
 have u117:((c:Int)==117)=false:=Bq
 have u116:((c:Int)==116)=false:=Bq
 clear e100 e110 e105 e120 e121 e113 e117 e116
 have h4:=HH4.out
 obtain⟨z0,z1,z2,z3⟩:=A5 h4
 have f0:=AB h4 0
 have f1:=AB h4 1
 have f2:=AB h4 2
 have f3:=AB h4 3
 clear h4
 go_wp2_with fail
 refine bodyPost_ret (v:=.tuple #[.agg #[.int .u8 0,.int .u64 0,.string ⟨#[]⟩,.slice none 0 0],.bool false]) (by simp[results,Tryz.results41,go_sem,z0,z1,z2,z3]) rfl ?_
 exact⟨0,0,⟨#[]⟩,none,0,0,false,rfl,λh=>by simp at h,AM HBM.out Nl _ _ _ _⟩
end
end Go.Proofs.YtbnbadcnfchdhaaGreatDoor
