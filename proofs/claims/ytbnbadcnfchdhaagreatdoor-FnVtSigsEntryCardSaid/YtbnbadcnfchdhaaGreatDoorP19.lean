/- Lemmas for FnVtSigsEntry; no conditions. -/
import Derived.Test.YtbnbadcnfchdhaaGreatDoorP18
set_option maxRecDepth 100000
set_option maxHeartbeats 16000000
set_option linter.all false
namespace Go.Proofs.YtbnbadcnfchdhaaGreatDoor
open Go.RowKit
def AIf(P:ByteArray->Prop)(w:World)(en:Ending)(w':World):Prop:=
 ∃(z:ByteArray) (ok said:Bool),en=.returned (.tuple #[.string z,.bool ok,.bool said])/\P z/\Below w.heap.size w w'
def ALp(N:Nat):Prop:=∀(p:Ph),p.sz<=N->p.sz<=5000->p.dd<=2->p.good->∀(w:World) (k:Nat) (x:ByteArray) (A:Option Addr) (n c:Nat) (b:Bool) (t:ByteArray),PhAt w (λ_=>True) (NX k x A n c b t) p->
 Calls Tryz.prog 25 #[.agg #[.int .i64 k,.string x,.slice A n c,.bool b,.string t]] w (AIf (λz=>z.size<=Lm p.sz p.dd) w)
theorem TJ{N:Nat}(ih:ALp N){w:World}{A:Option Addr}{n c:Nat}{kids:List Ph}{rows:Nat->List Value}(hsz:K8 kids<=N)(h5:K8 kids<=5000)(hdd:H8 kids<=2)(hg:FB kids)(hn:n=kids.length)
 (hrow:w.ownsRow 0 37 5 (.slice A n c) n ((List.range n).flatMap rows)) (hkid:∀(i:Nat) (h:i<kids.length),PhAt w (λ_=>True) (rows i) kids[i]) :
 Calls Tryz.prog 39 #[.slice A n c] w (AIf (λz=>z.size=0\/∃h:0<kids.length,z.size<=Lm kids[0].sz kids[0].dd) w):=by
 have hn5:n<=5000:=by have:=GP kids;omega
 have HCOM:=Hd (λ(W:World) (hW:Below w.heap.size w W)=>QO (OS _) Nl h5 hdd hg hn (AD hrow hW) (λi h=>(hkid i h).keep hW) 0 1 Om Om Om)
 have HN:=Hd hn
 have HRow:=Hd hrow
 have HK:=Hd hkid
 have HIH:=Hd ih
 have HS:=Hd hsz
 have HS5:=Hd h5
 have HDD:=Hd hdd
 have HG:=Hd hg
 clear hn hrow hkid ih hsz h5 hdd hg
 go_enter Tryz.func39,Tryz.ntmps39
 go_upto_region 2 with(go_at_call 61;refine(HCOM.out _ (by first|exact Bl|exact Bl.drew)).mono ?_;rintro e w2 ⟨A2,n2,c2,ys,rfl,hn2,hp2,hown2,hb2⟩;have HN2:=Hd hn2;have HP2:=Hd hp2;have HOW2:=Hd hown2;clear hn2 hp2 hown2)
 have hbs2:=hb2.size
 have hn4:n2<=4096:=by have:=HN2.out;have:=HP2.out.1;have:=(L5 HDD.out).2;omega
 by_cases h0:n2=0
 .have q0:((n2:Int)==0)=true:=by rw[beq_iff_eq];omega
  clear h0;go_wp2_with fail;go_ret3;exact⟨_,_,_,rfl,.inl rfl,hb2⟩
 have q0:((n2:Int)==0)=false:=Bq
 obtain⟨A',c',he,hA⟩:=AF HOW2.out
 simp only[Value.slice.injEq]at he
 obtain⟨rfl,_,rfl⟩:=he
 obtain⟨g,rfl,hgl⟩:=hA Om
 have hit:0<ys.length:=by have:=HN2.out;omega
 have c0:w2.cell? ⟨g,0,none⟩=some (.string ys[0]):=by rw[AV HOW2.out g _ rfl _ Om];simp[AQ,hit]
 have HY:=Hd (HP2.out.2 _ (List.getElem_mem hit))
 have hk0:0<kids.length:=HY.out.1
 clear hA
 generalize ys[0]=y at *
 by_cases h1:n2=1
 .have q1:((n2:Int)==1)=true:=by rw[beq_iff_eq];omega
  have hi0:(0:Int)<(n2:Int):=Om;clear h1 h0;go_wp2_with fail;go_ret3;exact⟨_,_,_,rfl,.inr HY.out,hb2⟩
 have q1:((n2:Int)==1)=false:=Bq
 clear h1 h0 c0
 have hrow1:=AD HRow.out hb2
 obtain⟨A',c',he,hA⟩:=AF hrow1
 simp only[Value.slice.injEq]at he
 obtain⟨rfl,_,rfl⟩:=he
 obtain⟨g1,rfl,hg1⟩:=hA (by have:=HN.out;omega)
 obtain⟨k1,x1,A1,n1,cc1,b1,t1,hat1,c0,c1,c2,c3,c4⟩:=PhAt.kid HN.out hrow1 (λi h=>(HK.out i h).keep hb2) 0 hk0
 have hsz1:=CW kids 0 hk0
 have hdd1:=DF kids 0 hk0
 have hi0:(0:Int)<(n:Int):=by have:=HN.out;omega
 have HC:=Hd (λ(W:World) (hW:Below w2.heap.size w2 W)=>HIH.out kids[0] (by have:=HS.out;omega) (by have:=HS5.out;omega) (by have:=HDD.out;omega) (BD kids 0 hk0 HG.out) W k1 x1 A1 n1 cc1 b1 t1 (hat1.keep hW))
 have HL7:=Hd (show Lm kids[0].sz kids[0].dd<=70000 from SY (by have:=HS5.out;omega) (by have:=HDD.out;omega))
 clear hrow1 hat1 hA hsz1 hdd1
 simp only[Nat.zero_mul,Nat.zero_add]at c0 c1 c2 c3 c4
 go_upto_region 7 with(go_at_call 25;refine(HC.out _ (by first|exact Bl|exact Bl.drew)).mono ?_;rintro e w3 ⟨z,ok,said,rfl,hz,hb3⟩;have HZ:=Hd hz;clear hz)
 have hbs3:=hb3.size
 have hb4:Below w.heap.size w w3:=hb2.trans (hb3.mono Om)
 cases ok with
 |false=>
  go_wp2_with fail
  go_ret3
  exact⟨_,_,_,rfl,.inr ⟨hk0,HZ.out⟩,hb4⟩
 |true=>
  cases said with
  |false=>
   go_wp2_with fail
   go_ret3
   exact⟨_,_,_,rfl,.inr ⟨hk0,HZ.out⟩,hb4⟩
  |true=>
   have HR3:=Hd (AD (BF HOW2.out (Nat.zero_le _)) (by first|exact hb3|exact hb3))
   go_wp2_with (go_at_call 40;refine(MU (xs:=ys) (ys:=[z]) HN2.out rfl Om Sm (AD HR3.out (by first|exact Bl.alloc Nl _|exact(Bl.alloc Nl _).drew|exact(Bl.drew).alloc Nl _)) (UA [z] _ rfl (Nat.zero_le _) Sm)).mono ?_;rintro e w5 ⟨A3,n3,c3,us,rfl,hle3,hn3,hsub3,hown3,hb5⟩;have HN3:=Hd hn3;clear hn3 hle3 hsub3 hown3)
   go_ret3
   exact⟨_,_,_,rfl,.inr ⟨hk0,HZ.out⟩,(hb4.alloc Om _).trans (hb5.mono (by simp;omega))⟩
theorem AJp(N:Nat)(ih:ALp N):ALp (N+1):=by
 intro p hp hp5 hpd hgood w k x A n c b t hat;have HAT:=Hd (λ(W:World) (hW:Below w.heap.size w W)=>hat.keep hW);have HPN:=Hd hp;have HP5:=Hd hp5;have HPD:=Hd hpd;have HGOOD:=Hd hgood
 cases hat with
 |mk k x A n c kids ty rows hn hrow hP hA hkid=>
 have hsz:K8 kids<=N:=by simp[Ph.sz]at hp;omega
 have hs5:K8 kids<=5000:=by simp[Ph.sz]at hp5;omega
 have hddk:H8 kids<=2:=by simp only[Ph.dd]at hpd;omega
 have hgk:FB kids:=by simp only[Ph.good]at hgood;exact hgood.2.2
 have hn63:n<=5000:=by have:=GP kids;omega
 have HTY:=Hd (show ∀u,ty=some u->u.size<=255/\IP u from λu hu=>by simp only[Ph.good]at hgood;exact hgood.2.1 u hu);have HN:=Hd hn;have HA:=Hd hA;have HRow:=Hd hrow;have HK:=Hd hkid;have HIH:=Hd ih;have HS:=Hd hsz;have HS5:=Hd hs5;have HDD:=Hd hddk;have HG:=Hd hgk;clear hp hp5 hpd hgood hP hn hrow hA hkid ih hsz hs5 hddk hgk;generalize hb:ty.isSome=b at *;generalize ht:ZV ty=t at *;have HBT:=Hd (show b=true->ty=some t by
  intro h;rw[h]at hb;cases ty with
  |none=>simp at hb
  |some y=>simp[ZV]at ht;rw[ht])
 have HBF:=Hd (show b=false->ty=none by
  intro h;rw[h]at hb;cases ty with
  |none=>rfl
  |some y=>simp at hb)
 clear hb ht;have HFIT:=Hd (λ(W:World) (hW:Below w.heap.size w W) (sig:ByteArray) (hs:sig.size<=100000)=>NH _ _ Nl W k x A n c b t sig (M4 _ HGOOD.out) hs (HAT.out W hW));have HTYC:=Hd (λ(W:World) (hW:Below w.heap.size w W)=>OS _ _ Nl HP5.out HPD.out HGOOD.out W k x A n c b t (HAT.out W hW));have HDOF:=Hd (λ(W:World) (hW:Below w.heap.size w W)=>TJ HIH.out HS.out HS5.out HDD.out HG.out HN.out (AD HRow.out hW) (λi h=>(HK.out i h).keep hW));have HLP:=Hd (ADn (Ph.mk k x kids ty).sz (Ph.mk k x kids ty).dd);have HL7:=Hd (SY HP5.out HPD.out);have HLA:=Hd (show ∀h:0<kids.length,k=5->1+Lm kids[0].sz kids[0].dd<=Lm (Ph.mk k x kids ty).sz (Ph.mk k x kids ty).dd from λh hk=>by have h3:=CW kids 0 h;have h4:=DF kids 0 h;subst hk;exact AHo (show kids[0].sz<(Ph.mk 5 x kids ty).sz by simp only[Ph.sz];omega) (show kids[0].dd<=(Ph.mk 5 x kids ty).dd by simp[Ph.dd];omega))
 have HLD:=Hd (show ∀h:1<kids.length,¬(k=2\/k=3\/k=4\/k=14\/k=9\/k=5)->3+Lm kids[0].sz kids[0].dd+Lm kids[1].sz kids[1].dd<=Lm (Ph.mk k x kids ty).sz (Ph.mk k x kids ty).dd from λh hk=>by
  have hd:(Ph.mk k x kids ty).dd=H8 kids+1:=by simp only[Ph.dd];rw[if_neg Om];omega
  have h3:=CW kids 0 Om;have h4:=DF kids 0 Om;have h5:=CW kids 1 h;have h6:=DF kids 1 h;exact AEc (by simp only[Ph.sz];omega) (by simp only[Ph.sz];omega) (by rw[hd];omega) (by rw[hd];omega))
 have HTP1:=Hd (show ∀zs,tyP (.mk k x kids ty) zs->∀z,z∈zs->z.size<=Lm (Ph.mk k x kids ty).sz (Ph.mk k x kids ty).dd from λzs h=>h.2.1);have HTP0:=Hd (show ∀zs,tyP (.mk k x kids ty) zs->zs.length<=4096 from λzs h=>Nat.le_trans h.1 (L5 HPD.out).2);have HTP2:=Hd (show ∀zs,tyP (.mk k x kids ty) zs->k=4\/k=14\/k=9->zs≠[] from λzs h hk=>h.2.2.1 (.inr hk));have HTP3:=Hd (show ∀zs,tyP (.mk k x kids ty) zs->b=false->¬(k=2\/k=3\/k=4\/k=14\/k=9\/k=5)->zs=[]\/1<kids.length from λzs h hb hk=>by
  rcases h.2.2.2 (HBF.out hb) with h1|h1
  .exact absurd h1 hk
  exact h1)
 clear HAT HP5 HPD HGOOD HPN;generalize Lm (Ph.mk k x kids ty).sz (Ph.mk k x kids ty).dd=LM at *;go_enter Tryz.func25,Tryz.ntmps25;go_upto_region 1 with fail;have hlt0:w.heap.size<(w.alloc (.cells #[.int .i64 k,.string x,.slice A n c,.bool b,.string t] 37)).heap.size:=by simp
 have hbx:Below w.heap.size w (w.alloc (.cells #[.int .i64 k,.string x,.slice A n c,.bool b,.string t] 37)):=Bl.alloc Nl _;obtain⟨q0,q1,q2,q3,q4⟩:=AL (heap_alloc_new w (.cells #[.int .i64 k,.string x,.slice A n c,.bool b,.string t] 37));generalize w.alloc (.cells #[.int .i64 k,.string x,.slice A n c,.bool b,.string t] 37)=wb at *;have hbxs:=hbx.size;have HBX:=Hd hbx;clear hbx
 cases b with
 |true=>have HTT:=Hd (HTY.out t (HBT.out (by first|exact trivial|rfl))).1;go_upto_region 2 with fail;go_region_held3 (λW=>W.cell? ⟨w.heap.size,0,none⟩=some (.int .i64 k)/\W.cell? ⟨w.heap.size,1,none⟩=some (.string x)/\W.cell? ⟨w.heap.size,2,none⟩=some (.slice A n c)/\W.cell? ⟨w.heap.size,3,none⟩=some (.bool true)/\W.cell? ⟨w.heap.size,4,none⟩=some (.string t)/\Below wb.heap.size wb W) (first|exact⟨q0,q1,q2,q3,q4,Bl.drew⟩|exact⟨(hbw.cell (p:=⟨w.heap.size,0,none⟩) hlt0).trans q0,(hbw.cell (p:=⟨w.heap.size,1,none⟩) hlt0).trans q1,(hbw.cell (p:=⟨w.heap.size,2,none⟩) hlt0).trans q2,(hbw.cell (p:=⟨w.heap.size,3,none⟩) hlt0).trans q3,(hbw.cell (p:=⟨w.heap.size,4,none⟩) hlt0).trans q4,(Bl.drew).trans hbw⟩) ((go_at_call 26;refine(HFIT.out _ HBX.out.drew t (by have:=HTT.out;omega)).mono ?_;rintro e w' ⟨rb,rfl,_,hbw⟩));go_wp2_with fail;go_ret3;exact⟨_,_,_,rfl,by have:=HTT.out;have:=HLP.out;omega,HBX.out.trans (((Bl.drew).trans hbw).mono hbxs)⟩
 |false=>
  by_cases h2:k=2
  .have u2:((k:Int)==2)=true:=by rw[beq_iff_eq];omega
   clear h2;go_upto_if 29 with(go_at_call 26;refine(HFIT.out _ (by first|exact HBX.out|exact HBX.out.drew) _ De).mono ?_;rintro e w2 ⟨rb,rfl,_,hb2⟩);have hb3:Below w.heap.size w w2:=HBX.out.trans (hb2.mono (by have:=hb2.size;first|exact hbxs|(simp;omega)))
   cases rb with
   |true=>go_wp2_with fail;go_ret3;exact⟨_,_,_,rfl,by have:=HLP.out;show 1<=_;omega,hb3⟩
   |false=>go_wp2_with fail;go_ret3;exact⟨_,_,_,rfl,by have:=HLP.out;show 1<=_;omega,hb3⟩
  have u2:((k:Int)==2)=false:=Bq;by_cases h3:k=3
  .have u3:((k:Int)==3)=true:=by rw[beq_iff_eq];omega
   clear h3 h2;go_wp2_with fail;go_ret3;exact⟨_,_,_,rfl,by have:=HLP.out;show 1<=_;omega,HBX.out⟩
  have u3:((k:Int)==3)=false:=Bq;by_cases h9:k=4\/k=14\/k=9
  .have H9:=Hd h9
   rcases h9 with h9|h9|h9
   .have u4:((k:Int)==4)=true:=by rw[beq_iff_eq];omega
    clear h9 h3 h2;go_wp2_with (go_at_call 38;refine(HTYC.out _ (by first|exact HBX.out|exact HBX.out.drew)).mono ?_;rintro e w2 ⟨A2,n2,c2,ys,rfl,hn2,hp2,hown2,hb2⟩;have HN2:=Hd hn2;have HP2:=Hd hp2;have HYL:0<ys.length:=(by have:=HTP2.out ys hp2 H9.out;cases ys with|nil=>exact absurd rfl this|cons a l=>simp);have hn4:n2<=4096:=(by have:=HTP0.out ys hp2;omega);obtain⟨A',c',he,hA⟩:=AF hown2;simp only[Value.slice.injEq]at he;obtain⟨rfl,_,rfl⟩:=he;obtain⟨g,rfl,hgl⟩:=hA Om;have c0:w2.cell? ⟨g,0,none⟩=some (.string ys[0]):=(by rw[AV hown2 g _ rfl _ Om];simp[AQ,HYL]);have hi0:(0:Int)<(n2:Int):=Om;have HYS:=Hd (HTP1.out ys hp2 _ (List.getElem_mem HYL));clear hn2 hp2 hown2 hA;generalize ys[0]=y at *);go_ret3;exact⟨_,_,_,rfl,HYS.out,HBX.out.trans (hb2.mono (by first|exact hbxs|(simp;omega)))⟩
   .have u4:((k:Int)==4)=false:=Bq
    have u14:((k:Int)==14)=true:=by rw[beq_iff_eq];omega
    clear h9 h3 h2;go_wp2_with (go_at_call 38;refine(HTYC.out _ (by first|exact HBX.out|exact HBX.out.drew)).mono ?_;rintro e w2 ⟨A2,n2,c2,ys,rfl,hn2,hp2,hown2,hb2⟩;have HN2:=Hd hn2;have HP2:=Hd hp2;have HYL:0<ys.length:=(by have:=HTP2.out ys hp2 H9.out;cases ys with|nil=>exact absurd rfl this|cons a l=>simp);have hn4:n2<=4096:=(by have:=HTP0.out ys hp2;omega);obtain⟨A',c',he,hA⟩:=AF hown2;simp only[Value.slice.injEq]at he;obtain⟨rfl,_,rfl⟩:=he;obtain⟨g,rfl,hgl⟩:=hA Om;have c0:w2.cell? ⟨g,0,none⟩=some (.string ys[0]):=(by rw[AV hown2 g _ rfl _ Om];simp[AQ,HYL]);have hi0:(0:Int)<(n2:Int):=Om;have HYS:=Hd (HTP1.out ys hp2 _ (List.getElem_mem HYL));clear hn2 hp2 hown2 hA;generalize ys[0]=y at *);go_ret3;exact⟨_,_,_,rfl,HYS.out,HBX.out.trans (hb2.mono (by first|exact hbxs|(simp;omega)))⟩
   have u4:((k:Int)==4)=false:=Bq;have u14:((k:Int)==14)=false:=Bq;have u9:((k:Int)==9)=true:=by rw[beq_iff_eq];omega
   clear h9 h3 h2;go_wp2_with (go_at_call 38;refine(HTYC.out _ (by first|exact HBX.out|exact HBX.out.drew)).mono ?_;rintro e w2 ⟨A2,n2,c2,ys,rfl,hn2,hp2,hown2,hb2⟩;have HN2:=Hd hn2;have HP2:=Hd hp2;have HYL:0<ys.length:=(by have:=HTP2.out ys hp2 H9.out;cases ys with|nil=>exact absurd rfl this|cons a l=>simp);have hn4:n2<=4096:=(by have:=HTP0.out ys hp2;omega);obtain⟨A',c',he,hA⟩:=AF hown2;simp only[Value.slice.injEq]at he;obtain⟨rfl,_,rfl⟩:=he;obtain⟨g,rfl,hgl⟩:=hA Om;have c0:w2.cell? ⟨g,0,none⟩=some (.string ys[0]):=(by rw[AV hown2 g _ rfl _ Om];simp[AQ,HYL]);have hi0:(0:Int)<(n2:Int):=Om;have HYS:=Hd (HTP1.out ys hp2 _ (List.getElem_mem HYL));clear hn2 hp2 hown2 hA;generalize ys[0]=y at *);go_ret3;exact⟨_,_,_,rfl,HYS.out,HBX.out.trans (hb2.mono (by first|exact hbxs|(simp;omega)))⟩
  have u4:((k:Int)==4)=false:=Bq;have u14:((k:Int)==14)=false:=Bq;have u9:((k:Int)==9)=false:=Bq;by_cases h5:k=5
  .have u5:((k:Int)==5)=true:=by rw[beq_iff_eq];omega
   have HLA':=Hd (λh=>HLA.out h h5);clear h5 h9 h3 h2;go_wp2_with (go_at_call 39;refine(HDOF.out _ (by first|exact HBX.out|exact HBX.out.drew)).mono ?_;rintro e w2 ⟨z,ok,said,rfl,hz,hb2⟩;have HZ:=Hd (show z.size+1<=LM from(by rcases hz with hz|⟨h,hz⟩;(have:=HLP.out;omega);(have:=HLA'.out h;omega)));have hz7:z.size<=70000:=(by have:=HZ.out;have:=HL7.out;omega);clear hz);go_ret3;exact⟨_,_,_,rfl,by have:=HZ.out;have e1:(⟨#[97]⟩:ByteArray).size=1:=rfl;simp only[ByteArray.size_append];omega,HBX.out.trans (hb2.mono (by first|exact hbxs|(simp;omega)))⟩
  have u5:((k:Int)==5)=false:=Bq;have HKN:=Hd (show ¬(k=2\/k=3\/k=4\/k=14\/k=9\/k=5) by omega);clear h5 h9 h3 h2;go_upto_region 18 with(go_at_call 38;refine(HTYC.out _ (by first|exact HBX.out|exact HBX.out.drew)).mono ?_;rintro e w2 ⟨A2,n2,c2,ys,rfl,hn2,hp2,hown2,hb2⟩;have HN2:=Hd hn2;have HP2:=Hd hp2;have HOW2:=Hd hown2;clear hn2 hp2 hown2);have hbs2:=hb2.size;have hn4:n2<=4096:=by have:=HTP0.out ys HP2.out;have:=HN2.out;omega
  have hwb2:Below w.heap.size w w2:=HBX.out.trans (hb2.mono (by first|exact hbxs|(simp;omega)));have r2:w2.cell? ⟨w.heap.size,2,none⟩=some (.slice A n c):=(hb2.cell (p:=⟨w.heap.size,2,none⟩) hlt0).trans q2;by_cases h0:n2=0
  .have e0:((n2:Int)==0)=true:=by rw[beq_iff_eq];omega
   clear h0;go_wp2_with fail;go_ret3;exact⟨_,_,_,rfl,Nat.zero_le _,hwb2⟩
  have e0:((n2:Int)==0)=false:=Bq;obtain⟨A',c',he,hA⟩:=AF HOW2.out;simp only[Value.slice.injEq]at he;obtain⟨rfl,_,rfl⟩:=he;obtain⟨g,rfl,hgl⟩:=hA Om;have hit:0<ys.length:=by have:=HN2.out;omega
  have c0:w2.cell? ⟨g,0,none⟩=some (.string ys[0]):=by rw[AV HOW2.out g _ rfl _ Om];simp[AQ,hit]
  have HYS:=Hd (HTP1.out ys HP2.out _ (List.getElem_mem hit));clear hA;have hk1:1<kids.length:=by
   rcases HTP3.out ys HP2.out (by first|exact trivial|rfl) HKN.out with h|h
   .rw[h]at hit;simp at hit
   exact h
  generalize ys[0]=y at *;by_cases h1:n2=1
  .have e1:((n2:Int)==1)=true:=by rw[beq_iff_eq];omega
   have hi0:(0:Int)<(n2:Int):=Om;clear h1 h0;go_wp2_with fail;go_ret3;exact⟨_,_,_,rfl,HYS.out,hwb2⟩
  have e1:((n2:Int)==1)=false:=Bq;clear h1 h0 c0;have hk0:0<kids.length:=Om;have hrow1:=AD HRow.out hwb2;obtain⟨g1,rfl,hg1⟩:=HA.out (by have:=HN.out;omega);obtain⟨k1,x1,A1,n1,cc1,b1,t1,hat1,c0,c1,c2,c3,c4⟩:=PhAt.kid HN.out hrow1 (λi h=>(HK.out i h).keep hwb2) 0 hk0;obtain⟨k3,x3,A3,n3,cc3,b3,t3,hat3,d0,d1,d2,d3,d4⟩:=PhAt.kid HN.out hrow1 (λi h=>(HK.out i h).keep hwb2) 1 hk1;have hsz1:=CW kids 0 hk0;have hdd1:=DF kids 0 hk0;have hsz3:=CW kids 1 hk1;have hdd3:=DF kids 1 hk1;have hi0:(0:Int)<(n:Int):=by have:=HN.out;omega
  have hi1:(1:Int)<(n:Int):=by have:=HN.out;omega
  have HC:=Hd (λ(W:World) (hW:Below w2.heap.size w2 W)=>HIH.out kids[0] (by have:=HS.out;omega) (by have:=HS5.out;omega) (by have:=HDD.out;omega) (BD kids 0 hk0 HG.out) W k1 x1 A1 n1 cc1 b1 t1 (hat1.keep hW));have HC3:=Hd (λ(W:World) (hW:Below w2.heap.size w2 W)=>HIH.out kids[1] (by have:=HS.out;omega) (by have:=HS5.out;omega) (by have:=HDD.out;omega) (BD kids 1 hk1 HG.out) W k3 x3 A3 n3 cc3 b3 t3 (hat3.keep hW));have HLD':=Hd (HLD.out hk1 HKN.out);clear hrow1 hat1 hat3 hsz1 hdd1 hsz3 hdd3;simp only[Nat.zero_mul,Nat.zero_add,Nat.one_mul,Nat.reduceAdd]at c0 c1 c2 c3 c4 d0 d1 d2 d3 d4;generalize Lm kids[0].sz kids[0].dd=LA at *;generalize Lm kids[1].sz kids[1].dd=LB at *;go_upto_region 23 with(go_at_call 25;refine(HC.out _ (by first|exact Bl|exact Bl.drew)).mono ?_;rintro e w3 ⟨z0,ok0,said0,rfl,hz0,hb3⟩;have HZ0:=Hd hz0;clear hz0);have hbs3:=hb3.size;have s2:w3.cell? ⟨w.heap.size,2,none⟩=some (.slice (some ⟨g1,0,none⟩) n c):=(hb3.cell (p:=⟨w.heap.size,2,none⟩) (show w.heap.size<w2.heap.size by omega)).trans r2;have hg2:g1<w2.heap.size:=by have:=hwb2.size;omega
  replace d0:=(hb3.cell (p:=⟨g1,5,none⟩) hg2).trans d0;replace d1:=(hb3.cell (p:=⟨g1,6,none⟩) hg2).trans d1;replace d2:=(hb3.cell (p:=⟨g1,7,none⟩) hg2).trans d2;replace d3:=(hb3.cell (p:=⟨g1,8,none⟩) hg2).trans d3;replace d4:=(hb3.cell (p:=⟨g1,9,none⟩) hg2).trans d4;clear c0 c1 c2 c3 c4;go_upto_region 24 with(go_at_call 25;refine(HC3.out _ (by first|exact hb3|exact hb3.drew)).mono ?_;rintro e w4 ⟨z1,ok1,said1,rfl,hz1,hb4⟩;have HZ1:=Hd hz1;clear hz1);have hbs4:=hb4.size;have hwb4:Below w.heap.size w w4:=hwb2.trans ((hb3.trans (hb4.mono Om)).mono Om);have HOW4:=Hd (AD (BF HOW2.out (Nat.zero_le _)) (hb3.trans (hb4.mono Om)));have hz07:z0.size<=70000:=by have:=HZ0.out;have:=HLD'.out;have:=HL7.out;omega
  have hz17:z1.size<=70000:=by have:=HZ1.out;have:=HLD'.out;have:=HL7.out;omega
  have HSZ:=Hd (show (⟨#[97,123]⟩++z0++z1++⟨#[125]⟩:ByteArray).size<=LM by have:=HZ0.out;have:=HZ1.out;have:=HLD'.out;have e1:(⟨#[97,123]⟩:ByteArray).size=2:=rfl;have e2:(⟨#[125]⟩:ByteArray).size=1:=rfl;simp only[ByteArray.size_append];omega);clear d0 d1 d2 d3 d4 hb3 hb4
  cases ok0 with
  |false=>
   cases said0 with
   |false=>go_wp2_with fail;go_ret3;exact⟨_,_,_,rfl,HSZ.out,hwb4⟩
   |true=>go_wp2_with fail;go_ret3;exact⟨_,_,_,rfl,HSZ.out,hwb4⟩
  |true=>
   cases ok1 with
   |false=>
    cases said0 with
    |false=>go_wp2_with fail;go_ret3;exact⟨_,_,_,rfl,HSZ.out,hwb4⟩
    |true=>go_wp2_with fail;go_ret3;exact⟨_,_,_,rfl,HSZ.out,hwb4⟩
   |true=>
    cases said0 with
    |false=>go_wp2_with (go_at_call 40;refine(MU (xs:=ys) (ys:=[⟨#[97,123]⟩++z0++z1++⟨#[125]⟩]) HN2.out rfl Om Sm (AD HOW4.out (by first|exact Bl.alloc Nl _|exact(Bl.alloc Nl _).drew|exact(Bl.drew).alloc Nl _)) (UA [⟨#[97,123]⟩++z0++z1++⟨#[125]⟩] _ rfl (Nat.zero_le _) Sm)).mono ?_;rintro e w5 ⟨A6,n6,c6,us,rfl,hle6,hn6,hsub6,hown6,hb6⟩;have HN6:=Hd hn6;clear hn6 hle6 hsub6 hown6);go_ret3;exact⟨_,_,_,rfl,HSZ.out,(hwb4.alloc (by have:=hwb4.size;omega) _).trans (hb6.mono (by have:=hwb4.size;simp;omega))⟩
    |true=>go_wp2_with (go_at_call 40;refine(MU (xs:=ys) (ys:=[⟨#[97,123]⟩++z0++z1++⟨#[125]⟩]) HN2.out rfl Om Sm (AD HOW4.out (by first|exact Bl.alloc Nl _|exact(Bl.alloc Nl _).drew|exact(Bl.drew).alloc Nl _)) (UA [⟨#[97,123]⟩++z0++z1++⟨#[125]⟩] _ rfl (Nat.zero_le _) Sm)).mono ?_;rintro e w5 ⟨A6,n6,c6,us,rfl,hle6,hn6,hsub6,hown6,hb6⟩;have HN6:=Hd hn6;clear hn6 hle6 hsub6 hown6);go_ret3;exact⟨_,_,_,rfl,HSZ.out,(hwb4.alloc (by have:=hwb4.size;omega) _).trans (hb6.mono (by have:=hwb4.size;simp;omega))⟩
theorem OP:∀N,ALp N
 |0=>λp hp=>by have:=p.sz_pos;omega
 |N+1=>AJp N (OP N)
theorem AH{w:World}{b:Nat}{cs:Array Value}{t:TypeId}(h:w.heap[b]?=some (.cells cs t (0,0)))(o:Nat)(v:Value):(w.setCell ⟨b,o,none⟩ v).heap[b]?=some (.cells (cs.setIfInBounds o v) t (0,0)):=by simp[World.setCell,Array.getElem?_modify,h]
theorem AAz(k:Nat)(x:ByteArray)(hx:x.size<=100000)(A:Option Addr)(n c:Nat)(t sig:ByteArray)(h1:sig.size=1) :
 ∃r:Bool,∀w,Calls Tryz.prog 26 #[.agg #[.int .i64 k,.string x,.slice A n c,.bool false,.string t],.string sig] w (λe w'=>e=.returned (.bool r)/\Below w.heap.size w w'):=by
 have q1:((sig.size:Int)==1)=true:=by rw[beq_iff_eq];omega
 have hs0:(0:Int)<(sig.size:Int):=Om
 have hs2:(sig.size:Int)<2:=Om
 have hs5:(sig.size:Int)<5:=Om
 have hp0:0<sig.size:=Om
 have e0:=AJ hp0
 have HX:=Hd (λ(i:Nat) (h:i<x.size)=>AJ h)
 clear h1
 by_cases h2:k=2
 .subst h2
  cases hd:NV x with
  |true=>
   refine⟨sig.toList==[100],λw=>?_⟩;have HD:=Hd (show OH x 0=true from hd);clear hd;go_enter Tryz.func26,Tryz.ntmps26;go_wp2_with fail;go_loop [5] (λi=>∃m:Nat,m<=x.size/\i=.int .i64 m/\Hid (OH x m=true)) (λi=>x.size-(intOf i).toNat)
   case atStart=>exact⟨0,Om,rfl,HD⟩
   obtain⟨m,hm,rfl,HM⟩:=hrel;by_cases hlt:(m:Int)<(x.size:Int)
   .have hmx:m<x.size:=Om
    have em:=HX.out m hmx
    cases t1:(AA x m==46) with
    |true=>generalize AA x m=d at *;go_wp2_with fail;go_ret;exact⟨rfl,AK _ _⟩
    |false=>
     cases t2:(AA x m==101) with
     |true=>generalize AA x m=d at *;go_wp2_with fail;go_ret;exact⟨rfl,AK _ _⟩
     |false=>
      have HM2:=Hd (show OH x (m+1)=true by rw[<-O7 hmx (by rintro (h|h)<;>simp[h]at t1 t2)];exact HM.out);clear HM;generalize AA x m=d at *;go_wp2_with fail;go_round
      case rel=>exact⟨m+1,Om,by go_num,HM2⟩
      simp[intOf];omega
   have:=HM.out;rw[VK Om]at this
   cases this
  |false=>
   refine⟨BT (AA sig 0) QJ,λw=>?_⟩;have HD:=Hd (show OH x 0=false from hd);clear hd;go_enter Tryz.func26,Tryz.ntmps26;go_wp2_with fail;go_loop [5] (λi=>∃m:Nat,m<=x.size/\i=.int .i64 m/\Hid (OH x m=false)) (λi=>x.size-(intOf i).toNat)
   case atStart=>exact⟨0,Om,rfl,HD⟩
   obtain⟨m,hm,rfl,HM⟩:=hrel;by_cases hlt:(m:Int)<(x.size:Int)
   .have hmx:m<x.size:=Om
    have em:=HX.out m hmx;have hno:¬(AA x m=46\/AA x m=101):=λh=>by
     have:=HM.out;rw[QE hmx h]at this
     cases this
    have t1:(AA x m==46)=false:=by rw[Bn];exactλh=>hno (.inl h)
    have t2:(AA x m==101)=false:=by rw[Bn];exactλh=>hno (.inr h)
    have HM2:=Hd (show OH x (m+1)=false by rw[<-O7 hmx hno];exact HM.out);clear HM hno;generalize AA x m=d at *;go_wp2_with fail;go_round
    case rel=>exact⟨m+1,Om,by go_num,HM2⟩
    simp[intOf];omega
   go_wp2_with (go_at_call 31;refine(B4 _ _ De _).mono ?_;rintro e w' ⟨rfl,rfl⟩);go_ret;exact⟨rfl,AK _ _⟩
 by_cases h3:k=3
 .subst h3
  refine⟨BT (AA sig 0) RB,λw=>?_⟩;go_enter Tryz.func26,Tryz.ntmps26;go_wp2_with (go_at_call 31;refine(B4 _ _ De _).mono ?_;rintro e w' ⟨rfl,rfl⟩);go_ret;exact⟨rfl,AK _ _⟩
 by_cases h4:k=4
 .subst h4
  refine⟨sig.toList==[98],λw=>?_⟩;go_enter Tryz.func26,Tryz.ntmps26;go_wp2_with fail;go_ret;exact⟨rfl,AK _ _⟩
 by_cases h14:k=14
 .subst h14
  refine⟨sig.toList==[97,121],λw=>?_⟩;go_enter Tryz.func26,Tryz.ntmps26;go_wp2_with fail;go_ret;exact⟨rfl,AK _ _⟩
 by_cases h9:k=9
 .subst h9
  refine⟨sig.toList==[118],λw=>?_⟩;go_enter Tryz.func26,Tryz.ntmps26;go_wp2_with fail;go_ret;exact⟨rfl,AK _ _⟩
 by_cases h5:k=5
 .subst h5
  refine⟨false,λw=>?_⟩;go_enter Tryz.func26,Tryz.ntmps26;go_wp2_with fail;go_ret;exact⟨rfl,AK _ _⟩
 have u2:((k:Int)==2)=false:=Bq
 have u3:((k:Int)==3)=false:=Bq
 have u4:((k:Int)==4)=false:=Bq
 have u14:((k:Int)==14)=false:=Bq
 have u9:((k:Int)==9)=false:=Bq
 have u5:((k:Int)==5)=false:=Bq
 clear h2 h3 h4 h14 h9 h5
 refine⟨false,λw=>?_⟩
 go_enter Tryz.func26,Tryz.ntmps26
 go_wp2_with fail
 go_ret
 exact⟨rfl,AK _ _⟩
def APb(N:Nat):Prop:=∀(p:Ph),p.sz<=N->p.sz<=5000->p.dd<=2->p.good->∀(w:World) (k:Nat) (x:ByteArray) (A:Option Addr) (n c:Nat) (b:Bool) (t:ByteArray),PhAt w (λ_=>True) (NX k x A n c b t) p->
 Calls Tryz.prog 21 #[.agg #[.int .i64 k,.string x,.slice A n c,.bool b,.string t]] w (ID (λ_=>True) w)
theorem AK4(N:Nat)(ih:APb N):APb (N+1):=by
 intro p hp hp5 hpd hgood w k x A n c b t hat;have HAT:=Hd (λ(W:World) (hW:Below w.heap.size w W)=>hat.keep hW);have HPN:=Hd hp;have HP5:=Hd hp5;have HPD:=Hd hpd;have HGOOD:=Hd hgood
 cases hat with
 |mk k x A n c kids ty rows hn hrow hP hA hkid=>
 have hsz:K8 kids<=N:=by simp[Ph.sz]at hp;omega
 have hs5:K8 kids<=5000:=by simp[Ph.sz]at hp5;omega
 have hddk:H8 kids<=2:=by simp only[Ph.dd]at hpd;omega
 have hgk:FB kids:=by simp only[Ph.good]at hgood;exact hgood.2.2
 have hn63:n<=5000:=by have:=GP kids;omega
 have HTY:=Hd (show ∀u,ty=some u->u.size<=255/\IP u from λu hu=>by simp only[Ph.good]at hgood;exact hgood.2.1 u hu);have HN:=Hd hn;have HA:=Hd hA;have HRow:=Hd hrow;have HK:=Hd hkid;have HIH:=Hd ih;have HS:=Hd hsz;have HS5:=Hd hs5;have HDD:=Hd hddk;have HG:=Hd hgk;clear hp hp5 hpd hgood hP hn hrow hA hkid ih hsz hs5 hddk hgk;generalize hb:ty.isSome=b at *;generalize ht:ZV ty=t at *;have HBT:=Hd (show b=true->ty=some t by
  intro h;rw[h]at hb;cases ty with
  |none=>simp at hb
  |some y=>simp[ZV]at ht;rw[ht])
 have HBF:=Hd (show b=false->ty=none by
  intro h;rw[h]at hb;cases ty with
  |none=>rfl
  |some y=>simp at hb)
 clear hb ht;clear HAT HPN HP5 HPD HGOOD HTY HBT HBF;go_enter Tryz.func21,Tryz.ntmps21;go_upto_region 1 with fail;have hlt0:w.heap.size<(w.alloc (.cells #[.int .i64 k,.string x,.slice A n c,.bool b,.string t] 37)).heap.size:=by simp
 have hbx:Below w.heap.size w (w.alloc (.cells #[.int .i64 k,.string x,.slice A n c,.bool b,.string t] 37)):=Bl.alloc Nl _;obtain⟨q0,q1,q2,q3,q4⟩:=AL (heap_alloc_new w (.cells #[.int .i64 k,.string x,.slice A n c,.bool b,.string t] 37));generalize w.alloc (.cells #[.int .i64 k,.string x,.slice A n c,.bool b,.string t] 37)=wb at *;have hbxs:=hbx.size;have HBX:=Hd hbx;clear hbx;go_wp2_with fail;go_loopw [9] (λv8 wr=>∃m:Nat,m<=n/\v8=.int .i64 m/\Below wb.heap.size wb wr) (λi _=>n-(intOf i).toNat)
 case atStart=>exact⟨0,Nat.zero_le _,rfl,Bl⟩
 obtain⟨m,hm,rfl,hbel⟩:=hrel;have hbs:=hbel.size;have hbw0:Below w.heap.size w wr:=HBX.out.trans (hbel.mono hbxs);by_cases hlt:(m:Int)<(n:Int)
 .have hmn:m<kids.length:=by have:=HN.out;omega
  have hsz1:=CW kids m hmn;have hdd1:=DF kids m hmn;obtain⟨g,hg,hgl⟩:=HA.out Om;subst hg;have hrow1:=AD HRow.out hbw0;obtain⟨k1,x1,A1,n1,cc1,b1,t1,hat1,c0,c1,c2,c3,c4⟩:=PhAt.kid HN.out hrow1 (λi h=>(HK.out i h).keep hbw0) m hmn;have HAT1:=Hd (λ(W:World) (hW:Below wr.heap.size wr W)=>hat1.keep hW);have HC:=Hd (λ(W:World) (hW:Below wr.heap.size wr W)=>HIH.out kids[m] (by have:=HS.out;omega) (by have:=HS5.out;omega) (by have:=HDD.out;omega) (BD kids m hmn HG.out) W k1 x1 A1 n1 cc1 b1 t1 (hat1.keep hW));have HKP:=Hd (show kids[m].sz<=5000/\kids[m].dd<=2/\kids[m].good from⟨by have:=HS5.out;omega,by have:=HDD.out;omega,BD kids m hmn HG.out⟩);have HX1:Hid (x1.size<=100000/\(b1=true->t1.size<=255/\1<=t1.size)):=by
   have hg1:=BD kids m hmn HG.out;generalize kids[m]=p1 at *;clear HC HKP HAT1 hsz1 hdd1
   cases hat1 with
   |mk k x A n c kids ty rows hn hrow hP hA hkid=>
    simp only[Ph.good]at hg1;refine⟨hg1.1,λhb=>?_⟩
    cases ty with
    |none=>simp at hb
    |some y=>have:=hg1.2.1 y rfl;exact⟨this.1,this.2.1⟩
  clear hrow1 hat1 hsz1 hdd1;clear HAT1;go_upto_region 4 with fail;obtain⟨p0,p1,p2,p3,p4⟩:=AL (heap_alloc_new wr (.cells #[.int .i64 k1,.string x1,.slice A1 n1 cc1,.bool b1,.string t1] 37));have hlk:wr.heap.size<(wr.alloc (.cells #[.int .i64 k1,.string x1,.slice A1 n1 cc1,.bool b1,.string t1] 37)).heap.size:=by simp
  have hbk:Below wr.heap.size wr (wr.alloc (.cells #[.int .i64 k1,.string x1,.slice A1 n1 cc1,.bool b1,.string t1] 37)):=Bl.alloc Nl _;generalize wr.alloc (.cells #[.int .i64 k1,.string x1,.slice A1 n1 cc1,.bool b1,.string t1] 37)=wk at *;have hbks:=hbk.size;go_upto_if 16 with(go_at_call 21;refine(HC.out _ (by first|exact hbk|exact hbk.drew)).mono ?_;rintro e w2 ⟨rb,rfl,_,hb2⟩);have hwk2:Below wk.heap.size wk w2:=by first|exact hb2|exact(Bl.drew).trans hb2
  have hb3:Below wb.heap.size wb w2:=(hbel.trans (hbk.mono hbs)).trans (hwk2.mono Om);have hbs3:=hb3.size
  cases rb with
  |false=>go_wp2_with fail;go_ret;exact⟨_,rfl,trivial,HBX.out.trans (hb3.mono hbxs)⟩
  |true=>
   have r0:=(hb3.cell (p:=⟨w.heap.size,0,none⟩) hlt0).trans q0;replace p0:=(hwk2.cell (p:=⟨wr.heap.size,0,none⟩) hlk).trans p0;replace p1:=(hwk2.cell (p:=⟨wr.heap.size,1,none⟩) hlk).trans p1;replace p2:=(hwk2.cell (p:=⟨wr.heap.size,2,none⟩) hlk).trans p2;replace p3:=(hwk2.cell (p:=⟨wr.heap.size,3,none⟩) hlk).trans p3;replace p4:=(hwk2.cell (p:=⟨wr.heap.size,4,none⟩) hlk).trans p4;have hlk2:wr.heap.size<w2.heap.size:=by have:=hwk2.size;omega
   clear q0 q1 q2 q3 q4 HC HKP HRow HK HA
   cases u7:((k:Int)!=7) with
   |true=>
    go_wp2_with fail;go_roundw
    case rel=>exact⟨m+1,Om,by go_num,hb3⟩
    simp[intOf];omega
   |false=>
    cases q5:((m:Int)%2==1) with
    |true=>
     go_wp2_with fail;go_roundw
     case rel=>exact⟨m+1,Om,by go_num,hb3⟩
     simp[intOf];omega
    |false=>
     go_upto_region 8 with fail;have hnew:=heap_alloc_new w2 (.cells #[.int .i64 k1,.string x1,.slice A1 n1 cc1,.bool b1,.string t1] 37);have hbn:Below w2.heap.size w2 (w2.alloc (.cells #[.int .i64 k1,.string x1,.slice A1 n1 cc1,.bool b1,.string t1] 37)):=Bl.alloc Nl _;have hln:w2.heap.size<(w2.alloc (.cells #[.int .i64 k1,.string x1,.slice A1 n1 cc1,.bool b1,.string t1] 37)).heap.size:=by simp
     generalize w2.alloc (.cells #[.int .i64 k1,.string x1,.slice A1 n1 cc1,.bool b1,.string t1] 37)=wn at *;have hfr:=AB hnew 3;obtain⟨n0,n1',n2,n3,n4⟩:=AL hnew;go_upto_region 9 with fail;have hset:=AH hnew 3 (.bool false);have hbq:Below w2.heap.size w2 (wn.setCell ⟨w2.heap.size,3,none⟩ (.bool false)):=hbn.setCell Nl _;have hlq:w2.heap.size<(wn.setCell ⟨w2.heap.size,3,none⟩ (.bool false)).heap.size:=by simp only[World.setCell,Array.size_modify];exact hln
     clear n0 n1' n2 n3 n4 hfr hnew hbn hln;generalize wn.setCell ⟨w2.heap.size,3,none⟩ (.bool false)=wq at *;obtain⟨z0,z1,z2,z3,z4⟩:=AL (show wq.heap[w2.heap.size]?=some (.cells #[.int .i64 k1,.string x1,.slice A1 n1 cc1,.bool false,.string t1] 37 (0,0)) from hset);replace p3:=(hbq.cell (p:=⟨wr.heap.size,3,none⟩) hlk2).trans p3;replace p4:=(hbq.cell (p:=⟨wr.heap.size,4,none⟩) hlk2).trans p4;clear p0 p1 p2 hset;have hbq3:Below wb.heap.size wb wq:=hb3.trans (hbq.mono Om);obtain⟨f1,hf1⟩:=AAz k1 x1 HX1.out.1 A1 n1 cc1 t1 ⟨#[105]⟩ De;obtain⟨f2,hf2⟩:=AAz k1 x1 HX1.out.1 A1 n1 cc1 t1 ⟨#[115]⟩ De;have HF1:=Hd hf1;have HF2:=Hd hf2;clear hf1 hf2;have HB:=Hd hbq3;clear hbq hbq3
     cases b1 with
     |false=>
      cases f1 with
      |true=>
       go_wp2_with (go_at_call 26;refine(HF1.out _).mono ?_;rintro e w3 ⟨rfl,hb4⟩;have hwq3:Below wq.heap.size wq w3:=(by first|exact hb4|exact(Bl.drew).trans hb4);have y0:=(hwq3.cell (p:=⟨w2.heap.size,0,none⟩) hlq).trans z0;have y1:=(hwq3.cell (p:=⟨w2.heap.size,1,none⟩) hlq).trans z1;have y2:=(hwq3.cell (p:=⟨w2.heap.size,2,none⟩) hlq).trans z2;have y3:=(hwq3.cell (p:=⟨w2.heap.size,3,none⟩) hlq).trans z3;have y4:=(hwq3.cell (p:=⟨w2.heap.size,4,none⟩) hlq).trans z4;have hbw3:Below wb.heap.size wb w3:=HB.out.trans (hwq3.mono HB.out.size));go_roundw
       case rel=>exact⟨m+1,Om,by go_num,hbw3⟩
       simp[intOf];omega
      |false=>
       cases f2 with
       |true=>
        go_wp2_with (first|(go_at_call 26;have hbw3c:=hbw3;refine(HF2.out _).mono ?_;rintro e w4 ⟨rfl,hb5⟩;have hbw4:Below wb.heap.size wb w4:=hbw3.trans (((by first|exact hb5|exact(Bl.drew).trans hb5:Below w3.heap.size w3 w4)).mono hbw3.size))|(go_at_call 26;refine(HF1.out _).mono ?_;rintro e w3 ⟨rfl,hb4⟩;have hwq3:Below wq.heap.size wq w3:=(by first|exact hb4|exact(Bl.drew).trans hb4);have y0:=(hwq3.cell (p:=⟨w2.heap.size,0,none⟩) hlq).trans z0;have y1:=(hwq3.cell (p:=⟨w2.heap.size,1,none⟩) hlq).trans z1;have y2:=(hwq3.cell (p:=⟨w2.heap.size,2,none⟩) hlq).trans z2;have y3:=(hwq3.cell (p:=⟨w2.heap.size,3,none⟩) hlq).trans z3;have y4:=(hwq3.cell (p:=⟨w2.heap.size,4,none⟩) hlq).trans z4;have hbw3:Below wb.heap.size wb w3:=HB.out.trans (hwq3.mono HB.out.size)));go_roundw
        case rel=>exact⟨m+1,Om,by go_num,hbw4⟩
        simp[intOf];omega
       |false=>go_wp2_with (first|(go_at_call 26;have hbw3c:=hbw3;refine(HF2.out _).mono ?_;rintro e w4 ⟨rfl,hb5⟩;have hbw4:Below wb.heap.size wb w4:=hbw3.trans (((by first|exact hb5|exact(Bl.drew).trans hb5:Below w3.heap.size w3 w4)).mono hbw3.size))|(go_at_call 26;refine(HF1.out _).mono ?_;rintro e w3 ⟨rfl,hb4⟩;have hwq3:Below wq.heap.size wq w3:=(by first|exact hb4|exact(Bl.drew).trans hb4);have y0:=(hwq3.cell (p:=⟨w2.heap.size,0,none⟩) hlq).trans z0;have y1:=(hwq3.cell (p:=⟨w2.heap.size,1,none⟩) hlq).trans z1;have y2:=(hwq3.cell (p:=⟨w2.heap.size,2,none⟩) hlq).trans z2;have y3:=(hwq3.cell (p:=⟨w2.heap.size,3,none⟩) hlq).trans z3;have y4:=(hwq3.cell (p:=⟨w2.heap.size,4,none⟩) hlq).trans z4;have hbw3:Below wb.heap.size wb w3:=HB.out.trans (hwq3.mono HB.out.size)));go_ret;exact⟨_,rfl,trivial,HBX.out.trans (hbw4.mono hbxs)⟩
     |true=>
      have ht1:=(HX1.out.2 (by first|exact trivial|rfl)).2;by_cases hs1:t1.size=1
      .have v1:((t1.size:Int)!=1)=false:=by rw[bne_eq_false_iff_eq];omega
       have v2:((t1.size:Int)==1)=true:=by rw[beq_iff_eq];omega
       have vi:(0:Int)<(t1.size:Int):=Om;have vp:0<t1.size:=Om;have e0:=AJ vp;clear hs1 ht1;generalize AA t1 0=d0 at *
       cases ham:BT d0 ⟨#[121,110,113,105,117,120,116,115,111]⟩ with
       |false=>go_wp2_with (go_at_call 31;refine(B4 _ _ De _).mono ?_;rintro e w' ⟨rfl,rfl⟩;rw[ham]);go_ret;exact⟨_,rfl,trivial,HBX.out.trans (HB.out.mono hbxs)⟩
       |true=>
        cases f1 with
        |true=>
         go_wp2_with (first|(go_at_call 31;refine(B4 _ _ De _).mono ?_;rintro e w' ⟨rfl,rfl⟩;rw[ham])|(go_at_call 26;refine(HF1.out _).mono ?_;rintro e w3 ⟨rfl,hb4⟩;have hwq3:Below wq.heap.size wq w3:=(by first|exact hb4|exact(Bl.drew).trans hb4);have y0:=(hwq3.cell (p:=⟨w2.heap.size,0,none⟩) hlq).trans z0;have y1:=(hwq3.cell (p:=⟨w2.heap.size,1,none⟩) hlq).trans z1;have y2:=(hwq3.cell (p:=⟨w2.heap.size,2,none⟩) hlq).trans z2;have y3:=(hwq3.cell (p:=⟨w2.heap.size,3,none⟩) hlq).trans z3;have y4:=(hwq3.cell (p:=⟨w2.heap.size,4,none⟩) hlq).trans z4;have hbw3:Below wb.heap.size wb w3:=HB.out.trans (hwq3.mono HB.out.size)));go_roundw
         case rel=>exact⟨m+1,Om,by go_num,hbw3⟩
         simp[intOf];omega
        |false=>
         cases f2 with
         |true=>
          go_wp2_with (first|(go_at_call 31;refine(B4 _ _ De _).mono ?_;rintro e w' ⟨rfl,rfl⟩;rw[ham])|(go_at_call 26;have hbw3c:=hbw3;refine(HF2.out _).mono ?_;rintro e w4 ⟨rfl,hb5⟩;have hbw4:Below wb.heap.size wb w4:=hbw3.trans (((by first|exact hb5|exact(Bl.drew).trans hb5:Below w3.heap.size w3 w4)).mono hbw3.size))|(go_at_call 26;refine(HF1.out _).mono ?_;rintro e w3 ⟨rfl,hb4⟩;have hwq3:Below wq.heap.size wq w3:=(by first|exact hb4|exact(Bl.drew).trans hb4);have y0:=(hwq3.cell (p:=⟨w2.heap.size,0,none⟩) hlq).trans z0;have y1:=(hwq3.cell (p:=⟨w2.heap.size,1,none⟩) hlq).trans z1;have y2:=(hwq3.cell (p:=⟨w2.heap.size,2,none⟩) hlq).trans z2;have y3:=(hwq3.cell (p:=⟨w2.heap.size,3,none⟩) hlq).trans z3;have y4:=(hwq3.cell (p:=⟨w2.heap.size,4,none⟩) hlq).trans z4;have hbw3:Below wb.heap.size wb w3:=HB.out.trans (hwq3.mono HB.out.size)));go_roundw
          case rel=>exact⟨m+1,Om,by go_num,hbw4⟩
          simp[intOf];omega
         |false=>go_wp2_with (first|(go_at_call 31;refine(B4 _ _ De _).mono ?_;rintro e w' ⟨rfl,rfl⟩;rw[ham])|(go_at_call 26;have hbw3c:=hbw3;refine(HF2.out _).mono ?_;rintro e w4 ⟨rfl,hb5⟩;have hbw4:Below wb.heap.size wb w4:=hbw3.trans (((by first|exact hb5|exact(Bl.drew).trans hb5:Below w3.heap.size w3 w4)).mono hbw3.size))|(go_at_call 26;refine(HF1.out _).mono ?_;rintro e w3 ⟨rfl,hb4⟩;have hwq3:Below wq.heap.size wq w3:=(by first|exact hb4|exact(Bl.drew).trans hb4);have y0:=(hwq3.cell (p:=⟨w2.heap.size,0,none⟩) hlq).trans z0;have y1:=(hwq3.cell (p:=⟨w2.heap.size,1,none⟩) hlq).trans z1;have y2:=(hwq3.cell (p:=⟨w2.heap.size,2,none⟩) hlq).trans z2;have y3:=(hwq3.cell (p:=⟨w2.heap.size,3,none⟩) hlq).trans z3;have y4:=(hwq3.cell (p:=⟨w2.heap.size,4,none⟩) hlq).trans z4;have hbw3:Below wb.heap.size wb w3:=HB.out.trans (hwq3.mono HB.out.size)));go_ret;exact⟨_,rfl,trivial,HBX.out.trans (hbw4.mono hbxs)⟩
      have v1:((t1.size:Int)!=1)=true:=by rw[bne_iff_ne];omega
      have v2:((t1.size:Int)==1)=false:=Bq;clear hs1;go_wp2_with fail;go_ret;exact⟨_,rfl,trivial,HBX.out.trans (HB.out.mono hbxs)⟩
 go_wp2_with fail;go_ret;exact⟨_,rfl,trivial,hbw0⟩
theorem AE5:∀N,APb N
 |0=>λp hp=>by have:=p.sz_pos;omega
 |N+1=>AK4 N (AE5 N)
