/- Lemmas for FnVtSigsEntry; no conditions. -/
import Derived.Test.YtbnbadcnfchdhaaGreatDoorP03
import Derived.StillTailTactics
set_option maxRecDepth 100000
set_option maxHeartbeats 16000000
set_option linter.all false
namespace Go.Proofs.YtbnbadcnfchdhaaGreatDoor
open Go.RowKit
structure AIg(s:ByteArray):Prop where
 small:s.size<=100000
 three:3<=s.size
 zero:AA s 0=48
 x:AA s 1=120
 digit:∀i,2<=i->i<s.size->48<=AA s i/\AA s i<=57\/65<=AA s i/\AA s i<=70\/97<=AA s i/\AA s i<=102
theorem AOr(s:ByteArray)(h:AIg s)(w:World) :
 Calls Tryz.prog 154 #[.string s] w λe w'=>∃(m p n:Int) (b1 b2 b3:Bool),e=.returned (.tuple #[.int .u64 m,.int .i64 p,.bool b1,.bool b2,.bool b3,.int .i64 n,.bool false])/\w=w':=by
 have hsm:=h.small
 have h3:=h.three
 have H:=Hd h
 have h0:0<s.size:=Om
 have h0i:(0:Int)<(s.size:Int):=Om
 have h1:1<s.size:=Om
 have h2i:(2:Int)<(s.size:Int):=Om
 have hne:¬s=ByteArray.empty:=by rintro rfl;simp at h0
 have e0:=AJ h0
 have e1:=AJ h1
 have hz:=h.zero
 have hx:=h.x
 have t1:(AA s 0==43)=false:=Bq
 have t2:(AA s 0==45)=false:=Bq
 have t3:(AA s 0==48)=true:=by rw[beq_iff_eq];exact hz
 have hlo:bits .or .u8 (AA s 1) 32=120:=by rw[hx,G2 Om Om]
 have hb:=CJ s 1
 generalize AA s 0=c0 at *
 generalize AA s 1=c1 at *
 have LC:Hid (∀w,Calls Tryz.prog 120 #[.int .u8 c1] w λe w'=>e=.returned (.int .u8 120)/\w=w'):=λw=>by have:=C7 c1 w hb.1 hb.2;rw[hlo]at this;exact this
 clear hz hx hlo h hb
 go_enter Tryz.func154,Tryz.ntmps154
 go_wp2_with fail
 go_step3
 go_wp2_with (go_at_call 120;refine(LC.out _).mono ?_;rintro e w' ⟨rfl,rfl⟩)
 go_step3
 go_wp2_with fail
 clear LC t1 t2 t3 e0 e1
 go_loopg [2,5,7,9,13,14,15,16,17] (s.size-2) (λg v2 v5 v7 v9 v13 v14 v15 v16 v17 wr=>∃(k:Nat) (m nd ndm dp:Int) (tr dg:Bool),k+g=s.size-2/\v2=.int .u64 m/\v5=.bool tr/\v7=.int .i64 ((2+k:Nat):Int)/\v9=.bool false/\v13=.bool false/\v14=.bool dg/\v15=.int .i64 nd/\v16=.int .i64 ndm/\v17=.int .i64 dp/\0<=nd/\nd<=k/\0<=ndm/\ndm<=k/\(-(k:Int)<=dp/\dp<=k)/\(1<=k->dg=true)/\wr=w)
 case atStart=>exact⟨0,_,_,_,_,_,_,Om,rfl,rfl,rfl,rfl,rfl,rfl,rfl,rfl,rfl,Om,Om,Om,Om,Om,λh=>Om,rfl⟩
 obtain⟨k,m,nd,ndm,dp,tr,dg,hkg,rfl,rfl,rfl,rfl,rfl,rfl,rfl,rfl,rfl,q1,q2,q3,q4,⟨q5,q6⟩,hdg,rfl⟩:=hrel
 have HDG:=Hd hdg
 clear hdg
 cases gk with
 |succ g=>
  have hik:2+k<s.size:=Om
  have hiki:((2+k:Nat):Int)<(s.size:Int):=Om
  have ec:=AJ hik
  have hm:=H.out.digit (2+k) Om hik
  have hb:=CJ s (2+k)
  generalize AA s (2+k)=c at *
  have t1:(c==95)=false:=Bq
  have t2:(c==46)=false:=Bq
  by_cases hd:48<=c/\c<=57
  .obtain⟨hc1,hc2⟩:=hd
   clear hm;by_cases hz:c=48/\nd=0
   .have t3:(c==48)=true:=by rw[beq_iff_eq];exact hz.1
    have t4:(nd==0)=true:=by rw[beq_iff_eq];exact hz.2
    clear hz;go_wp2_with fail;go_roundg g
    case rel=>exact⟨k+1,_,_,_,_,_,_,Om,rfl,rfl,by go_num,rfl,rfl,rfl,rfl,rfl,rfl,Om,Om,Om,Om,Om,λ_=>rfl,rfl⟩
    omega
   by_cases h48:c=48
   .have t3:(c==48)=true:=by rw[beq_iff_eq];exact h48
    have t4:(nd==0)=false:=by rw[Bn];exactλe=>hz ⟨h48,e⟩
    have t5:(c !=48)=false:=by rw[bne_eq_false_iff_eq];exact h48
    clear hz h48;by_cases hl:ndm<16
    .go_wp2_with fail
     go_roundg g
     case rel=>exact⟨k+1,_,_,_,_,_,_,Om,rfl,rfl,by go_num,rfl,rfl,rfl,rfl,rfl,rfl,Om,Om,Om,Om,Om,λ_=>rfl,rfl⟩
     omega
    go_wp2_with fail;go_roundg g
    case rel=>exact⟨k+1,_,_,_,_,_,_,Om,rfl,rfl,by go_num,rfl,rfl,rfl,rfl,rfl,rfl,Om,Om,Om,Om,Om,λ_=>rfl,rfl⟩
    omega
   have t3:(c==48)=false:=by rw[Bn];exact h48
   have t5:(c !=48)=true:=by rw[bne_iff_ne];exact h48
   clear hz h48;by_cases hl:ndm<16
   .go_wp2_with fail
    go_roundg g
    case rel=>exact⟨k+1,_,_,_,_,_,_,Om,rfl,rfl,by go_num,rfl,rfl,rfl,rfl,rfl,rfl,Om,Om,Om,Om,Om,λ_=>rfl,rfl⟩
    omega
   go_wp2_with fail;go_roundg g
   case rel=>exact⟨k+1,_,_,_,_,_,_,Om,rfl,rfl,by go_num,rfl,rfl,rfl,rfl,rfl,rfl,Om,Om,Om,Om,Om,λ_=>rfl,rfl⟩
   omega
  have hlo:97<=bits .or .u8 c 32/\bits .or .u8 c 32<=102:=by
   rcases hm with a|a|a
   .exact absurd a hd
   .rw[LG Om Om];omega
   rw[G2 Om Om];omega
  obtain⟨l1,l2⟩:=hlo
  have h57:¬c<=57:=Om
  have LC:=Hd (λw=>C7 c w hb.1 hb.2)
  generalize bits .or .u8 c 32=lc at *
  have t6:decide (c<=57)=false:=decide_eq_false h57
  clear hm hd hb
  by_cases hl:ndm<16
  .go_wp2_with (go_at_call 120;refine(LC.out _).mono ?_;rintro e w' ⟨rfl,rfl⟩)
   go_roundg g
   case rel=>exact⟨k+1,_,_,_,_,_,_,Om,rfl,rfl,by go_num,rfl,rfl,rfl,rfl,rfl,rfl,Om,Om,Om,Om,Om,λ_=>rfl,rfl⟩
   omega
  go_wp2_with (go_at_call 120;refine(LC.out _).mono ?_;rintro e w' ⟨rfl,rfl⟩)
  go_roundg g
  case rel=>exact⟨k+1,_,_,_,_,_,_,Om,rfl,rfl,by go_num,rfl,rfl,rfl,rfl,rfl,rfl,Om,Om,Om,Om,Om,λ_=>rfl,rfl⟩
  omega
 |zero=>
  obtain rfl:dg=true:=HDG.out Om
  have hge:¬(((2+k:Nat):Int)<(s.size:Int)):=Om
  clear HDG
  go_wp2_with fail
  try rw[Exit.noGoto_ret]
  refine bodyPost_ret (v:=.tuple #[.int .u64 m,.int .i64 0,.bool false,.bool tr,.bool true,.int .i64 (2+(k:Int)),.bool false]) (by simp[results,Tryz.results154,go_sem]) rfl ⟨_,_,_,_,_,_,rfl,rfl⟩
theorem AL3(s:ByteArray)(i0 i1 i2:Nat)(neg eneg:Bool)(h:Q3 s i0 i1 i2 neg eneg)(B:Nat)(w:World)(hB:B<w.heap.size) :
 Calls Tryz.prog 160 #[.pointer (some ⟨B,0,none⟩),.string s] (dw w B (CM.zero false)) λe w'=>e=.returned (.bool true)/\∃m,w'=dw (w.drewN m) B (UL s i0 i1 i2 neg eneg):=by
 have hsm:=h.small
 have hs1:=h.some
 have hft:=h.fits
 have H:=Hd h
 have h0:0<s.size:=Om
 have h0i:(0:Int)<(s.size:Int):=Om
 have hne:¬s=ByteArray.empty:=by rintro rfl;simp at h0
 have hz:(CM.zero false).d.size=800:=by simp[CM.zero]
 obtain⟨W,hW⟩:∃W,W=dw w B (CM.zero false):=⟨_,rfl⟩
 have c3:W.cell? ⟨B,802,none⟩=some (.bool false):=by rw[hW];exact AHt hB hz
 have c4:W.cell? ⟨B,803,none⟩=some (.bool false):=by rw[hW];exact OE hB hz
 have hfz:∀i,W.frozen? ⟨B,i,none⟩=false:=λi=>by rw[hW];exact IF hB _
 have s3:W.setCell ⟨B,802,none⟩ (.bool false)=W:=by rw[hW,V4 hz];rfl
 have s4:W.setCell ⟨B,803,none⟩ (.bool false)=W:=by rw[hW,J8 hz];rfl
 have s5:W.setCell ⟨B,802,none⟩ (.bool true)=dw w B (CM.zero true):=by rw[hW,V4 hz];rfl
 rw[<-hW]
 have HW:=Hd hW
 have S5:=Hd s5
 clear hW hz s5
 go_enter Tryz.func160,Tryz.ntmps160
 have e0:=AJ h0
 go_upto_block 0 with fail
 go_cut [5] from 20 to 33 (λv5 wx=>v5=.int .i64 i0/\wx=dw w B (CM.zero neg))
 case first=>
  have hsg:=h.sign;have hd:=h.head;clear h;rcases hsg with⟨rfl,rfl,hc⟩|⟨rfl,⟨rfl,hc⟩|⟨rfl,hc⟩⟩
  .have t1:(AA s 0==43)=false:=Bq
   have t2:(AA s 0==45)=false:=Bq;generalize AA s 0=c at *;go_wp2_with fail;go_meet;exact⟨rfl,HW.out⟩
  .have t1:(AA s 0==43)=true:=by rw[beq_iff_eq];exact hc
   clear hc hd;generalize AA s 0=c at *;go_wp2_with fail;go_meet;exact⟨rfl,HW.out⟩
  have t1:(AA s 0==43)=false:=Bq;have t2:(AA s 0==45)=true:=by rw[beq_iff_eq];exact hc
  clear hc hd;generalize AA s 0=c at *;go_wp2_with fail;go_meet;exact⟨rfl,S5.out⟩
 obtain⟨rfl,hwc⟩:=hcut
 have HWC:=Hd hwc
 clear e0 h h0 c3 c4 hfz s3 s4 HW S5 hwc
 go_wp2_with fail
 go_loopg [5,6,7] (i1-i0) (λg v5 v6 v7 wr=>∃k m:Nat,k+g=i1-i0/\v5=.int .i64 ((i0+k:Nat):Int)/\v6=.bool (SS.run s i0 neg k).dot/\v7=.bool (SS.run s i0 neg k).dg/\wr=dw (w.drewN m) B (SS.run s i0 neg k).x)
 case atStart=>exact⟨0,0,Om,rfl,rfl,rfl,HWC.out⟩
 clear HWC
 obtain⟨k,m,hkg,rfl,rfl,rfl,hwr⟩:=hrel
 have hfi:=SS.run_fine H.out k Om
 have hdot:=SS.run_dot H.out k Om
 have hdg:=SS.run_dg H.out k
 have hnext:SS.run s i0 neg (k+1)=(SS.run s i0 neg k).step (AA s (i0+k)):=rfl
 have hX:k=i1-i0->ADg s i0 i1 neg=SS.run s i0 neg k:=λe=>by unfold ADg;rw[e]
 obtain⟨x,hx⟩:∃x,SS.run s i0 neg k=x:=⟨_,rfl⟩
 rw[hx]at hfi hdot hdg hnext hX hwr ⊢
 clear hx
 obtain⟨dot,dg,x⟩:=x
 obtain⟨hok,hn0,hlo,hhi⟩:=hfi
 simp only at hok hn0 hlo hhi hdot hdg hwr
 have hB':B<(w.drewN m).heap.size:=hB
 have c1:wr.cell? ⟨B,800,none⟩=some (.int .i64 x.nd):=by rw[hwr];exact LE hB' hok.size
 have c2:wr.cell? ⟨B,801,none⟩=some (.int .i64 x.dp):=by rw[hwr];exact VO hB' hok.size
 have hfz:∀i,wr.frozen? ⟨B,i,none⟩=false:=λi=>by rw[hwr];exact IF hB' _
 have hsz:=hok.size
 have hn8:=hok.most
 have HX:=Hd hX
 have HDG:=Hd hdg
 have HWR:=Hd hwr
 clear hX hdg hwr hok
 show Code.wp _ _ _ _ _
 cases gk with
 |succ g=>
  have hik:i0+k<s.size:=Om
  have hiki:((i0+k:Nat):Int)<(s.size:Int):=Om
  have ec:=AJ hik
  have hm:=H.out.mant (i0+k) Om Om
  have hd46:AA s (i0+k)=46->dot=false:=λhc=>by
   cases dot with
   |false=>rfl
   |true=>obtain⟨i,a,b,e⟩:=hdot rfl;exact absurd hc (H.out.one i (i0+k) a b Om e)
  clear hdot
  generalize AA s (i0+k)=c at *
  rcases hm with hc|⟨hc1,hc2⟩
  .obtain rfl:=hd46 hc
   have hs:SS.run s i0 neg (k+1)=⟨true,dg,{ x with dp:=x.nd }⟩:=by rw[hnext];unfold SS.step;rw[if_pos hc]
   have HS:=Hd hs;have t1:(c==95)=false:=Bq;have t2:(c==46)=true:=by rw[beq_iff_eq];exact hc
   clear hs hnext hd46 hc;go_wp2_with fail;go_roundg g
   case rel=>exact⟨k+1,_,Om,by go_num,by rw[HS.out],by rw[HS.out],by rw[HS.out];rw[HWR.out];exact F7 hsz _⟩
   omega
  have hc46:¬c=46:=Om
  have t1:(c==95)=false:=Bq
  have t2:(c==46)=false:=Bq
  by_cases hz:c=48/\x.nd=0
  .have hs:SS.run s i0 neg (k+1)=⟨dot,true,{ x with dp:=x.dp-1 }⟩:=by rw[hnext];unfold SS.step;rw[if_neg hc46,if_pos hz]
   have HS:=Hd hs;have t3:(c==48)=true:=by rw[beq_iff_eq];exact hz.1
   have t4:(x.nd==0)=true:=by rw[beq_iff_eq];exact hz.2
   clear hs hnext hd46 hc46 hz;go_wp2_with fail;go_roundg g
   case rel=>exact⟨k+1,_,Om,by go_num,by rw[HS.out],by rw[HS.out],by rw[HS.out];rw[HWR.out];exact F7 hsz _⟩
   omega
  by_cases hl:x.nd<800
  .obtain⟨nn,hnn⟩:∃nn:Nat,x.nd=nn:=⟨x.nd.toNat,Om⟩
   have hs:SS.run s i0 neg (k+1)=⟨dot,true,{ x with d:=x.d.set! nn c,nd:=x.nd+1 }⟩:=by rw[hnext];unfold SS.step;rw[if_neg hc46,if_neg hz,if_pos hl];rw[hnn,Int.toNat_natCast]
   have HS:=Hd hs;have hct:∃v,wr.cell? ⟨B,nn,none⟩=some v:=⟨_,by rw[HWR.out];exact E0 hB' hsz nn Om⟩;obtain⟨vt,hct⟩:=hct;have hz4:c=48->x.nd≠0:=λa b=>hz ⟨a,b⟩;have HNN:=Hd hnn;have hl':(nn:Int)<800:=Om;rw[hnn]at c1 hl hz4;have hnn8:nn<800:=Om;have SC:=Hd (λW2 (m2:Nat) (e:W2=dw (w.drewN m2) B x)=>show ((W2.setCell ⟨B,nn,none⟩ (.int .u8 c)).setCell ⟨B,800,none⟩ (.int .i64 ((nn:Int)+1))).drew=dw (w.drewN (m2+1)) B { x with d:=x.d.set! nn c,nd:=x.nd+1 } by rw[e,IB hsz nn hnn8,KB (by simp[hsz]),HNN.out,<-MG];rfl);clear hs hnext hd46 hc46 hz hnn;by_cases h48:c=48
   .have t3:(c==48)=true:=by rw[beq_iff_eq];exact h48
    have t4:((nn:Int)==0)=false:=by rw[Bn];exact hz4 h48
    clear h48 hz4;go_wp2_with fail;go_still_tail 11,Kr;go_wp2_with fail;go_roundg g
    case rel=>exact⟨k+1,_,Om,by go_num,by rw[HS.out],by rw[HS.out],by rw[HS.out];exact SC.out _ _ HWR.out⟩
    omega
   have t3:(c==48)=false:=by rw[Bn];exact h48
   clear h48 hz4;go_wp2_with fail;go_still_tail 11,Kr;go_wp2_with fail;go_roundg g
   case rel=>exact⟨k+1,_,Om,by go_num,by rw[HS.out],by rw[HS.out],by rw[HS.out];exact SC.out _ _ HWR.out⟩
   omega
  by_cases h48:c=48
  .have hs:SS.run s i0 neg (k+1)=⟨dot,true,x⟩:=by rw[hnext];unfold SS.step;rw[if_neg hc46,if_neg hz,if_neg hl];simp[h48]
   have HS:=Hd hs;have t3:(c==48)=true:=by rw[beq_iff_eq];exact h48
   have t4:(x.nd==0)=false:=by rw[Bn];exactλe=>hz ⟨h48,e⟩
   have t5:(c !=48)=false:=by rw[bne_eq_false_iff_eq];exact h48
   clear hs hnext hd46 hc46 hz h48;go_wp2_with fail;go_roundg g
   case rel=>exact⟨k+1,_,Om,by go_num,by rw[HS.out],by rw[HS.out],by rw[HS.out];exact HWR.out⟩
   omega
  have hs:SS.run s i0 neg (k+1)=⟨dot,true,{ x with trunc:=true }⟩:=by rw[hnext];unfold SS.step;rw[if_neg hc46,if_neg hz,if_neg hl];simp[h48]
  have HS:=Hd hs
  have t3:(c==48)=false:=by rw[Bn];exact h48
  have t5:(c !=48)=true:=by rw[bne_iff_ne];exact h48
  have c5:wr.cell? ⟨B,803,none⟩=some (.bool x.trunc):=by rw[HWR.out];exact OE hB' hsz
  clear hs hnext hd46 hc46 hz h48
  go_wp2_with fail
  go_roundg g
  case rel=>exact⟨k+1,_,Om,by go_num,by rw[HS.out],by rw[HS.out],by rw[HS.out];rw[HWR.out];exact J8 hsz _⟩
  omega
 |zero=>
  obtain rfl:dg=true:=HDG.out Om Om
  have hxe:=HX.out Om
  obtain⟨dq,hdq⟩:∃dq,(if dot then x.dp else x.nd)=dq:=⟨_,rfl⟩
  have HDQ:=Hd hdq
  have hdq1:-200000<=dq/\dq<=200000:=by rw[<-hdq];split<;>omega
  obtain⟨hdq1,hdq2⟩:=hdq1
  have hsx:∀A,Q9 s i1 i2 eneg=A->UL s i0 i1 i2 neg eneg={ x with dp:=dq+A }:=λA hA=>by unfold UL;rw[hxe,hA];simp only;rw[hdq]
  have HSX:=Hd hsx
  have hki:i0+k=i1:=Om
  rw[hki]
  clear hxe hdq HX HDG hdot hnext hki hsx
  by_cases hend:i1=s.size
  .have hA:Q9 s i1 i2 eneg=0:=by unfold Q9;rw[if_pos hend]
   have HA:=Hd hA;have hge:¬((i1:Int)<(s.size:Int)):=Om;have HE:=Hd hend;clear hA hend;go_upto_if 120 with fail;go_cut [] from 121 to 127 (λwx=>wx=dw (w.drewN m) B { x with dp:=dq })
   case first=>
    cases dot with
    |true=>obtain rfl:dq=x.dp:=HDQ.out.symm;go_wp2_with fail;go_meet;exact HWR.out
    |false=>obtain rfl:dq=x.nd:=HDQ.out.symm;go_wp2_with fail;go_meet;rw[HWR.out];exact F7 hsz _
   have HWC:=Hd hcut;have he:=HE.out;rw[he];have hge2:¬((s.size:Int)<(s.size:Int)):=Om;clear he hcut;go_wp2_with fail;go_ret;exact⟨rfl,m,by rw[HWC.out,HSX.out 0 HA.out,Int.add_zero]⟩
  obtain⟨hch,hi2,hsgn,hdg⟩:=H.out.tail.resolve_left hend
  have hlt:((i1:Nat):Int)<(s.size:Int):=Om
  have hlt1:((i1:Nat):Int)+1<(s.size:Int):=Om
  have hltN:i1<s.size:=Om
  have ec:=AJ hltN
  have hA:Q9 s i1 i2 eneg=J6 s i2 (s.size-i2)*(if eneg then -1 else 1):=by unfold Q9;rw[if_neg hend]
  obtain⟨A,hA'⟩:∃A,J6 s i2 (s.size-i2)*(if eneg then -1 else 1)=A:=⟨_,rfl⟩
  rw[hA']at hA
  have HA:=Hd hA
  have HA':=Hd hA'
  have hei:=OM hdg (s.size-i2) Om
  have hAi:-100000<=A/\A<=100000:=by rw[<-hA'];split<;>omega
  obtain⟨hAi1,hAi2⟩:=hAi
  have hlow:bits .or .u8 (AA s i1) 32=101:=by
   rcases hch with a|a
   .rw[a,G2 Om Om]
   rw[a,LG Om Om];rfl
  have hb:=CJ s i1
  have t1:(AA s i1==95)=false:=Bq
  have t2:(AA s i1==46)=false:=Bq
  have t3:57<AA s i1:=Om
  have t4:decide (AA s i1<=57)=false:=decide_eq_false Om
  have t5:decide ((s.size:Int)<=(i1:Int)+1)=false:=decide_eq_false Om
  have HDD:=Hd hdg
  have HSG:=Hd hsgn
  have HLO:=Hd hlow
  generalize AA s i1=c at *
  clear hend hch hsgn hA hA' hei hlow hdg
  go_upto_if 120 with fail
  go_cut [] from 121 to 127 (λwx=>wx=dw (w.drewN m) B { x with dp:=dq })
  case first=>
   cases dot with
   |true=>obtain rfl:dq=x.dp:=HDQ.out.symm;go_wp2_with fail;go_meet;exact HWR.out
   |false=>obtain rfl:dq=x.nd:=HDQ.out.symm;go_wp2_with fail;go_meet;rw[HWR.out];exact F7 hsz _
  have HWC:=Hd hcut
  have c2':wc.cell? ⟨B,801,none⟩=some (.int .i64 dq):=by rw[hcut];exact VO (x:={ x with dp:=dq }) hB' hsz
  have hfz2:∀i,wc.frozen? ⟨B,i,none⟩=false:=λi=>by rw[hcut];exact IF hB' _
  clear hcut c1 c2 hfz HWR
  have LC:=Hd (λw=>C7 c w hb.1 hb.2)
  have lc:=HLO.out
  have LC2:Hid (∀w,Calls Tryz.prog 120 #[.int .u8 c] w λe w'=>e=.returned (.int .u8 101)/\w=w'):=λw=>by have:=LC.out w;rw[lc]at this;exact this
  clear lc LC
  go_upto_block 4 with(go_at_call 120;refine(LC2.out _).mono ?_;rintro e w' ⟨rfl,rfl⟩)
  go_cut [5,8] from 145 to 155 (λv7 v19 wx=>v7=.int .i64 i2/\v19=.int .i64 (if eneg then -1 else 1)/\wx=wc)
  case first=>
   have hltN1:i1+1<s.size:=Om;have e1:=AJ hltN1;have hhd:=HDD.out;rcases HSG.out with⟨ha,rfl⟩|⟨ha,⟨rfl,hc⟩|⟨rfl,hc⟩⟩
   .obtain⟨hd21,hd22⟩:=hhd (i1+1) Om Om
    have u1:(AA s (i1+1)==43)=false:=Bq;have u2:(AA s (i1+1)==45)=false:=Bq;generalize AA s (i1+1)=c2 at *;have HAA:=Hd ha;clear hhd ha;go_wp2_with fail;go_meet;exact⟨by rw[HAA.out];go_num,rfl,rfl⟩
   .have u1:(AA s (i1+1)==43)=true:=by rw[beq_iff_eq];exact hc
    generalize AA s (i1+1)=c2 at *;have HAA:=Hd ha;clear hhd ha hc;go_wp2_with fail;go_meet;exact⟨by rw[HAA.out];go_num,rfl,rfl⟩
   have u1:(AA s (i1+1)==43)=false:=Bq;have u2:(AA s (i1+1)==45)=true:=by rw[beq_iff_eq];exact hc
   generalize AA s (i1+1)=c2 at *;have HAA:=Hd ha;clear hhd ha hc;go_wp2_with fail;go_meet;exact⟨by rw[HAA.out];go_num,rfl,rfl⟩
  obtain⟨rfl,rfl,rfl⟩:=hcut
  obtain⟨hd21,hd22⟩:=HDD.out i2 Nl hi2
  have e2:=AJ hi2
  obtain⟨es,hes⟩:∃es:Int,(if eneg then -1 else 1)=es:=⟨_,rfl⟩
  have hA1:=HA'.out
  have hes1:-1<=es/\es<=1:=by rw[<-hes];split<;>omega
  rw[hes]at hA1 ⊢
  have HA1:=Hd hA1
  have HQ2:=Hd hes1
  have hi2i:(i2:Int)<(s.size:Int):=Om
  clear hA1 hes HA' hes1 ec t1 t2 t3 hb HLO LC2
  have t6:decide (s.size<=i2)=false:=decide_eq_false Om
  have t7:decide (AA s i2<48)=false:=decide_eq_false Om
  have t8:decide (57<AA s i2)=false:=decide_eq_false Om
  generalize AA s i2=c2 at hd21 hd22 e2 t7 t8
  go_wp2_with fail
  clear e2 hd21 hd22 hi2i hlt hltN hlt1 t4 t5 t6 t7 t8
  go_loopg [5,9] (s.size-i2) (λg v7 v20 wr=>∃k2:Nat,k2+g=s.size-i2/\v7=.int .i64 ((i2+k2:Nat):Int)/\v20=.int .i64 (J6 s i2 k2)/\wr=wc)
  case atStart=>exact⟨0,Om,rfl,rfl,rfl⟩
  obtain⟨k2,hkg2,rfl,rfl,rfl⟩:=hrel
  have hei2:=OM HDD.out k2 Om
  have hnext2:J6 s i2 (k2+1)=SN (J6 s i2 k2) (AA s (i2+k2)):=rfl
  have hfin:k2=s.size-i2->J6 s i2 k2*es=A:=λe=>by rw[e];exact HA1.out
  generalize J6 s i2 k2=ev at *
  have HFI:=Hd hfin
  clear hfin
  cases gk with
  |succ g=>
   have hik:i2+k2<s.size:=Om
   have hiki:((i2+k2:Nat):Int)<(s.size:Int):=Om
   have ec:=AJ hik
   obtain⟨hd31,hd32⟩:=HDD.out (i2+k2) Om hik
   generalize AA s (i2+k2)=c3 at *
   have u1:(c3==95)=false:=Bq
   by_cases hev:ev<10000
   .have hs:J6 s i2 (k2+1)=ev*10+c3-48:=by rw[hnext2];unfold SN;rw[if_pos hev]
    have HS:=Hd hs;clear hs hnext2;go_wp2_with fail;go_roundg g
    case rel=>exact⟨k2+1,Om,by go_num,by rw[HS.out],rfl⟩
    omega
   have hs:J6 s i2 (k2+1)=ev:=by rw[hnext2];unfold SN;rw[if_neg hev]
   have HS:=Hd hs
   clear hs hnext2
   go_wp2_with fail
   go_roundg g
   case rel=>exact⟨k2+1,Om,by go_num,by rw[HS.out],rfl⟩
   omega
  |zero=>
   have hA2:ev*es=A:=HFI.out Om
   have hki:i2+k2=s.size:=Om
   rw[hki]
   have hge:¬((s.size:Int)<(s.size:Int)):=Om
   clear hki hnext2 HFI
   go_wp2_with fail
   go_ret
   exact⟨rfl,m,by rw[HWC.out,HSX.out A HA.out];exact F7 (x:={ x with dp:=dq }) hsz _⟩
theorem ABu(s:ByteArray)(k i:Nat):AA (s.extract k s.size) i=AA s (k+i):=by
 have h:(s.extract k s.size).data.toList=s.data.toList.drop k:=by simp[ByteArray.data_extract,List.extract_eq_take_drop];rw[List.take_of_length_le Sm]
 unfold AA;rw[h,List.getD_eq_getElem?_getD,List.getD_eq_getElem?_getD,List.getElem?_drop]
theorem XX(s:ByteArray)(k:Nat):(s.extract k s.size).size=s.size-k:=by simp
theorem AAs(s:ByteArray)(hs:1<=s.size)(hm:s.size<=100000)(h0:48<=AA s 0)(h1:AA s 0<=57)(w:World) :
 Calls Tryz.prog 173 #[.string s,.string ⟨#[105,110,102,105,110,105,116,121]⟩] w λe w'=>e=.returned (.int .i64 0)/\w=w':=by
 have e0:=AJ (s:=s) (i:=0) hs
 generalize AA s 0=c at *
 have hne:¬s=ByteArray.empty:=by rintro rfl;simp at hs
 have t1:decide (65<=c)=false:=decide_eq_false Om
 have t2:(c !=105)=true:=by rw[bne_iff_ne];omega
 have t3:((⟨#[105,110,102,105,110,105,116,121]⟩:ByteArray)[0]' De).toNat=105:=rfl
 by_cases h8:(s.size:Int)<8
 .go_enter Tryz.func173,Tryz.ntmps173
  go_wp2_with fail;go_loopg [6] 0 (λ_ v6 wr=>v6=.int .i64 0/\wr=w)
  case atStart=>exact⟨rfl,rfl⟩
  obtain⟨rfl,rfl⟩:=hrel;go_wp2_with fail;go_ret;exact⟨rfl,rfl⟩
 go_enter Tryz.func173,Tryz.ntmps173
 go_wp2_with fail
 go_loopg [6] 0 (λ_ v6 wr=>v6=.int .i64 0/\wr=w)
 case atStart=>exact⟨rfl,rfl⟩
 obtain⟨rfl,rfl⟩:=hrel
 go_wp2_with fail
 go_ret
 exact⟨rfl,rfl⟩
theorem QV(s:ByteArray)(i0:Nat)(hs:i0<s.size)(hm:s.size<=100000)(hi:i0=0\/i0=1/\(AA s 0=43\/AA s 0=45))(h0:48<=AA s i0)(h1:AA s i0<=57)(w:World) :
 Calls Tryz.prog 153 #[.string s] w λe w'=>e=.returned (.tuple #[.float .f64 0,.int .i64 0,.bool false])/\w=w':=by
 have hs0:0<s.size:=Om
 have e0:=AJ hs0
 have hne:¬s=ByteArray.empty:=by rintro rfl;simp at hs0
 have hs0i:(0:Int)<(s.size:Int):=Om
 rcases hi with rfl|⟨rfl,hc⟩
 .generalize AA s 0=c at *
  have t1:(c==43)=false:=Bq;have t2:(c==45)=false:=Bq;have t3:(c==105)=false:=Bq;have t4:(c==73)=false:=Bq;have t5:(c==110)=false:=Bq;have t6:(c==78)=false:=Bq;go_enter Tryz.func153,Tryz.ntmps153;go_wp2_with fail;go_ret3;exact⟨rfl,rfl⟩
 have CP:=Hd (λw=>AAs (s.extract 1 s.size) (by rw[XX];omega) (by rw[XX];omega) (by rw[ABu];exact h0) (by rw[ABu];exact h1) w)
 have hsz:(1:Int)<=(s.size:Int):=Om
 rcases hc with hc|hc
 .have t1:(AA s 0==43)=true:=by rw[beq_iff_eq];exact hc
  have t2:(AA s 0==45)=false:=Bq;generalize AA s 0=c at *;clear hc;go_enter Tryz.func153,Tryz.ntmps153;go_wp2_with fail;refine(CP.out _).mono ?_;rintro e w' ⟨rfl,rfl⟩;go_wp2_with fail;go_ret3;exact⟨rfl,rfl⟩
 have t1:(AA s 0==43)=false:=Bq
 have t2:(AA s 0==45)=true:=by rw[beq_iff_eq];exact hc
 generalize AA s 0=c at *
 clear hc
 go_enter Tryz.func153,Tryz.ntmps153
 go_wp2_with fail
 refine(CP.out _).mono ?_
 rintro e w' ⟨rfl,rfl⟩
 go_wp2_with fail
 go_ret3
 exact⟨rfl,rfl⟩
theorem AQj(s:Nat)(h:s<64):bits .and .i64 (s:Int) 63=s:=by
 have:∀s:Fin 64,bits .and .i64 ((s.val:Nat):Int) 63=((s.val:Nat):Int):=by decide +kernel
 exact this ⟨s,h⟩
theorem ACi(x hi lo s:Nat)(hx:x<18446744073709551616)(hhi:hi<18446744073709551616)(hlo:lo<18446744073709551616)(h8:s<64) :
 ∃r:Int,∀(w:World) (b o:Nat),w.cell? ⟨b,o,none⟩=some (.int .u64 hi)->w.cell? ⟨b,o+1,none⟩=some (.int .u64 lo)->w.cell? ⟨b,o+2,none⟩=some (.int .i64 s)->
  Calls Tryz.prog 178 #[.int .u64 x,.pointer (some ⟨b,o,none⟩)] w λe w'=>e=.returned (.int .u64 r)/\∃n,w'=w.drewN n:=by
 have ha:=AQj s h8
 have HM:=Hd (λw=>(Tryz.bits_Mul64 x hi hx hhi w).mono λ_ w2 h=>(And.intro h.1 h.2.symm:_/\w=w2))
 have HM2:=Hd (λw=>(Tryz.bits_Mul64 x lo hx hlo w).mono λ_ w2 h=>(And.intro h.1 h.2.symm:_/\w=w2))
 obtain⟨p,hp⟩:∃p,x*hi/18446744073709551616=p:=⟨_,rfl⟩
 obtain⟨q,hq⟩:∃p,x*hi%18446744073709551616=p:=⟨_,rfl⟩
 obtain⟨p2,hp2⟩:∃p,x*lo/18446744073709551616=p:=⟨_,rfl⟩
 obtain⟨q2,hq2⟩:∃p,x*lo%18446744073709551616=p:=⟨_,rfl⟩
 rw[hp,hq]at HM
 rw[hp2,hq2]at HM2
 clear hx hhi hlo hp hq hp2 hq2
 cases t:(IntKind.u64.wrap ((p:Int)/2^s*2^s)!=(p:Int)) with
 |true=>
  exact⟨_,λw b o c0 c1 c2=>by go_enter Tryz.func178,Tryz.ntmps178;go_wp2_with fail;refine(HM.out _).mono ?_;rintro e w' ⟨rfl,rfl⟩;go_wp2_with fail;go_ret;exact⟨rfl,0,rfl⟩⟩
 |false=>
  have B1:=Hd (λw=>RY (decide (q<p2)) w)
  have B2:=Hd (λw=>RY (decide (1<IntKind.u64.wrap ((q:Int)-(p2:Int)))) w)
  obtain⟨v1,hv1⟩:∃v1:Int,(if decide (q<p2)=true then(1:Int) else 0)=v1:=⟨_,rfl⟩
  obtain⟨v2,hv2⟩:∃v2:Int,(if decide (1<IntKind.u64.wrap ((q:Int)-(p2:Int)))=true then(1:Int) else 0)=v2:=⟨_,rfl⟩
  rw[hv1]at B1
  rw[hv2]at B2
  clear hv1 hv2
  exact⟨_,λw b o c0 c1 c2=>by go_enter Tryz.func178,Tryz.ntmps178;go_wp2_with fail;refine(HM.out _).mono ?_;rintro e w' ⟨rfl,rfl⟩;go_wp2_with fail;refine(HM2.out _).mono ?_;rintro e w' ⟨rfl,rfl⟩;go_wp2_with fail;refine(B1.out _).mono ?_;rintro e w' ⟨rfl,rfl⟩;go_wp2_with fail;go_quiet ((go_at_call 162;exact Calls.quiet_of_same ((B2.out _).mono λ_ w2 h=>(And.intro h.1 h.2.symm))));go_wp2_with fail;go_ret;exact⟨rfl,_,rfl⟩⟩
theorem F5{B:Nat}{w W:World}(h:Below B w W)(n:Nat):Below B w (W.drewN n):=⟨h.os,h.tape,h.output,h.size,h.block⟩
structure P10(T:Nat->Nat)(w:World):Prop where
 cell:∀i,i<1392->w.cell? ⟨13,i,none⟩=some (.int .u64 (T i))
 small:∀i,T i<18446744073709551616
theorem UY(T:Nat->Nat)(e p lp:Int)(i:Nat)(hi:i<696)(hp:p=(i:Int)-348)(he0:-100000<=e)(he1:e<=100000)(hl0:-100000<=lp)(hl1:lp<=100000)(w:World)(h13:13<w.heap.size)(hT:P10 T w) :
 Calls Tryz.prog 177 #[.pointer (some ⟨w.heap.size,0,none⟩),.int .i64 e,.int .i64 p,.int .i64 lp] (w.alloc (.cells #[.int .u64 0,.int .u64 0,.int .i64 0] 261)) λe' w'=>e'=.returned (.tuple #[])/\w'=w.alloc (.cells #[.int .u64 (T (i*2)),.int .u64 (T (i*2+1)),.int .i64 (-(e+lp+3))] 261):=by
 subst hp
 have c0:=hT.cell (i*2) Om
 have c1:=hT.cell (i*2+1) Om
 have n0:w.heap.size≠13:=Om
 have x1:(i:Int)-348 - -348=(i:Int):=Om
 have hi':(i:Int)<696:=Om
 clear hT
 go_enter Tryz.func177,Tryz.ntmps177
 go_wp2_with fail
 go_end0
 exact⟨rfl,rfl⟩
theorem AI6(T:Nat->Nat)(hT8:∀i,T i<18446744073709551616)(d p sg:Int)(hd0:0<=d)(GR:d<=18446744073709551615)(hp0:-348<=p)(hp1:p<=347) :
 ∃(f:Nat) (er:Bool),∀w,13<w.heap.size->P10 T w->Calls Tryz.prog 165 #[.int .u64 d,.int .i64 p,.int .u64 sg] w λe w'=>e=.returned (.tuple #[.float .f64 f,PS er])/\Below w.heap.size w w':=by
 obtain⟨lp,hl0,hl1,hL⟩:=ACy p Om Om
 obtain⟨b,hbv⟩:∃b,Lib.bitLen d.toNat=b:=⟨_,rfl⟩
 have hb:b<=64:=by rw[<-hbv];exact Lib.bitLen_le _ 64 Nl Om
 have HB:=Hd (λw=>(Tryz.bits_Len64 d w hd0 GR).mono λ_ w2 h=>(And.intro h.1 h.2.symm:_/\w=w2))
 rw[hbv]at HB
 obtain⟨e0,he0⟩:∃e0:Int,min 1074 (53-(b:Int)-lp)=e0:=⟨_,rfl⟩
 have he1:e0<=1074/\-3000<=e0:=Om
 obtain⟨i,hi⟩:∃i:Nat,p=(i:Int)-348:=⟨(p+348).toNat,Om⟩
 have HP:=Hd (λw h13 hT=>UY T (e0-(64-(b:Int))) p lp i Om hi Om Om Om Om w h13 hT)
 obtain⟨s,hs⟩:∃s:Int,-(e0-(64-(b:Int))+lp+3)=s:=⟨_,rfl⟩
 have hs8:8<=s:=Om
 rw[hs]at HP
 have HL:=Hd hL
 obtain⟨he1,he2⟩:=he1
 clear hbv hs hL hi
 have hd:=VB
 by_cases h64:s≥64
 .exact⟨_,false,λw h13 hT=>by have HPw:=HP.out w h13 hT;have HPx:=Hd HPw;clear HPw hT;go_enter Tryz.func165,Tryz.ntmps165;go_wp2_with fail;refine(HB.out _).mono ?_;rintro e w' ⟨rfl,rfl⟩;go_wp2_with fail;refine(HL.out _).mono ?_;rintro e w' ⟨rfl,rfl⟩;go_wp2_with fail;refine HPx.out.mono ?_;rintro e w' ⟨rfl,rfl⟩;go_wp2_with fail;go_ret2;exact⟨rfl,Bl.alloc Nl _⟩⟩
 obtain⟨ss,hss⟩:∃ss:Nat,s=ss:=⟨s.toNat,Om⟩
 subst hss
 obtain⟨x,hx0,hx⟩:∃x:Nat,IntKind.u64.wrap (d*2^(64-b))=x/\x<18446744073709551616:=by have:=LL (d*2^(64-b));exact⟨(IntKind.u64.wrap (d*2^(64-b))).toNat,Om,Om⟩
 obtain⟨r,hr⟩:=ACi x (T (i*2)) (T (i*2+1)) ss hx (hT8 _) (hT8 _) Om
 obtain⟨um,hum⟩:=AAg
 have HR:=Hd hr
 have HU:=Hd hum
 have HB2:=Hd (λw=>AGp (decide (um<=r)) w)
 clear hr hum hx
 cases t:decide (um<=r) with
 |false=>
  rw[t]at HB2
  obtain⟨rv,hrv⟩:=SM (bits .or .u64 r (bits .and .u64 r 1))
  have HRV:=Hd hrv
  obtain⟨f,er,hpk⟩:=ABa (bits .or .u64 sg rv) (-e0)
  have HPK:=Hd hpk
  clear hrv hpk
  exact⟨f,er,λw h13 hT=>by have HPw:=HP.out w h13 hT;have HPx:=Hd HPw;clear HPw hT;go_enter Tryz.func165,Tryz.ntmps165;go_wp2_with fail;refine(HB.out _).mono ?_;rintro e w' ⟨rfl,rfl⟩;go_wp2_with fail;refine(HL.out _).mono ?_;rintro e w' ⟨rfl,rfl⟩;go_wp2_with fail;refine HPx.out.mono ?_;rintro e w' ⟨rfl,rfl⟩;go_wp2_with fail;refine(HR.out _ _ _ (by go_simp) (by go_simp) (by go_simp)).mono ?_;rintro e w' ⟨rfl,n,rfl⟩;go_wp2_with fail;refine(HU.out _).mono ?_;rintro e w' ⟨rfl,rfl⟩;go_wp2_with fail;refine(HB2.out _).mono ?_;rintro e w' ⟨rfl,rfl⟩;go_wp2_with fail;refine(HRV.out _).mono ?_;rintro e w' ⟨rfl,rfl⟩;go_wp2_with fail;refine(HPK.out _).mono ?_;rintro e w' ⟨rfl,rfl⟩;go_wp2_with fail;go_ret2;exact⟨rfl,F5 (Bl.alloc Nl _) _⟩⟩
 |true=>
  rw[t]at HB2
  obtain⟨rv,hrv⟩:=SM (bits .or .u64 (r/2) (bits .and .u64 r 1))
  have HRV:=Hd hrv
  obtain⟨f,er,hpk⟩:=ABa (bits .or .u64 sg rv) (-(e0-1))
  have HPK:=Hd hpk
  clear hrv hpk
  exact⟨f,er,λw h13 hT=>by have HPw:=HP.out w h13 hT;have HPx:=Hd HPw;clear HPw hT;go_enter Tryz.func165,Tryz.ntmps165;go_wp2_with fail;refine(HB.out _).mono ?_;rintro e w' ⟨rfl,rfl⟩;go_wp2_with fail;refine(HL.out _).mono ?_;rintro e w' ⟨rfl,rfl⟩;go_wp2_with fail;refine HPx.out.mono ?_;rintro e w' ⟨rfl,rfl⟩;go_wp2_with fail;refine(HR.out _ _ _ (by go_simp) (by go_simp) (by go_simp)).mono ?_;rintro e w' ⟨rfl,n,rfl⟩;go_wp2_with fail;refine(HU.out _).mono ?_;rintro e w' ⟨rfl,rfl⟩;go_wp2_with fail;refine(HB2.out _).mono ?_;rintro e w' ⟨rfl,rfl⟩;go_wp2_with fail;refine(HRV.out _).mono ?_;rintro e w' ⟨rfl,rfl⟩;go_wp2_with fail;refine(HPK.out _).mono ?_;rintro e w' ⟨rfl,rfl⟩;go_wp2_with fail;go_ret2;exact⟨rfl,F5 (Bl.alloc Nl _) _⟩⟩
