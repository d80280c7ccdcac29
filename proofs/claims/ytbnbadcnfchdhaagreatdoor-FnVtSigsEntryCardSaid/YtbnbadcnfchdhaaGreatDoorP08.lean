/- Lemmas for FnVtSigsEntry; no conditions. -/
import Derived.Test.YtbnbadcnfchdhaaGreatDoorP03
import Derived.IntWalk
set_option maxRecDepth 100000
set_option maxHeartbeats 16000000
set_option linter.all false
namespace Go.Proofs.YtbnbadcnfchdhaaGreatDoor
open Go.RowKit
def BG(s:ByteArray)(m:Int)(i:Nat):Nat:=if h:i<s.size/\48<=AA s i/\AA s i<=m then BG s m (i+1) else i
 termination_by s.size-i
def DD(c:Int):Bool:=decide (48<=c/\c<=57)||decide (97<=c/\c<=102)||decide (65<=c/\c<=70)
def JP(s:ByteArray)(i:Nat):Nat:=if h:i<s.size/\DD (AA s i)=true then JP s (i+1) else i
 termination_by s.size-i
theorem G9{s:ByteArray}{m:Int}{i:Nat}(h:i<s.size/\48<=AA s i/\AA s i<=m):BG s m i=BG s m (i+1):=by
 conv=>lhs;unfold BG
 rw[dif_pos h]
theorem GC{s:ByteArray}{m:Int}{i:Nat}(h:¬(i<s.size/\48<=AA s i/\AA s i<=m)):BG s m i=i:=by unfold BG;rw[dif_neg h]
theorem I0{s:ByteArray}{i:Nat}(h:i<s.size/\DD (AA s i)=true):JP s i=JP s (i+1):=by
 conv=>lhs;unfold JP
 rw[dif_pos h]
theorem G1{s:ByteArray}{i:Nat}(h:¬(i<s.size/\DD (AA s i)=true)):JP s i=i:=by unfold JP;rw[dif_neg h]
theorem FM(s:ByteArray)(m:Int)(i:Nat):i<=BG s m i:=by
 by_cases h:i<s.size/\48<=AA s i/\AA s i<=m
 .rw[G9 h];have:=FM s m (i+1);omega
 rw[GC h];exact Nl
 termination_by s.size-i
theorem EV(s:ByteArray)(m:Int)(i:Nat)(hi:i<=s.size):BG s m i<=s.size:=by
 by_cases h:i<s.size/\48<=AA s i/\AA s i<=m
 .rw[G9 h];exact EV s m (i+1) Om
 rw[GC h];exact hi
 termination_by s.size-i
theorem KM(s:ByteArray)(m:Int)(i:Nat):∀j,i<=j->j<BG s m i->48<=AA s j/\AA s j<=m:=by
 intro j hj hlt;by_cases h:i<s.size/\48<=AA s i/\AA s i<=m
 .rw[G9 h]at hlt
  by_cases e:i=j
  .subst e;exact h.2
  exact KM s m (i+1) j Om hlt
 rw[GC h]at hlt;omega
 termination_by s.size-i
theorem ZH(s:ByteArray)(i:Nat):i<=JP s i:=by
 by_cases h:i<s.size/\DD (AA s i)=true
 .rw[I0 h];have:=ZH s (i+1);omega
 rw[G1 h];exact Nl
 termination_by s.size-i
theorem O1(s:ByteArray)(i:Nat)(hi:i<=s.size):JP s i<=s.size:=by
 by_cases h:i<s.size/\DD (AA s i)=true
 .rw[I0 h];exact O1 s (i+1) Om
 rw[G1 h];exact hi
 termination_by s.size-i
theorem AA1(s:ByteArray)(i:Nat):∀j,i<=j->j<JP s i->DD (AA s j)=true:=by
 intro j hj hlt;by_cases h:i<s.size/\DD (AA s i)=true
 .rw[I0 h]at hlt
  by_cases e:i=j
  .subst e;exact h.2
  exact AA1 s (i+1) j Om hlt
 rw[G1 h]at hlt;omega
 termination_by s.size-i
def DL(s:ByteArray):Bool:=decide (AA s 0=43)||decide (AA s 0=45)
def low(c:Int):Int:=bits .or .u8 c 32
def CT(s:ByteArray):Nat×Bool:=
 let i0:=if DL s then 1 else 0
 if i0<s.size/\AA s i0=48 then
  let k:=i0+1
  if k<s.size/\AA s k=120 then
   let e:=JP s (k+1)
   (e,!DL s&&(decide (e=k+2)||(decide (k+1<e)&&decide (AA s (k+1)≠48))))
  else if k<s.size/\AA s k=46 then
   let e:=BG s 55 (k+1)
   (e,decide (k+1<e)&&(decide (e=s.size)||decide (low (AA s e)≠101)))
  else
   let e:=BG s 55 k
   (e,(decide (e=k)||!DL s)&&(decide (e=s.size)||(decide (low (AA s e)≠101)&&decide (low (AA s e)≠120))))
 else
  let e1:=BG s 57 i0
  if e1=i0 then(0,false)
  else
   let e2:=if e1<s.size/\AA s e1=46 then BG s 57 (e1+1) else e1
   if e2<s.size/\low (AA s e2)=101 then
    let e4:=if e2+1<s.size/\(AA s (e2+1)=43\/AA s (e2+1)=45) then e2+2 else e2+1
    let e5:=BG s 57 e4
    if e5=e4 then(0,false) else(e5,true)
   else(e2,true)
def nw(w:World)(s:ByteArray)(k:Int):World:=(w.alloc (.cells #[.string s] 9)).alloc (.cells #[.int .i64 k] 3)
theorem QS(s:ByteArray)(hs:s.size<=100000)(m:Int)(hm0:0<=m)(hm1:m<=255)(w:World)(k:Nat)(hk:k<=s.size) :
 Calls Tryz.prog 93 #[.int .u8 m,.pointer (some ⟨w.heap.size+1,0,none⟩),.pointer (some ⟨w.heap.size,0,none⟩)] (nw w s k) λe w'=>e=.returned (.int .i64 ((BG s m k:Int)-k))/\w'=nw w s (BG s m k:Nat):=by
 unfold nw
 go_enter Tryz.func93,Tryz.ntmps93
 go_wp2_with fail
 go_loopg [] (s.size-k) (λg wr=>∃j:Nat,k<=j/\j<=s.size/\j+g=s.size/\BG s m j=BG s m k/\wr=nw w s j)
 case atStart=>exact⟨k,Nl,hk,Om,rfl,rfl⟩
 obtain⟨j,hj0,hj1,hg,he,rfl⟩:=hrel
 unfold nw
 by_cases hlt:(j:Int)<(s.size:Int)
 .have hjs:j<s.size:=Om
  have ec:=AJ hjs;have hstp:48<=AA s j/\AA s j<=m->BG s m k=BG s m (j+1):=λh=>by rw[<-he,G9 ⟨hjs,h⟩]
  have hsto:¬(48<=AA s j/\AA s j<=m)->BG s m k=j:=λh=>by rw[<-he,GC (λx=>h x.2)]
  clear he;generalize AA s j=c at *;by_cases h48:48<=c
  .by_cases hcm:c<=m
   .have HE:=Hd (hstp ⟨h48,hcm⟩)
    clear hstp hsto;go_wp2_with fail;go_roundg (s.size-j-1)
    case rel=>exact⟨j+1,Om,Om,Om,HE.out.symm,by unfold nw;first|rfl|(congr 3;omega)⟩
    omega
   have HE:=Hd (hsto (λx=>hcm x.2));clear hstp hsto;go_wp2_with fail;go_ret;exact⟨by rw[HE.out]<;>rfl,by rw[HE.out]⟩
  have HE:=Hd (hsto (λx=>h48 x.1));clear hstp hsto;go_wp2_with fail;go_ret;exact⟨by rw[HE.out]<;>rfl,by rw[HE.out]⟩
 have HE:=Hd (show BG s m k=j by rw[<-he,GC (λx=>hlt Om)])
 clear he
 go_wp2_with fail
 go_ret
 exact⟨by rw[HE.out]<;>rfl,by rw[HE.out]⟩
def F6(c:Int):Int:=if 48<=c/\c<=57 then c-48 else if DD c then low c-87 else 0
theorem YC{c:Int}(h0:0<=c)(h1:c<=255)(hd:¬(48<=c/\c<=57)):DD c=(decide (97<=low c)&&decide (low c<=102)):=by have hl:=KN ⟨c.toNat,Om⟩;simp only at hl;rw[show ((c.toNat:Nat):Int)=c by omega]at hl;have hl':low c=if c.toNat/32%2=1 then c else c+32:=hl;rw[hl',Bool.eq_iff_iff];unfold DD;simp only[Bool.or_eq_true,Bool.and_eq_true,decide_eq_true_eq];split<;>omega
theorem KX(c:Int)(h0:0<=c)(h1:c<=255)(w:World) :
 Calls Tryz.prog 66 #[.int .u8 c] w λe w'=>e=.returned (.tuple #[.int .u8 (F6 c),.bool (DD c)])/\w=w':=by
 by_cases hd:48<=c/\c<=57
 .have hv:F6 c=c-48:=by unfold F6;rw[if_pos hd]
  have hi:DD c=true:=by unfold DD;simp[hd]
  rw[hv,hi];obtain⟨d0,d1⟩:=hd;clear hv hi;go_enter Tryz.func66,Tryz.ntmps66;go_wp2_with fail;go_ret2;exact⟨rfl,rfl⟩
 have hx:=YC h0 h1 hd
 have l0:=bits_lo_u8 .or c 32
 have l1:=bits_hi_u8 .or c 32
 have hlow:low c=bits .or .u8 c 32:=rfl
 have hv:F6 c=if DD c then low c-87 else 0:=by unfold F6;rw[if_neg hd]
 rw[hv,hx]
 rw[hlow]
 clear hv hx hlow
 by_cases h97:97<=(bits .or .u8 c 32)
 .by_cases h102:(bits .or .u8 c 32)<=102
  .simp only[decide_eq_true h97,decide_eq_true h102,Bool.and_true,if_true]
   have ev:(bits .or .u8 c 32)-87=(bits .or .u8 c 32)-97+10:=Om;rw[ev];by_cases h48:48<=c
   .have h57:¬c<=57:=λx=>hd ⟨h48,x⟩
    clear hd ev;go_enter Tryz.func66,Tryz.ntmps66;go_wp2_with fail;go_ret2;exact⟨rfl,rfl⟩
   clear hd ev;go_enter Tryz.func66,Tryz.ntmps66;go_wp2_with fail;go_ret2;exact⟨rfl,rfl⟩
  have e2:(decide (97<=(bits .or .u8 c 32))&&decide ((bits .or .u8 c 32)<=102))=false:=by simp[h102]
  rw[e2];simp only[Bool.false_eq_true,if_false];by_cases h48:48<=c
  .have h57:¬c<=57:=λx=>hd ⟨h48,x⟩
   clear hd e2;go_enter Tryz.func66,Tryz.ntmps66;go_wp2_with fail;go_ret2;exact⟨rfl,rfl⟩
  clear hd e2;go_enter Tryz.func66,Tryz.ntmps66;go_wp2_with fail;go_ret2;exact⟨rfl,rfl⟩
 have e2:(decide (97<=(bits .or .u8 c 32))&&decide ((bits .or .u8 c 32)<=102))=false:=by simp[h97]
 rw[e2]
 simp only[Bool.false_eq_true,if_false]
 by_cases h48:48<=c
 .have h57:¬c<=57:=λx=>hd ⟨h48,x⟩
  clear hd e2;go_enter Tryz.func66,Tryz.ntmps66;go_wp2_with fail;go_ret2;exact⟨rfl,rfl⟩
 clear hd e2
 go_enter Tryz.func66,Tryz.ntmps66
 go_wp2_with fail
 go_ret2
 exact⟨rfl,rfl⟩
def DV(s:ByteArray):Nat:=if DL s then 1 else 0
def ntZ(s:ByteArray)(sg:Bool)(k:Nat):Nat×Bool:=
 if k<s.size/\AA s k=120 then
  let e:=JP s (k+1)
  (e,!sg&&(decide (e=k+2)||(decide (k+1<e)&&decide (AA s (k+1)≠48))))
 else if k<s.size/\AA s k=46 then
  let e:=BG s 55 (k+1)
  (e,decide (k+1<e)&&(decide (e=s.size)||decide (low (AA s e)≠101)))
 else
  let e:=BG s 55 k
  (e,(decide (e=k)||!sg)&&(decide (e=s.size)||(decide (low (AA s e)≠101)&&decide (low (AA s e)≠120))))
def ntE(s:ByteArray)(e4:Nat):Nat×Bool:=if BG s 57 e4=e4 then(0,false) else(BG s 57 e4,true)
def ntT(s:ByteArray)(e2:Nat):Nat×Bool:=
 if e2<s.size/\low (AA s e2)=101 then ntE s (if e2+1<s.size/\(AA s (e2+1)=43\/AA s (e2+1)=45) then e2+2 else e2+1) else(e2,true)
def ntD(s:ByteArray)(i0:Nat):Nat×Bool:=
 if BG s 57 i0=i0 then(0,false)
 else ntT s (if BG s 57 i0<s.size/\AA s (BG s 57 i0)=46 then BG s 57 (BG s 57 i0+1) else BG s 57 i0)
theorem FX(s:ByteArray):CT s=if (DV s)<s.size/\AA s (DV s)=48 then ntZ s (DL s) (DV s+1) else ntD s (DV s):=rfl
theorem DI(w:World)(s:ByteArray)(k:Int)(n:Nat):Below w.heap.size w ((nw w s k).drewN n):=
 have h:Below w.heap.size w (nw w s k):=((Below.refl _ w).alloc Nl _).alloc Sm _
 ⟨h.os,h.tape,h.output,h.size,h.block⟩
theorem WY(s:ByteArray)(hs:s.size<=100000)(hp:0<s.size)(w:World) :
 Calls Tryz.prog 52 #[.string s] w λe w'=>e=.returned (.tuple #[.int .i64 (CT s).1,.bool (CT s).2])/\Below w.heap.size w w':=by
 have hne:¬s=ByteArray.empty:=by rintro rfl;simp at hp
 generalize hR:CT s=R
 have HR:=Hd hR.symm
 clear hR
 have e0:=AJ hp
 have hsg:(AA s 0==43||AA s 0==45)=DL s:=by unfold DL;rw[Bool.eq_iff_iff];simp
 have HS:=Hd hsg
 clear hsg
 generalize AA s 0=c0 at *
 generalize hsn:DL s=sg at *
 have HN:=Hd hsn
 clear hsn
 go_enter Tryz.func52,Tryz.ntmps52
 go_upto_region 2 with fail
 go_cut [5] from 12 to 19 (λv5 wx=>v5=.bool sg/\wx=nw w s (0:Nat))
 case first=>
  have h:=HS.out
  cases h1:(c0==43) with
  |true=>rw[h1]at h;obtain rfl:sg=true:=h.symm;clear h;go_wp2_with fail;go_meet;exact⟨rfl,rfl⟩
  |false=>
   cases h2:(c0==45) with
   |true=>rw[h1,h2]at h;obtain rfl:sg=true:=h.symm;clear h;go_wp2_with fail;go_meet;exact⟨rfl,rfl⟩
   |false=>rw[h1,h2]at h;obtain rfl:sg=false:=h.symm;clear h;go_wp2_with fail;go_meet;exact⟨rfl,rfl⟩
 obtain⟨rfl,rfl⟩:=hcut
 clear e0 HS
 unfold nw
 go_upto_if 20 with fail
 go_cut [] from 21 to 22 (λwx=>wx=nw w s ((if sg then 1 else 0:Nat):Nat))
 case first=>
  cases sg
  .go_wp2_with fail
   go_meet;exact rfl
  go_wp2_with fail;go_meet;exact rfl
 obtain rfl:=hcut
 have hnt:CT s=if (DV s)<s.size/\AA s (DV s)=48 then ntZ s sg (DV s+1) else ntD s (DV s):=by rw[FX,HN.out]
 have hi0:(if sg=true then 1 else 0:Nat)=DV s:=by unfold DV;rw[HN.out]
 have hile:DV s<=s.size:=by rw[<-hi0];split<;>omega
 rw[hi0]
 have HR1:=Hd (HR.out.trans hnt)
 clear hnt hi0 HN HR
 generalize DV s=i0 at *
 unfold nw
 go_upto_region 6 with fail
 obtain⟨z,hzz⟩:∃z,z=decide (i0<s.size/\AA s i0=48):=⟨_,rfl⟩
 have HZ:=Hd hzz
 clear hzz
 go_cut [33] from 24 to 32 (λv33 wx=>v33=.bool z/\wx=nw w s (i0:Nat))
 case first=>
  by_cases hl:i0<s.size
  .have hli:(i0:Int)<(s.size:Int):=Om
   have e1:=AJ hl;by_cases h48:AA s i0=48
   .have t1:(AA s i0==48)=true:=by rw[beq_iff_eq];exact h48
    obtain rfl:z=true:=HZ.out.trans (decide_eq_true ⟨hl,h48⟩);clear HZ HR1;clear h48;generalize AA s i0=c at *;go_wp2_with fail;go_meet;exact⟨rfl,rfl⟩
   have t1:(AA s i0==48)=false:=by rw[Bn];exact h48
   obtain rfl:z=false:=HZ.out.trans (decide_eq_false λh=>h48 h.2);clear HZ HR1;clear h48;generalize AA s i0=c at *;go_wp2_with fail;go_meet;exact⟨rfl,rfl⟩
  have hli:¬((i0:Int)<(s.size:Int)):=Om;obtain rfl:z=false:=HZ.out.trans (decide_eq_false λh=>hl h.1);clear HZ HR1;go_wp2_with fail;go_meet;exact⟨rfl,rfl⟩
 obtain⟨rfl,rfl⟩:=hcut
 by_cases hz:i0<s.size/\AA s i0=48
 .obtain rfl:z=true:=HZ.out.trans (decide_eq_true hz)
  have HR0:=Hd (HR1.out.trans (if_pos hz));obtain⟨k,hk⟩:∃k,k=i0+1:=⟨_,rfl⟩;rw[<-hk]at HR0;have hks:k<=s.size:=Om;clear HZ HR1 hz;unfold nw;go_upto_region 8 with fail;have hki:(i0:Int)+1=(k:Nat):=Om;rw[hki];clear hki hk;obtain⟨zx,hzz⟩:∃zx,zx=decide (k<s.size/\AA s (k)=120):=⟨_,rfl⟩;have HX:=Hd hzz;clear hzz;go_cut [36] from 37 to 46 (λvv wx=>vv=.bool zx/\wx=nw w s ((k:Nat):Int))
  case first=>
   by_cases hl:k<s.size
   .have hli:((k:Nat):Int)<(s.size:Int):=Om
    have e1x:=AJ hl;by_cases h48:AA s (k)=120
    .have t1:(AA s (k)==120)=true:=by rw[beq_iff_eq];exact h48
     obtain rfl:zx=true:=HX.out.trans (decide_eq_true ⟨hl,h48⟩);clear HX h48;generalize AA s (k)=c at *;go_wp2_with fail;go_meet;exact⟨rfl,rfl⟩
    have t1:(AA s (k)==120)=false:=by rw[Bn];exact h48
    obtain rfl:zx=false:=HX.out.trans (decide_eq_false λh=>h48 h.2);clear HX h48;generalize AA s (k)=c at *;go_wp2_with fail;go_meet;exact⟨rfl,rfl⟩
   have hli:¬(((k:Nat):Int)<(s.size:Int)):=Om;obtain rfl:zx=false:=HX.out.trans (decide_eq_false λh=>hl h.1);clear HX;go_wp2_with fail;go_meet;exact⟨rfl,rfl⟩
  obtain⟨rfl,rfl⟩:=hcut;unfold nw;by_cases hx:k<s.size/\AA s k=120
  .obtain rfl:zx=true:=HX.out.trans (decide_eq_true hx)
   have HR2:=Hd (HR0.out.trans (if_pos hx:ntZ s sg k=_));have hk1:k+1<=s.size:=hx.1;clear HR0 HX hx;go_upto_block 1 with fail;go_cut [] from 50 to 64 (λwx=>wx=nw w s (JP s (k+1):Nat))
   case first=>
    clear HR2;have hle:=O1 s (k+1) hk1;have hX:=Hd (λ(c:Int) (h0:0<=c) (h1:c<=255) (w:World)=>KX c h0 h1 w);go_wp2_with fail;go_loopg [] (s.size-(k+1)) (λg wr=>∃j:Nat,k+1<=j/\j<=s.size/\j+g=s.size/\JP s j=JP s (k+1)/\wr=nw w s j)
    case atStart=>exact⟨k+1,Nl,hk1,Om,rfl,by unfold nw;first|rfl|(congr 3;omega)⟩
    obtain⟨j,hj0,hj1,hg,he,rfl⟩:=hrel;unfold nw;by_cases hlt:(j:Int)<(s.size:Int)
    .have hjs:j<s.size:=Om
     have ec:=AJ hjs;have hb:=CJ s j;have hb0:=hb.1;have hb1:=hb.2;clear hb
     cases hx:DD (AA s j) with
     |true=>
      have HE:=Hd (show JP s (j+1)=JP s (k+1) by rw[<-he,<-I0 ⟨hjs,hx⟩]);clear he;generalize AA s j=c at *;go_wp2_with (go_at_call 66;refine(hX.out c hb0 hb1 _).mono ?_;rintro e w' ⟨rfl,rfl⟩);go_roundg (s.size-j-1)
      case rel=>exact⟨j+1,Om,Om,Om,HE.out,by unfold nw;first|rfl|(congr 3;omega)⟩
      omega
     |false=>have HE:=Hd (show JP s (k+1)=j by rw[<-he,G1 (λx=>by simp[hx]at x)]);clear he;generalize AA s j=c at *;go_wp2_with (go_at_call 66;refine(hX.out c hb0 hb1 _).mono ?_;rintro e w' ⟨rfl,rfl⟩);go_meet;rw[HE.out];rfl
    have HE:=Hd (show JP s (k+1)=j by rw[<-he,G1 (λx=>hlt Om)]);clear he;go_wp2_with fail;go_meet;rw[HE.out];rfl
   obtain rfl:=hcut;have hle:=O1 s (k+1) hk1;have hge:=ZH s (k+1);unfold nw;obtain⟨m,hm⟩:∃m,m=k+1:=⟨_,rfl⟩;have hki:(k:Int)+1=(m:Nat):=Om;rw[hki];have HR3:=Hd (show R=(JP s m,!sg&&(decide (JP s m=m+1)||(decide (m<JP s m)&&decide (AA s m≠48)))) by rw[hm];exact HR2.out);rw[<-hm]at hle hge hk1;rw[<-hm];clear HR2 hki hm;generalize JP s m=e at *
   cases sg with
   |true=>obtain rfl:R=(e,false):=HR3.out;clear HR3;go_wp2_with fail;go_quiet (fail);go_wp2_with fail;go_ret2;exact⟨rfl,DI w s _ _⟩
   |false=>
    have hw:IntKind.i64.wrap ((m:Int)+1)=(m:Int)+1:=IntWalk.i64_in _ Om;have HWa:=Hd hw;clear hw;by_cases h2:e=m+1
    .obtain rfl:R=(e,true):=by rw[HR3.out];simp[h2]
     clear HR3;have q1:((e:Int)==(m:Int)+1)=true:=by rw[beq_iff_eq];omega
     go_wp2_with fail;have hw:=HWa.out;clear h2 HWa;go_quiet (fail);clear hw;go_wp2_with fail;go_ret2;exact⟨rfl,DI w s _ _⟩
    have q1:((e:Int)==(m:Int)+1)=false:=Bq;by_cases h3:m<e
    .have hk2:m<s.size:=Om
     have q2:decide ((m:Int)<(e:Int))=true:=by simp;omega
     have ec:=AJ hk2;have hmi:(m:Int)<(s.size:Int):=Om;by_cases h4:AA s m=48
     .obtain rfl:R=(e,false):=by rw[HR3.out];simp[h2,h4]
      have t1:(AA s m !=48)=false:=by simp[h4]
      clear HR3 h4;generalize AA s m=c at *;go_wp2_with fail;have hw:=HWa.out;clear h2 HWa;go_quiet (fail);clear hw;go_wp2_with fail;go_ret2;exact⟨rfl,DI w s _ _⟩
     obtain rfl:R=(e,true):=by rw[HR3.out];simp[h3,h4]
     have t1:(AA s m !=48)=true:=by simp[h4]
     clear HR3 h4;generalize AA s m=c at *;go_wp2_with fail;have hw:=HWa.out;clear h2 HWa;go_quiet (fail);clear hw;go_wp2_with fail;go_ret2;exact⟨rfl,DI w s _ _⟩
    obtain rfl:R=(e,false):=by rw[HR3.out];simp[h2,h3]
    have q2:decide ((m:Int)<(e:Int))=false:=by simp;omega
    have q3:decide (m<e)=false:=by simp;omega
    clear HR3;go_wp2_with fail;have hw:=HWa.out;clear h2 h3 HWa;go_quiet (fail);clear hw;go_wp2_with fail;go_ret2;exact⟨rfl,DI w s _ _⟩
  obtain rfl:zx=false:=HX.out.trans (decide_eq_false hx);have HR2:=Hd (HR0.out.trans (if_neg hx:ntZ s sg k=_));clear HR0 HX hx;have D:=Hd (λ(k:Nat) (hk:k<=s.size)=>QS s hs 55 Om Om w k hk);go_upto_region 16 with fail;obtain⟨zd,hzz⟩:∃zd,zd=decide (k<s.size/\AA s (k)=46):=⟨_,rfl⟩;have HD:=Hd hzz;clear hzz;go_cut [85] from 86 to 95 (λvv wx=>vv=.bool zd/\wx=nw w s ((k:Nat):Int))
  case first=>
   by_cases hl:k<s.size
   .have hli:((k:Nat):Int)<(s.size:Int):=Om
    have e1x:=AJ hl;by_cases h48:AA s (k)=46
    .have t1:(AA s (k)==46)=true:=by rw[beq_iff_eq];exact h48
     obtain rfl:zd=true:=HD.out.trans (decide_eq_true ⟨hl,h48⟩);clear HD h48;generalize AA s (k)=c at *;go_wp2_with fail;go_meet;exact⟨rfl,rfl⟩
    have t1:(AA s (k)==46)=false:=by rw[Bn];exact h48
    obtain rfl:zd=false:=HD.out.trans (decide_eq_false λh=>h48 h.2);clear HD h48;generalize AA s (k)=c at *;go_wp2_with fail;go_meet;exact⟨rfl,rfl⟩
   have hli:¬(((k:Nat):Int)<(s.size:Int)):=Om;obtain rfl:zd=false:=HD.out.trans (decide_eq_false λh=>hl h.1);clear HD;go_wp2_with fail;go_meet;exact⟨rfl,rfl⟩
  obtain⟨rfl,rfl⟩:=hcut;unfold nw;by_cases hd:k<s.size/\AA s k=46
  .obtain rfl:zd=true:=HD.out.trans (decide_eq_true hd)
   have HR3:=Hd (HR2.out.trans (if_pos hd));have hk1:k+1<=s.size:=hd.1;clear HR2 HD hd;go_upto_region 19 with(go_at_call 93;refine(D.out (k+1) hk1).mono ?_;rintro e w' ⟨rfl,rfl⟩;unfold nw);have hge5:=FM s 55 (k+1);have hle5:=EV s 55 (k+1) hk1;have HR4:=Hd HR3.out;clear HR3;generalize BG s 55 (k+1)=e5 at *;obtain⟨mm,hmm⟩:∃mm:Int,mm=(e5:Int)-((k:Int)+1):=⟨_,rfl⟩;rw[<-hmm];by_cases hg:k+1<e5
   .have h1:0<mm:=Om
    clear hmm;by_cases hq:e5=s.size
    .obtain rfl:R=(e5,true):=by rw[HR4.out,decide_eq_true hg,decide_eq_true hq];rfl
     have t1:((e5:Int)==(s.size:Int))=true:=by rw[beq_iff_eq];omega
     clear HR4 hq hg;go_quiet (fail);go_wp2_with fail;go_ret2;exact⟨rfl,DI w s _ _⟩
    have t1:((e5:Int)==(s.size:Int))=false:=Bq;have hl5:e5<s.size:=Om;have hli:(e5:Int)<(s.size:Int):=Om;have e1x:=AJ hl5;have hh:=HR4.out;rw[decide_eq_true hg,decide_eq_false hq,Bool.true_and,Bool.false_or]at hh;clear HR4 hq hg;by_cases h101:low (AA s e5)=101
    .have t2:(bits .or .u8 (AA s e5) 32 !=101)=false:=by rw[bne_eq_false_iff_eq];exact h101
     obtain rfl:R=(e5,false):=by rw[hh];simp[h101]
     clear hh h101;generalize AA s e5=c at *;go_quiet (fail);go_wp2_with fail;go_ret2;exact⟨rfl,DI w s _ _⟩
    have t2:(bits .or .u8 (AA s e5) 32 !=101)=true:=by rw[bne_iff_ne];exact h101
    obtain rfl:R=(e5,true):=by rw[hh];simp[h101]
    clear hh h101;generalize AA s e5=c at *;go_quiet (fail);go_wp2_with fail;go_ret2;exact⟨rfl,DI w s _ _⟩
   have h1:¬0<mm:=Om;have h1d:decide (0<mm)=false:=decide_eq_false h1;obtain rfl:R=(e5,false):=by rw[HR4.out];simp[hg]
   clear hmm HR4 hg;go_quiet (fail);go_wp2_with fail;go_ret2;exact⟨rfl,DI w s _ _⟩
  obtain rfl:zd=false:=HD.out.trans (decide_eq_false hd);have HR3:=Hd (HR2.out.trans (if_neg hd));clear HR2 HD hd;go_upto_region 21 with(go_at_call 93;refine(D.out k hks).mono ?_;rintro e w' ⟨rfl,rfl⟩;unfold nw);have hge5:=FM s 55 k;have hle5:=EV s 55 k hks;have HR4:=Hd HR3.out;clear HR3;generalize BG s 55 k=e5 at *;obtain⟨mm,hmm⟩:∃mm:Int,mm=(e5:Int)-(k:Int):=⟨_,rfl⟩;rw[<-hmm];obtain⟨y,hy⟩:∃y,y=(decide (e5=k)||!sg):=⟨_,rfl⟩;have HR5:=Hd HR4.out;rw[<-hy]at HR5;have hy2:((mm==0)||!sg)=y:=by rw[hy];congr 1;rw[Bool.eq_iff_iff];simp;omega
  clear hmm hy HR4
  cases hmz:(mm==0) with
  |true=>
   rw[hmz]at hy2;obtain rfl:y=true:=hy2.symm;clear hy2;by_cases hq:e5=s.size
   .obtain rfl:R=(e5,true):=by rw[HR5.out,decide_eq_true hq];rfl
    have t1:((e5:Int)==(s.size:Int))=true:=by rw[beq_iff_eq];omega
    clear HR5 hq;go_quiet (fail);go_wp2_with fail;go_ret2;exact⟨rfl,DI w s _ _⟩
   have t1:((e5:Int)==(s.size:Int))=false:=Bq;have hl5:e5<s.size:=Om;have hli:(e5:Int)<(s.size:Int):=Om;have e1x:=AJ hl5;have hh:=HR5.out;rw[decide_eq_false hq,Bool.true_and,Bool.false_or]at hh;clear HR5 hq;by_cases h101:low (AA s e5)=101
   .have t2:(bits .or .u8 (AA s e5) 32 !=101)=false:=by rw[bne_eq_false_iff_eq];exact h101
    obtain rfl:R=(e5,false):=by rw[hh];simp[h101]
    clear hh h101;generalize AA s e5=c at *;go_quiet (fail);go_wp2_with fail;go_ret2;exact⟨rfl,DI w s _ _⟩
   have t2:(bits .or .u8 (AA s e5) 32 !=101)=true:=by rw[bne_iff_ne];exact h101
   by_cases h120:low (AA s e5)=120
   .have t3:(bits .or .u8 (AA s e5) 32 !=120)=false:=by rw[bne_eq_false_iff_eq];exact h120
    obtain rfl:R=(e5,false):=by rw[hh];simp[h120]
    clear hh h101 h120;generalize AA s e5=c at *;go_quiet (fail);go_wp2_with fail;go_ret2;exact⟨rfl,DI w s _ _⟩
   have t3:(bits .or .u8 (AA s e5) 32 !=120)=true:=by rw[bne_iff_ne];exact h120
   obtain rfl:R=(e5,true):=by rw[hh];simp[h101,h120]
   clear hh h101 h120;generalize AA s e5=c at *;go_quiet (fail);go_wp2_with fail;go_ret2;exact⟨rfl,DI w s _ _⟩
  |false=>
   rw[hmz]at hy2
   cases sg with
   |false=>
    obtain rfl:y=true:=hy2.symm;clear hy2;by_cases hq:e5=s.size
    .obtain rfl:R=(e5,true):=by rw[HR5.out,decide_eq_true hq];rfl
     have t1:((e5:Int)==(s.size:Int))=true:=by rw[beq_iff_eq];omega
     clear HR5 hq;go_quiet (fail);go_wp2_with fail;go_ret2;exact⟨rfl,DI w s _ _⟩
    have t1:((e5:Int)==(s.size:Int))=false:=Bq;have hl5:e5<s.size:=Om;have hli:(e5:Int)<(s.size:Int):=Om;have e1x:=AJ hl5;have hh:=HR5.out;rw[decide_eq_false hq,Bool.true_and,Bool.false_or]at hh;clear HR5 hq;by_cases h101:low (AA s e5)=101
    .have t2:(bits .or .u8 (AA s e5) 32 !=101)=false:=by rw[bne_eq_false_iff_eq];exact h101
     obtain rfl:R=(e5,false):=by rw[hh];simp[h101]
     clear hh h101;generalize AA s e5=c at *;go_quiet (fail);go_wp2_with fail;go_ret2;exact⟨rfl,DI w s _ _⟩
    have t2:(bits .or .u8 (AA s e5) 32 !=101)=true:=by rw[bne_iff_ne];exact h101
    by_cases h120:low (AA s e5)=120
    .have t3:(bits .or .u8 (AA s e5) 32 !=120)=false:=by rw[bne_eq_false_iff_eq];exact h120
     obtain rfl:R=(e5,false):=by rw[hh];simp[h120]
     clear hh h101 h120;generalize AA s e5=c at *;go_quiet (fail);go_wp2_with fail;go_ret2;exact⟨rfl,DI w s _ _⟩
    have t3:(bits .or .u8 (AA s e5) 32 !=120)=true:=by rw[bne_iff_ne];exact h120
    obtain rfl:R=(e5,true):=by rw[hh];simp[h101,h120]
    clear hh h101 h120;generalize AA s e5=c at *;go_quiet (fail);go_wp2_with fail;go_ret2;exact⟨rfl,DI w s _ _⟩
   |true=>
    obtain rfl:y=false:=hy2.symm;clear hy2;obtain rfl:R=(e5,false):=by rw[HR5.out];rfl
    clear HR5;go_quiet (fail);go_wp2_with fail;go_ret2;exact⟨rfl,DI w s _ _⟩
 obtain rfl:z=false:=HZ.out.trans (decide_eq_false hz)
 clear HZ
 have HR:=Hd (HR1.out.trans (if_neg hz))
 clear HR1
 have D:=Hd (λ(k:Nat) (hk:k<=s.size)=>QS s hs 57 Om Om w k hk)
 have hle:=EV s 57 i0 hile
 have hge:=FM s 57 i0
 clear hz
 unfold nw
 by_cases hq:BG s 57 i0=i0
 .obtain rfl:R=(0,false):=by rw[HR.out];unfold ntD;rw[if_pos hq]
  clear HR;have t1:((BG s 57 i0:Int)-i0==0)=true:=by rw[beq_iff_eq];omega
  go_wp2_with (go_at_call 93;refine(D.out i0 hile).mono ?_;rintro e w' ⟨rfl,rfl⟩;unfold nw);go_ret2;exact⟨rfl,((Below.refl _ w).alloc Nl _).alloc Sm _⟩
 have t1:((BG s 57 i0:Int)-i0==0)=false:=Bq
 have HR2:=Hd (HR.out.trans (if_neg hq:ntD s i0=_))
 clear HR
 go_upto_region 24 with(go_at_call 93;refine(D.out i0 hile).mono ?_;rintro e w' ⟨rfl,rfl⟩;unfold nw)
 generalize BG s 57 i0=e1 at *
 obtain⟨e2,he2⟩:∃e2,e2=(if e1<s.size/\AA s e1=46 then BG s 57 (e1+1) else e1):=⟨_,rfl⟩
 rw[<-he2]at HR2
 have HE:=Hd he2
 clear he2 t1 hq
 obtain⟨z2,hzz⟩:∃z2,z2=decide (e1<s.size/\AA s (e1)=46):=⟨_,rfl⟩
 have HZ2:=Hd hzz
 clear hzz
 go_cut [157] from 148 to 156 (λvv wx=>vv=.bool z2/\wx=nw w s ((e1:Nat):Int))
 case first=>
  by_cases hl:e1<s.size
  .have hli:((e1:Nat):Int)<(s.size:Int):=Om
   have e1x:=AJ hl;by_cases h48:AA s (e1)=46
   .have t1:(AA s (e1)==46)=true:=by rw[beq_iff_eq];exact h48
    obtain rfl:z2=true:=HZ2.out.trans (decide_eq_true ⟨hl,h48⟩);clear HZ2 h48;generalize AA s (e1)=c at *;go_wp2_with fail;go_meet;exact⟨rfl,rfl⟩
   have t1:(AA s (e1)==46)=false:=by rw[Bn];exact h48
   obtain rfl:z2=false:=HZ2.out.trans (decide_eq_false λh=>h48 h.2);clear HZ2 h48;generalize AA s (e1)=c at *;go_wp2_with fail;go_meet;exact⟨rfl,rfl⟩
  have hli:¬(((e1:Nat):Int)<(s.size:Int)):=Om;obtain rfl:z2=false:=HZ2.out.trans (decide_eq_false λh=>hl h.1);clear HZ2;go_wp2_with fail;go_meet;exact⟨rfl,rfl⟩
 obtain⟨rfl,rfl⟩:=hcut
 unfold nw
 go_upto_if 157 with fail
 go_cut [] from 158 to 161 (λwx=>wx=nw w s (e2:Nat))
 case first=>
  by_cases hz:e1<s.size/\AA s e1=46
  .obtain rfl:z2=true:=HZ2.out.trans (decide_eq_true hz)
   have he2:=HE.out.trans (if_pos hz);clear HE HZ2;have hk:e1+1<=s.size:=hz.1;clear hz;go_wp2_with (go_at_call 93;refine(D.out (e1+1) hk).mono ?_;rintro e w' ⟨rfl,rfl⟩;unfold nw);go_meet;rw[he2];rfl
  obtain rfl:z2=false:=HZ2.out.trans (decide_eq_false hz);have he2:=HE.out.trans (if_neg hz);clear HE HZ2 hz;go_wp2_with fail;go_meet;rw[he2];rfl
 obtain rfl:=hcut
 have hl2:e2<=s.size:=by
  rw[HE.out];split
  .exact EV _ _ _ Om
  exact hle
 clear HE HZ2
 unfold nw
 go_upto_region 27 with fail
 obtain⟨z3,hzz⟩:∃z3,z3=decide (e2<s.size/\low (AA s (e2))=101):=⟨_,rfl⟩
 have HZ3:=Hd hzz
 clear hzz
 go_cut [172] from 162 to 171 (λvv wx=>vv=.bool z3/\wx=nw w s ((e2:Nat):Int))
 case first=>
  by_cases hl:e2<s.size
  .have hli:((e2:Nat):Int)<(s.size:Int):=Om
   have e1x:=AJ hl;by_cases h48:low (AA s (e2))=101
   .have t1:(bits .or .u8 (AA s (e2)) 32==101)=true:=by rw[beq_iff_eq];exact h48
    obtain rfl:z3=true:=HZ3.out.trans (decide_eq_true ⟨hl,h48⟩);clear HZ3 h48;generalize AA s (e2)=c at *;go_wp2_with fail;go_meet;exact⟨rfl,rfl⟩
   have t1:(bits .or .u8 (AA s (e2)) 32==101)=false:=by rw[Bn];exact h48
   obtain rfl:z3=false:=HZ3.out.trans (decide_eq_false λh=>h48 h.2);clear HZ3 h48;generalize AA s (e2)=c at *;go_wp2_with fail;go_meet;exact⟨rfl,rfl⟩
  have hli:¬(((e2:Nat):Int)<(s.size:Int)):=Om;obtain rfl:z3=false:=HZ3.out.trans (decide_eq_false λh=>hl h.1);clear HZ3;go_wp2_with fail;go_meet;exact⟨rfl,rfl⟩
 obtain⟨rfl,rfl⟩:=hcut
 by_cases hz:e2<s.size/\low (AA s e2)=101
 .obtain rfl:z3=true:=HZ3.out.trans (decide_eq_true hz)
  have HR3:=Hd (HR2.out.trans (if_pos hz:ntT s e2=_));obtain⟨e3,he3⟩:∃e3,e3=e2+1:=⟨_,rfl⟩;rw[<-he3]at HR3;have hl3:e3<=s.size:=Om;clear HR2 HZ3 hz;obtain⟨e4,he4⟩:∃e4,e4=(if e3<s.size/\(AA s e3=43\/AA s e3=45) then e2+2 else e3):=⟨_,rfl⟩;rw[<-he4]at HR3;rw[show e2+2=e3+1 by omega]at he4;have hl4:e4<=s.size:=by rw[he4];split<;>omega
  have HE4:=Hd he4;clear he4;unfold nw;go_upto_region 29 with fail;have e3i:(e2:Int)+1=(e3:Nat):=Om;rw[e3i];clear e3i he3;obtain⟨z4,hzz⟩:∃z4,z4=decide (e3<s.size/\(AA s e3=43\/AA s e3=45)):=⟨_,rfl⟩;have HZ4:=Hd hzz;clear hzz;go_cut [190] from 175 to 189 (λvv wx=>vv=.bool z4/\wx=nw w s ((e3:Nat):Int))
  case first=>
   clear HE4 HR3;by_cases hl:e3<s.size
   .have hli:((e3:Nat):Int)<(s.size:Int):=Om
    have e1x:=AJ hl;by_cases h43:AA s e3=43
    .have t1:(AA s e3==43)=true:=by rw[beq_iff_eq];exact h43
     obtain rfl:z4=true:=HZ4.out.trans (decide_eq_true ⟨hl,Or.inl h43⟩);clear HZ4 h43;generalize AA s e3=c at *;go_wp2_with fail;go_meet;exact⟨rfl,rfl⟩
    have t1:(AA s e3==43)=false:=by rw[Bn];exact h43
    by_cases h45:AA s e3=45
    .have t2:(AA s e3==45)=true:=by rw[beq_iff_eq];exact h45
     obtain rfl:z4=true:=HZ4.out.trans (decide_eq_true ⟨hl,Or.inr h45⟩);clear HZ4 h43 h45;generalize AA s e3=c at *;go_wp2_with fail;go_meet;exact⟨rfl,rfl⟩
    have t2:(AA s e3==45)=false:=by rw[Bn];exact h45
    obtain rfl:z4=false:=HZ4.out.trans (decide_eq_false λh=>h.2.elim h43 h45);clear HZ4 h43 h45;generalize AA s e3=c at *;go_wp2_with fail;go_meet;exact⟨rfl,rfl⟩
   have hli:¬(((e3:Nat):Int)<(s.size:Int)):=Om;obtain rfl:z4=false:=HZ4.out.trans (decide_eq_false λh=>hl h.1);clear HZ4;go_wp2_with fail;go_meet;exact⟨rfl,rfl⟩
  obtain⟨rfl,rfl⟩:=hcut;unfold nw;go_upto_if 190 with fail;go_cut [] from 191 to 192 (λwx=>wx=nw w s (e4:Nat))
  case first=>
   by_cases hz:e3<s.size/\(AA s e3=43\/AA s e3=45)
   .obtain rfl:z4=true:=HZ4.out.trans (decide_eq_true hz)
    have he4:=HE4.out.trans (if_pos hz);clear HE4 HZ4 hz HR3;go_wp2_with fail;go_meet;rw[he4];rfl
   obtain rfl:z4=false:=HZ4.out.trans (decide_eq_false hz);have he4:=HE4.out.trans (if_neg hz);clear HE4 HZ4 hz HR3;go_wp2_with fail;go_meet;rw[he4];rfl
  obtain rfl:=hcut;clear HE4 HZ4;have hge4:=FM s 57 e4;unfold nw;by_cases hq:BG s 57 e4=e4
  .obtain rfl:R=(0,false):=HR3.out.trans (if_pos hq:ntE s e4=_)
   clear HR3;have t1:((BG s 57 e4:Int)-e4==0)=true:=by rw[beq_iff_eq];omega
   go_wp2_with (go_at_call 93;refine(D.out e4 hl4).mono ?_;rintro e w' ⟨rfl,rfl⟩;unfold nw);go_ret2;exact⟨rfl,((Below.refl _ w).alloc Nl _).alloc Sm _⟩
  obtain rfl:R=(BG s 57 e4,true):=HR3.out.trans (if_neg hq:ntE s e4=_);clear HR3;have t1:((BG s 57 e4:Int)-e4==0)=false:=Bq;go_wp2_with (go_at_call 93;refine(D.out e4 hl4).mono ?_;rintro e w' ⟨rfl,rfl⟩;unfold nw);go_ret2;exact⟨rfl,((Below.refl _ w).alloc Nl _).alloc Sm _⟩
 obtain rfl:z3=false:=HZ3.out.trans (decide_eq_false hz)
 obtain rfl:R=(e2,true):=HR2.out.trans (if_neg hz:ntT s e2=_)
 clear HR2 HZ3 hz
 unfold nw
 go_wp2_with fail
 go_ret2
 exact⟨rfl,((Below.refl _ w).alloc Nl _).alloc Sm _⟩
def AX(c:Int):Bool:=decide (c=32)||(decide (9<=c)&&decide (c<=13))
def BX(c:Int):Bool:=decide (48<=c)&&decide (c<=57)
def B9(c:Int):Bool:=(decide (97<=c)&&decide (c<=122))||(decide (65<=c)&&decide (c<=90))
theorem JW(c:Int)(w:World) :
 Calls Tryz.prog 32 #[.int .u8 c] w λe w'=>e=.returned (.bool (AX c))/\w=w':=by
 have key:∀b,AX c=b->Calls Tryz.prog 32 #[.int .u8 c] w λe w'=>e=.returned (.bool b)/\w=w':=by
  intro b hb;have HB:=Hd hb;clear hb;by_cases h1:c=32
  .have t1:(c==32)=true:=by simp[h1]
   obtain rfl:b=true:=by rw[<-HB.out];unfold AX;simp[h1]
   clear HB h1;go_enter Tryz.func32,Tryz.ntmps32;go_wp2_with fail;go_ret;exact⟨rfl,rfl⟩
  have t1:(c==32)=false:=by simp[h1]
  by_cases h2:9<=c
  .by_cases h3:c<=13
   .obtain rfl:b=true:=by rw[<-HB.out];unfold AX;simp[h2,h3]
    clear HB h1;go_enter Tryz.func32,Tryz.ntmps32;go_wp2_with fail;go_ret;exact⟨rfl,rfl⟩
   obtain rfl:b=false:=by rw[<-HB.out];unfold AX;simp[h1,h3]
   clear HB h1;go_enter Tryz.func32,Tryz.ntmps32;go_wp2_with fail;go_ret;exact⟨rfl,rfl⟩
  obtain rfl:b=false:=by rw[<-HB.out];unfold AX;simp[h1,h2]
  clear HB h1;go_enter Tryz.func32,Tryz.ntmps32;go_wp2_with fail;go_ret;exact⟨rfl,rfl⟩
 exact key _ rfl
theorem TQ(c:Int)(w:World) :
 Calls Tryz.prog 51 #[.int .u8 c] w λe w'=>e=.returned (.bool (BX c))/\w=w':=by
 have key:∀b,BX c=b->Calls Tryz.prog 51 #[.int .u8 c] w λe w'=>e=.returned (.bool b)/\w=w':=by
  intro b hb;have HB:=Hd hb;clear hb;by_cases h2:48<=c
  .by_cases h3:c<=57
   .obtain rfl:b=true:=by rw[<-HB.out];unfold BX;simp[h2,h3]
    clear HB;go_enter Tryz.func51,Tryz.ntmps51;go_wp2_with fail;go_ret;exact⟨rfl,rfl⟩
   obtain rfl:b=false:=by rw[<-HB.out];unfold BX;simp[h3]
   clear HB;go_enter Tryz.func51,Tryz.ntmps51;go_wp2_with fail;go_ret;exact⟨rfl,rfl⟩
  obtain rfl:b=false:=by rw[<-HB.out];unfold BX;simp[h2]
  clear HB;go_enter Tryz.func51,Tryz.ntmps51;go_wp2_with fail;go_ret;exact⟨rfl,rfl⟩
 exact key _ rfl
theorem RE(c:Int)(w:World) :
 Calls Tryz.prog 53 #[.int .u8 c] w λe w'=>e=.returned (.bool (B9 c))/\w=w':=by
 have key:∀b,B9 c=b->Calls Tryz.prog 53 #[.int .u8 c] w λe w'=>e=.returned (.bool b)/\w=w':=by
  intro b hb;have HB:=Hd hb;clear hb;by_cases h0:97<=c/\c<=122
  .obtain⟨h2,h3⟩:=h0
   obtain rfl:b=true:=by rw[<-HB.out];unfold B9;simp[h2,h3]
   clear HB;go_enter Tryz.func53,Tryz.ntmps53;go_wp2_with fail;go_ret;exact⟨rfl,rfl⟩
  have h0':(decide (97<=c)&&decide (c<=122))=false:=by rw[Bool.eq_false_iff];simpa using h0
  by_cases h4:65<=c
  .by_cases h5:c<=90
   .have h6:¬(97<=c):=Om
    obtain rfl:b=true:=by rw[<-HB.out];unfold B9;simp[h4,h5]
    clear HB h0 h0';go_enter Tryz.func53,Tryz.ntmps53;go_wp2_with fail;go_ret;exact⟨rfl,rfl⟩
   obtain rfl:b=false:=by rw[<-HB.out];unfold B9;simp[h0',h5]
   clear HB h0';by_cases h6:97<=c
   .have h7:¬c<=122:=λx=>h0 ⟨h6,x⟩
    clear h0;go_enter Tryz.func53,Tryz.ntmps53;go_wp2_with fail;go_ret;exact⟨rfl,rfl⟩
   clear h0;go_enter Tryz.func53,Tryz.ntmps53;go_wp2_with fail;go_ret;exact⟨rfl,rfl⟩
  have h6:¬(97<=c):=Om;obtain rfl:b=false:=by rw[<-HB.out];unfold B9;simp[h0',h4]
  clear HB h0 h0';go_enter Tryz.func53,Tryz.ntmps53;go_wp2_with fail;go_ret;exact⟨rfl,rfl⟩
 exact key _ rfl
def F3(c:Int)(s:ByteArray)(i:Nat):Bool:=if h:i<s.size then(if AA s i=c then true else F3 c s (i+1)) else false
 termination_by s.size-i
def BT(c:Int)(s:ByteArray):Bool:=F3 c s 0
theorem KU{c:Int}{s:ByteArray}{i:Nat}(h:¬i<s.size):F3 c s i=false:=by unfold F3;rw[dif_neg h]
theorem MZ{c:Int}{s:ByteArray}{i:Nat}(h:i<s.size)(e:AA s i=c):F3 c s i=true:=by unfold F3;rw[dif_pos h,if_pos e]
theorem GY{c:Int}{s:ByteArray}{i:Nat}(h:i<s.size)(e:AA s i≠c):F3 c s i=F3 c s (i+1):=by
 conv=>lhs;unfold F3
 rw[dif_pos h,if_neg e]
theorem B4(c:Int)(s:ByteArray)(hs:s.size<=100000)(w:World) :
 Calls Tryz.prog 31 #[.int .u8 c,.string s] w λe w'=>e=.returned (.bool (BT c s))/\w=w':=by
 unfold BT
 generalize hR:F3 c s 0=R
 have HR:=Hd hR
 clear hR
 go_enter Tryz.func31,Tryz.ntmps31
 go_wp2_with fail
 go_loop [5] (λi=>∃k:Nat,k<=s.size/\Hid (F3 c s k=R)/\i=.int .i64 k) (λi=>s.size-(intOf i).toNat)
 case atStart=>exact⟨0,Nat.zero_le _,HR,rfl⟩
 obtain⟨k,hk,HK,rfl⟩:=hrel
 by_cases hlt:(k:Int)<(s.size:Int)
 .have hks:k<s.size:=Om
  have ec:=AJ hks;by_cases hq:AA s k=c
  .have t1:(AA s k==c)=true:=by simp[hq]
   obtain rfl:R=true:=by rw[<-HK.out];exact MZ hks hq
   clear HK HR hq;generalize AA s k=d at *;go_wp2_with fail;go_ret;exact⟨rfl,rfl⟩
  have t1:(AA s k==c)=false:=by simp[hq]
  have HK2:=Hd (show F3 c s (k+1)=R by rw[<-HK.out,GY hks hq]);clear HK HR hq;generalize AA s k=d at *;go_wp2_with fail;go_round
  case rel=>exact⟨k+1,Om,HK2,by go_num⟩
  simp[intOf];omega
 obtain rfl:R=false:=by rw[<-HK.out];exact KU Om
 clear HK HR
 go_wp2_with fail
 go_ret
 exact⟨rfl,rfl⟩
