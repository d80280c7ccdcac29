/- Lemmas for FnVtSigsEntry; no conditions. -/
import Derived.Test.YtbnbadcnfchdhaaGreatDoorP10
set_option maxRecDepth 100000
set_option maxHeartbeats 16000000
set_option linter.all false
namespace Go.Proofs.YtbnbadcnfchdhaaGreatDoor
open Go.RowKit
def AFz(c:Int):Bool:=decide (c=43)||decide (c=45)||BX c
def Z5(d:Int):Bool:=BX d||decide (d=46)||decide (d=43)||decide (d=45)||decide (128<=d)
theorem ACl(s:ByteArray)(n:Nat)(ok:Bool):PG s (n,ok) =
 if (!ok||(decide (n<s.size)&&Z5 (AA s n)))=true then(0,0,false)
 else if (decide (n<s.size)&&(B9 (AA s n)||decide (AA s n=95)))=true then(0,1,decide (AA s n≠95)) else(n,2,true):=by
 unfold PG Z5
 congr 1
 .apply propext;simp[or_assoc]
 congr 1
 apply propext;simp
theorem P1(s:ByteArray)(hp:0<s.size){n:Nat}{ok:Bool}(h:CT s=(n,ok)):n<=s.size:=by
 have hi:DV s<=s.size:=by unfold DV;split<;>omega
 rw[FX]at h;split at h
 .rename_i h0
  unfold ntZ at h;split at h
  .rename_i h1
   have:=O1 s (DV s+1+1) Om;simp at h;omega
  split at h
  .rename_i h1
   have:=EV s 55 (DV s+1+1) Om;simp at h;omega
  have:=EV s 55 (DV s+1) Om;simp at h;omega
 unfold ntD at h;have h1:=EV s 57 (DV s) hi;split at h
 .simp at h;omega
 unfold ntT at h;have h2:(if BG s 57 (DV s)<s.size/\AA s (BG s 57 (DV s))=46 then BG s 57 (BG s 57 (DV s)+1) else BG s 57 (DV s))<=s.size:=by
  split
  .exact EV _ _ _ Om
  exact h1
 generalize (if BG s 57 (DV s)<s.size/\AA s (BG s 57 (DV s))=46 then BG s 57 (BG s 57 (DV s)+1) else BG s 57 (DV s))=e2 at *;split at h
 .rename_i h3
  unfold ntE at h;have h4:(if e2+1<s.size/\(AA s (e2+1)=43\/AA s (e2+1)=45) then e2+2 else e2+1)<=s.size:=by split<;>omega
  generalize (if e2+1<s.size/\(AA s (e2+1)=43\/AA s (e2+1)=45) then e2+2 else e2+1)=e4 at *;have:=EV s 57 e4 h4;split at h
  .simp at h;omega
  simp at h;omega
 simp at h;omega
theorem AKd{s:ByteArray}{i n:Nat}(h:T8 s i=some n):i<=n:=by
 by_cases h1:i<s.size/\AX (AA s i)=false
 .by_cases h2:128<=AA s i
  .rw[OX h1 h2]at h;simp at h
  rw[KY h1 h2]at h;have:=AKd h;omega
 rw[MO h1]at h;simp at h;omega
 termination_by s.size-i
theorem X8{s:ByteArray}{n:Nat}(hp:0<s.size)(hbl:AX (AA s 0)=false)(h:T8 s 0=some n):1<=n:=by
 by_cases h2:128<=AA s 0
 .rw[OX ⟨hp,hbl⟩ h2]at h;simp at h
 rw[KY ⟨hp,hbl⟩ h2]at h;exact AKd h
theorem V7{s:ByteArray}{i:Nat}(h:I2 s i=true):∀j,i<=j->j<s.size->FU s j=false:=by
 intro j hj hlt
 cases hu:FU s i with
 |true=>rw[V1 Om hu]at h;simp at h
 |false=>
  by_cases e:i=j
  .subst e;exact hu
  rw[S8 Om hu]at h;exact V7 h j Om hlt
 termination_by s.size-i
theorem SX{s:ByteArray}(h:RQ s=true):EU s:=by intro i hi h40;have:=V7 h i (Nat.zero_le _) hi;unfold FU at this;rw[h40]at this;simp at this
theorem SQ{s:ByteArray}{i:Nat}{b:Bool}(h:IG s i b=false):b=false/\∀j,i<=j->j<s.size->BT (AA s j) ⟨#[40,41,123,125]⟩=false:=by
 by_cases hi:i<s.size
 .rw[Q0 hi]at h
  obtain⟨h1,h2⟩:=SQ h;simp only[Bool.or_eq_false_iff]at h1;refine⟨h1.1,λj hj hlt=>?_⟩;by_cases e:i=j
  .subst e;exact h1.2
  exact h2 j Om hlt
 rw[SV hi]at h;exact⟨h,λj hj hlt=>absurd hlt Om⟩
 termination_by s.size-i
theorem AMt:BT 40 ⟨#[40,41,123,125]⟩=true:=MZ De rfl
theorem QX{s:ByteArray}(h:OO s=false):EU s:=by intro i hi h40;have:=(SQ h).2 i (Nat.zero_le _) hi;rw[h40,AMt]at this;simp at this
theorem BU(s:ByteArray)(n i:Nat)(h:i<n):AA (s.extract 0 n) i=AA s i:=by
 have h1:(s.extract 0 n).data.toList=s.data.toList.take n:=by simp[ByteArray.data_extract,List.extract_eq_take_drop]
 unfold AA;rw[h1,List.getD_eq_getElem?_getD,List.getD_eq_getElem?_getD,List.getElem?_take_of_lt h]
theorem H7(s:ByteArray)(a n i:Nat)(h:a+i<n):AA (s.extract a n) i=AA s (a+i):=by
 have h1:(s.extract a n).data.toList=(s.data.toList.drop a).take (n-a):=by simp[ByteArray.data_extract,List.extract_eq_take_drop]
 unfold AA;rw[h1,List.getD_eq_getElem?_getD,List.getD_eq_getElem?_getD,List.getElem?_take_of_lt Om,List.getElem?_drop]
theorem UZ{s:ByteArray}{n:Nat}(hn:n<=s.size)(h:EU (s.extract 1 n))(h0:AA s 0=64):EU (s.extract 0 n):=by
 intro i hi;simp only[ByteArray.size_extract]at hi;rw[BU s n i Om];by_cases e:i=0
 .subst e;rw[h0];decide
 have:=h (i-1) (by simp only[ByteArray.size_extract];omega);rw[H7 s 1 n (i-1) Om,show 1+(i-1)=i by omega]at this;exact this
theorem ACq{s:ByteArray}{n:Nat}(hn:n<=s.size)(h:EU (s.extract 0 n)):EU (s.extract 1 n):=by intro i hi;simp only[ByteArray.size_extract]at hi;have:=h (1+i) (by simp only[ByteArray.size_extract];omega);rw[BU s n (1+i) Om]at this;rw[H7 s 1 n i Om];exact this
def AQc(s:ByteArray)(n:Nat):Nat×Nat×Bool:=
 if (CA (s.extract 0 n)).2=false/\(AA s 0≠64\/N5 (s.extract 1 n)=false)/\s.extract 0 n≠TU then(0,1,true)
 else(n,13,true)
def WZ(s:ByteArray)(R:Nat×Nat×Bool)(c:Int)(n:Nat)(nb:Bool):Prop:=(nb=true->R=(0,0,false))/\(nb=false->R=AQc s n/\(c=64->EU (s.extract 1 n)))
theorem ACj(s:ByteArray)(hs:s.size<=100000)(hp:0<s.size)(hi:GJ (AA s 0)=none)(hbl:AX (AA s 0)=false)(w:World):Calls Tryz.prog 33 #[.string s] w (AMc s w):=by
 have e0:=AJ hp;have hpi:(0:Int)<(s.size:Int):=Om;generalize hR:B3 s=R;have hR2:R=(if AA s 0=43\/AA s 0=45\/BX (AA s 0)=true then PG s (CT s)
  else if AA s 0=34\/AA s 0=39 then PE (CV s (AA s 0) 1) 3
  else if AA s 0=98/\1<s.size/\(AA s 1=34\/AA s 1=39) then PE (CV s (AA s 1) 2) 14
  else if AA s 0=116/\4<=s.size/\s.extract 0 4=PP then DJ s 4
  else if AA s 0=102/\5<=s.size/\s.extract 0 5=LQ then DJ s 5
  else match T8 s 0 with
   |none=>(0,0,false)
   |some n=>OD s n):=by rw[<-hR];unfold B3;rw[hi];rfl
 have HTok:=Hd hR;have HGe:=Hd (λ(n:Nat) (h:T8 s 0=some n)=>X8 hp hbl h);clear hbl;have HR:=Hd hR2;have HI:=Hd (show IM (AA s 0) 8 0=none from hi);have HS:=Hd (λ(k:Nat) (h:k<s.size)=>AJ h);clear hi hR hR2;generalize hc:AA s 0=c at *;have HC:=Hd hc;clear hc;go_enter Tryz.func33,Tryz.ntmps33;go_upto_block 0 with fail;go_cut [] from 5 to 22 (λwx=>Below w.heap.size w wx)
 case first=>
  go_wp2_with fail;go_loopw [5] (λv wr=>∃k:Nat,k<=8/\v=.int .i64 k/\Hid (IM c (8-k) k=none)/\Below w.heap.size w wr) (λv _=>8-(intOf v).toNat)
  case atStart=>exact⟨0,Om,rfl,HI,Bl⟩
  obtain⟨k,hk,rfl,HK,hbel⟩:=hrel;by_cases hlt:(k:Int)<8
  .have hk8:k<8:=Om
   have hsf:IM c (8-k) k=if FZ.getD k 0=c then some k else IM c (7-k) (k+1):=by rw[show 8-k=(7-k)+1 by omega];rfl
   have ek:=AJ (s:=⟨#[91,93,123,125,60,62,44,58]⟩) (i:=k) hk8;rw[AB5 k hk8]at ek;by_cases hq:FZ.getD k 0=c
   .have h1:=HK.out
    rw[hsf,if_pos hq]at h1;simp at h1
   have t1:(c==FZ.getD k 0)=false:=by rw[Bn];exactλh=>hq h.symm
   have HK2:=Hd (show IM c (8-(k+1)) (k+1)=none by have h1:=HK.out;rw[hsf,if_neg hq]at h1;rw[show 8-(k+1)=7-k by omega];exact h1)
   clear HK hsf HI hq HR HS;generalize FZ.getD k 0=d at *;go_wp2_with fail;go_quiet (fail);go_wp2_with fail;go_roundw
   case rel=>exact⟨k+1,Om,by go_num,HK2,B7 hbel _⟩
   simp[intOf];omega
  clear HR HS HI;go_wp2_with fail;go_meet;exact hbel
 have hbel:=hcut;clear hcut HI;have HD:=Hd (λ(c:Int) (w:World)=>TQ c w);have HLt:=Hd (λ(c:Int) (w:World)=>RE c w);go_upto_block 2 with fail;go_cut [] from 25 to 169 (λwx=>Below w.heap.size w wx/\Hid (R=(match T8 s 0 with
  |none=>(0,0,false)
  |some n=>OD s n)))
 case first=>
  go_upto_region 7 with fail;obtain⟨nb,hnb⟩:∃nb,nb=AFz c:=⟨_,rfl⟩;have HNB:=Hd hnb;clear hnb;go_cut [25] from 26 to 35 (λv wx=>v=.bool nb/\wc=wx)
  case first=>
   clear HR HS;have hnb:=HNB.out;clear HNB;by_cases h1:c=43
   .have t1:(c==43)=true:=by simp[h1]
    obtain rfl:nb=true:=by rw[hnb,h1];rfl
    clear h1 hnb;go_wp2_with fail;go_meet;exact⟨rfl,rfl⟩
   have t1:(c==43)=false:=by simp[h1]
   by_cases h2:c=45
   .have t2:(c==45)=true:=by simp[h2]
    obtain rfl:nb=true:=by rw[hnb,h2];rfl
    clear h1 h2 hnb;go_wp2_with fail;go_meet;exact⟨rfl,rfl⟩
   have t2:(c==45)=false:=by simp[h2]
   obtain rfl:nb=BX c:=by rw[hnb];unfold AFz;simp[h1,h2]
   clear h1 h2 hnb;go_wp2_with (go_at_call 51;refine(HD.out _ _).mono ?_;rintro e w' ⟨rfl,rfl⟩);go_meet;exact⟨rfl,rfl⟩
  obtain⟨rfl,rfl⟩:=hcut;have hnb:=HNB.out;clear HNB
  cases nb with
  |true=>
   have HR2:=Hd (show R=PG s (CT s) by rw[HR.out,if_pos];have h3:AFz c=true:=hnb.symm;unfold AFz at h3;simpa[or_assoc] using h3)
   clear HR hnb;have HNT:=Hd (λW=>WY s hs hp W);generalize hnt:CT s=nt at *;obtain⟨n,ok⟩:=nt;have hnl:n<=s.size:=P1 s hp hnt;have HR3:=Hd (HR2.out.trans (ACl s n ok));clear HR2 hnt;go_upto_region 9 with(go_at_call 52;refine(HNT.out _).mono ?_;rintro e w' ⟨rfl,hb1⟩);have hbel2:=hbel.trans (hb1.mono hbel.size);clear HNT hbel hb1;obtain⟨nb,hnb⟩:∃nb,nb=(!ok||(decide (n<s.size)&&Z5 (AA s n))):=⟨_,rfl⟩;have HNB:=Hd hnb;clear hnb;go_cut [78] from 41 to 77 (λv wx=>v=.bool nb/\w'=wx)
   case first=>
    clear HR3
    cases ok with
    |false=>
     obtain rfl:nb=true:=by rw[HNB.out];rfl
     clear HNB;go_wp2_with fail;go_meet;exact⟨rfl,rfl⟩
    |true=>
     by_cases hlt:(n:Int)<(s.size:Int)
     .have hns:n<s.size:=Om
      have en:=HS.out n hns;have hnb2:nb=Z5 (AA s n):=by rw[HNB.out];simp[hns]
      clear HNB;generalize AA s n=d at *;have HNB:=Hd hnb2;clear hnb2;unfold Z5 at HNB
      cases h1:BX d with
      |true=>
       obtain rfl:nb=true:=by rw[HNB.out,h1];rfl
       have H1:=Hd h1;clear HNB h1;go_wp2_with (go_at_call 51;refine(HD.out _ _).mono ?_;rintro e w' ⟨rfl,rfl⟩;rw[H1.out]);go_meet;exact⟨rfl,rfl⟩
      |false=>
       have H1:=Hd h1;by_cases h46:d=46
       .have t1:(d==46)=true:=by simp[h46]
        obtain rfl:nb=true:=by rw[HNB.out,h46];rfl
        clear HNB h1 h46;go_wp2_with (go_at_call 51;refine(HD.out _ _).mono ?_;rintro e w' ⟨rfl,rfl⟩;rw[H1.out]);go_meet;exact⟨rfl,rfl⟩
       have t1:(d==46)=false:=by simp[h46]
       by_cases h43:d=43
       .have t2:(d==43)=true:=by simp[h43]
        obtain rfl:nb=true:=by rw[HNB.out,h43];rfl
        clear HNB h1 h46 h43;go_wp2_with (go_at_call 51;refine(HD.out _ _).mono ?_;rintro e w' ⟨rfl,rfl⟩;rw[H1.out]);go_meet;exact⟨rfl,rfl⟩
       have t2:(d==43)=false:=by simp[h43]
       by_cases h45:d=45
       .have t3:(d==45)=true:=by simp[h45]
        obtain rfl:nb=true:=by rw[HNB.out,h45];rfl
        clear HNB h1 h46 h43 h45;go_wp2_with (go_at_call 51;refine(HD.out _ _).mono ?_;rintro e w' ⟨rfl,rfl⟩;rw[H1.out]);go_meet;exact⟨rfl,rfl⟩
       have t3:(d==45)=false:=by simp[h45]
       by_cases h128:128<=d
       .obtain rfl:nb=true:=by rw[HNB.out,h1];simp[h128]
        clear HNB h1 h46 h43 h45;go_wp2_with (go_at_call 51;refine(HD.out _ _).mono ?_;rintro e w' ⟨rfl,rfl⟩;rw[H1.out]);go_meet;exact⟨rfl,rfl⟩
       obtain rfl:nb=false:=by rw[HNB.out,h1];simp[h46,h43,h45,h128]
       have t4:decide (128<=d)=false:=by simp[h128]
       clear HNB h1 h46 h43 h45 h128;go_wp2_with (go_at_call 51;refine(HD.out _ _).mono ?_;rintro e w' ⟨rfl,rfl⟩;rw[H1.out]);go_meet;exact⟨rfl,rfl⟩
     obtain rfl:nb=false:=by rw[HNB.out];simp;omega
     clear HNB;go_wp2_with fail;go_meet;exact⟨rfl,rfl⟩
   obtain⟨rfl,rfl⟩:=hcut
   cases nb with
   |true=>obtain rfl:R=(0,0,false):=HR3.out.trans (if_pos HNB.out.symm);clear HR3 HNB;go_wp2_with fail;go_ret3;exact⟨by rw[HTok.out];rfl,hbel2⟩
   |false=>
    have HR4:=Hd (HR3.out.trans (if_neg (by rw[<-HNB.out];simp)));clear HR3 HNB;by_cases hlt:(n:Int)<(s.size:Int)
    .have hns:n<s.size:=Om
     have en:=HS.out n hns;have hr4:=HR4.out;clear HR4;simp only[decide_eq_true hns,Bool.true_and]at hr4;generalize AA s n=d at *
     cases h1:B9 d with
     |true=>
      rw[h1]at hr4;have hr5:R=(0,1,decide (d≠95)):=hr4.trans (if_pos rfl);have H1:=Hd h1;have HR5:=Hd hr5;clear hr4 hr5 h1;by_cases h95:d=95
      .have t1:(d !=95)=false:=by simp[h95]
       obtain rfl:R=(0,1,false):=by rw[HR5.out];simp[h95]
       clear HR5 h95;go_wp2_with (go_at_call 53;refine(HLt.out _ _).mono ?_;rintro e w' ⟨rfl,rfl⟩;rw[H1.out]);go_quiet (fail);go_wp2_with fail;go_ret3;exact⟨by rw[HTok.out];rfl,B7 hbel2 _⟩
      have t1:(d !=95)=true:=by simp[h95]
      obtain rfl:R=(0,1,true):=by rw[HR5.out];simp[h95]
      clear HR5 h95;go_wp2_with (go_at_call 53;refine(HLt.out _ _).mono ?_;rintro e w' ⟨rfl,rfl⟩;rw[H1.out]);go_quiet (fail);go_wp2_with fail;go_ret3;exact⟨by rw[HTok.out];rfl,B7 hbel2 _⟩
     |false=>
      rw[h1]at hr4;have H1:=Hd h1;by_cases h95:d=95
      .have t1:(d==95)=true:=by simp[h95]
       have t2:(d !=95)=false:=by simp[h95]
       obtain rfl:R=(0,1,false):=by rw[hr4];simp[h95]
       clear hr4 h95 h1;go_wp2_with (go_at_call 53;refine(HLt.out _ _).mono ?_;rintro e w' ⟨rfl,rfl⟩;rw[H1.out]);go_quiet (fail);go_wp2_with fail;go_ret3;exact⟨by rw[HTok.out];rfl,B7 hbel2 _⟩
      have t1:(d==95)=false:=by simp[h95]
      obtain rfl:R=(n,2,true):=by rw[hr4];simp[h95]
      clear hr4 h95 h1;go_wp2_with (go_at_call 53;refine(HLt.out _ _).mono ?_;rintro e w' ⟨rfl,rfl⟩;rw[H1.out]);go_ret3;exact⟨by rw[HTok.out];rfl,hbel2⟩
    obtain rfl:R=(n,2,true):=HR4.out.trans (if_neg (by simp;omega));clear HR4;go_wp2_with fail;go_ret3;exact⟨by rw[HTok.out];rfl,hbel2⟩
  |false=>
   have hR2:=HR.out.trans (if_neg (by have h3:AFz c=false:=hnb.symm;unfold AFz at h3;simpa[and_assoc] using h3))
   have HR2:=Hd hR2;clear HR hnb hR2;by_cases h34:c=34\/c=39
   .have hr:=HR2.out.trans (if_pos h34)
    have HQ:=Hd (show ∀W,Calls Tryz.prog 54 #[.string s,.int .i64 0,.int .i64 3] W λe w'=>e=.returned (VV (CV s c 1) 3)/\W=w' from λW=>by rw[<-HC.out];exact QQ s hs 0 hp 3 W);clear HR2 HD HLt;generalize CV s c 1=q at *
    cases q with
    |none=>
     obtain rfl:R=(0,1,true):=hr;by_cases g34:c=34
     .have t1:(c==34)=true:=by simp[g34]
      clear h34 g34;go_wp2_with (go_at_call 54;refine(HQ.out _).mono ?_;rintro e w' ⟨rfl,rfl⟩;unfold VV);go_ret3;exact⟨by rw[HTok.out];rfl,hbel⟩
     have t1:(c==34)=false:=by simp[g34]
     have t2:(c==39)=true:=by simp[h34.resolve_left g34]
     clear h34 g34;go_wp2_with (go_at_call 54;refine(HQ.out _).mono ?_;rintro e w' ⟨rfl,rfl⟩;unfold VV);go_ret3;exact⟨by rw[HTok.out];rfl,hbel⟩
    |some n=>
     obtain rfl:R=(n,3,true):=hr;by_cases g34:c=34
     .have t1:(c==34)=true:=by simp[g34]
      clear h34 g34;go_wp2_with (go_at_call 54;refine(HQ.out _).mono ?_;rintro e w' ⟨rfl,rfl⟩;unfold VV);go_ret3;exact⟨by rw[HTok.out];rfl,hbel⟩
     have t1:(c==34)=false:=by simp[g34]
     have t2:(c==39)=true:=by simp[h34.resolve_left g34]
     clear h34 g34;go_wp2_with (go_at_call 54;refine(HQ.out _).mono ?_;rintro e w' ⟨rfl,rfl⟩;unfold VV);go_ret3;exact⟨by rw[HTok.out];rfl,hbel⟩
   have t34:(c==34)=false:=by simp;exactλh=>h34 (.inl h)
   have t39:(c==39)=false:=by simp;exactλh=>h34 (.inr h)
   have hr:=HR2.out.trans (if_neg h34);clear HR2 h34 HD HLt;by_cases h98:c=98/\1<s.size/\(AA s 1=34\/AA s 1=39)
   .have hr2:=hr.trans (if_pos h98)
    obtain⟨g98,h1s,hm⟩:=h98;have t98:(c==98)=true:=by simp[g98]
    have h1i:(1:Int)<(s.size:Int):=Om;have e1:=HS.out 1 h1s;have HQ:=Hd (show ∀W,Calls Tryz.prog 54 #[.string s,.int .i64 1,.int .i64 14] W λe w'=>e=.returned (VV (CV s (AA s 1) 2) 14)/\W=w' from λW=>QQ s hs 1 h1s 14 W);clear hr g98;generalize CV s (AA s 1) 2=q at *;generalize AA s 1=d at *
    cases q with
    |none=>
     obtain rfl:R=(0,1,true):=hr2;by_cases g34:d=34
     .have t1:(d==34)=true:=by simp[g34]
      clear hm g34;go_wp2_with (go_at_call 54;refine(HQ.out _).mono ?_;rintro e w' ⟨rfl,rfl⟩;unfold VV);go_ret3;exact⟨by rw[HTok.out];rfl,hbel⟩
     have t1:(d==34)=false:=by simp[g34]
     have t2:(d==39)=true:=by simp[hm.resolve_left g34]
     clear hm g34;go_wp2_with (go_at_call 54;refine(HQ.out _).mono ?_;rintro e w' ⟨rfl,rfl⟩;unfold VV);go_ret3;exact⟨by rw[HTok.out];rfl,hbel⟩
    |some n=>
     obtain rfl:R=(n,14,true):=hr2;by_cases g34:d=34
     .have t1:(d==34)=true:=by simp[g34]
      clear hm g34;go_wp2_with (go_at_call 54;refine(HQ.out _).mono ?_;rintro e w' ⟨rfl,rfl⟩;unfold VV);go_ret3;exact⟨by rw[HTok.out];rfl,hbel⟩
     have t1:(d==34)=false:=by simp[g34]
     have t2:(d==39)=true:=by simp[hm.resolve_left g34]
     clear hm g34;go_wp2_with (go_at_call 54;refine(HQ.out _).mono ?_;rintro e w' ⟨rfl,rfl⟩;unfold VV);go_ret3;exact⟨by rw[HTok.out];rfl,hbel⟩
   have hr2:=hr.trans (if_neg h98);clear hr;by_cases h116:c=116/\4<=s.size/\s.extract 0 4=PP
   .obtain⟨g,h4s,ht⟩:=h116
    have hr3:=hr2.trans (if_pos ⟨g,h4s,ht⟩);have t98:(c==98)=false:=by simp[g]
    have t116:(c==116)=true:=by simp[g]
    have h4i:(4:Int)<=(s.size:Int):=Om;have tt:((s.extract 0 4).toList==[116,114,117,101])=true:=by rw[AE];exact decide_eq_true ht
    have HQ:=Hd (show ∀W,Calls Tryz.prog 55 #[.string s,.int .i64 4] W λe w'=>e=.returned (WK (DJ s 4))/\Below W.heap.size W w' from λW=>ME s hs 4 h4s W);clear hr2 h98 g ht;generalize DJ s 4=q at *;subst hr3;obtain⟨q1,q2,q3⟩:=R;go_wp2_with (go_at_call 55;refine(HQ.out _).mono ?_;rintro e w' ⟨rfl,hb1⟩;unfold WK);go_ret3;exact⟨by rw[HTok.out];rfl,hbel.trans (hb1.mono hbel.size)⟩
   have hr3:=hr2.trans (if_neg h116);clear hr2;by_cases h102:c=102/\5<=s.size/\s.extract 0 5=LQ
   .obtain⟨g,h4s,ht⟩:=h102
    have hr4:=hr3.trans (if_pos ⟨g,h4s,ht⟩);have t98:(c==98)=false:=by simp[g]
    have t116:(c==116)=false:=by simp[g]
    have t102:(c==102)=true:=by simp[g]
    have h4i:(5:Int)<=(s.size:Int):=Om;have tt:((s.extract 0 5).toList==[102,97,108,115,101])=true:=by rw[AE];exact decide_eq_true ht
    have HQ:=Hd (show ∀W,Calls Tryz.prog 55 #[.string s,.int .i64 5] W λe w'=>e=.returned (WK (DJ s 5))/\Below W.heap.size W w' from λW=>ME s hs 5 h4s W);clear hr3 h98 h116 g ht;generalize DJ s 5=q at *;subst hr4;obtain⟨q1,q2,q3⟩:=R;go_wp2_with (go_at_call 55;refine(HQ.out _).mono ?_;rintro e w' ⟨rfl,hb1⟩;unfold WK);go_ret3;exact⟨by rw[HTok.out];rfl,hbel.trans (hb1.mono hbel.size)⟩
   have HW:=Hd (hr3.trans (if_neg h102));clear hr3;by_cases g98:c=98
   .have t98:(c==98)=true:=by simp[g98]
    have t116:(c==116)=false:=by simp[g98]
    have t102:(c==102)=false:=by simp[g98]
    by_cases h1s:1<s.size
    .have h1i:(1:Int)<(s.size:Int):=Om
     have e1:=HS.out 1 h1s;have u1:(AA s 1==34)=false:=by rw[Bn];exactλh=>h98 ⟨g98,h1s,.inl h⟩
     have u2:(AA s 1==39)=false:=by rw[Bn];exactλh=>h98 ⟨g98,h1s,.inr h⟩
     clear h98 h116 h102 g98;generalize AA s 1=d at *;go_wp2_with fail;go_meet;exact⟨hbel,HW⟩
    have h1i:¬(1:Int)<(s.size:Int):=Om;clear h98 h116 h102 g98;go_wp2_with fail;go_meet;exact⟨hbel,HW⟩
   have t98:(c==98)=false:=by simp[g98]
   by_cases g116:c=116
   .have t116:(c==116)=true:=by simp[g116]
    have t102:(c==102)=false:=by simp[g116]
    by_cases h4s:4<=s.size
    .have h4i:(4:Int)<=(s.size:Int):=Om
     have tt:((s.extract 0 4).toList==[116,114,117,101])=false:=by rw[AE];exact decide_eq_false λh=>h116 ⟨g116,h4s,h⟩
     clear h98 h116 h102 g98 g116;go_wp2_with fail;go_meet;exact⟨hbel,HW⟩
    have h4i:¬(4:Int)<=(s.size:Int):=Om;clear h98 h116 h102 g98 g116;go_wp2_with fail;go_meet;exact⟨hbel,HW⟩
   have t116:(c==116)=false:=by simp[g116]
   by_cases g102:c=102
   .have t102:(c==102)=true:=by simp[g102]
    by_cases h4s:5<=s.size
    .have h4i:(5:Int)<=(s.size:Int):=Om
     have tt:((s.extract 0 5).toList==[102,97,108,115,101])=false:=by rw[AE];exact decide_eq_false λh=>h102 ⟨g102,h4s,h⟩
     clear h98 h116 h102 g98 g116 g102;go_wp2_with fail;go_meet;exact⟨hbel,HW⟩
    have h4i:¬(5:Int)<=(s.size:Int):=Om;clear h98 h116 h102 g98 g116 g102;go_wp2_with fail;go_meet;exact⟨hbel,HW⟩
   have t102:(c==102)=false:=by simp[g102]
   clear h98 h116 h102 g98 g116 g102;go_wp2_with fail;go_meet;exact⟨hbel,HW⟩
 obtain⟨hbel2,HW⟩:=hcut;clear HR;have BL:=Hd (λ(c:Int) (w:World)=>JW c w);go_upto_block 3 with fail;go_cut [9] from 170 to 187 (λv wx=>wc=wx/\∃n:Nat,v=.int .i64 n/\n<=s.size/\Hid (R=OD s n)/\Hid (T8 s 0=some n))
 case first=>
  go_wp2_with fail;go_loop [9] (λv=>∃k:Nat,k<=s.size/\v=.int .i64 k/\Hid (T8 s 0=T8 s k)) (λv=>s.size-(intOf v).toNat)
  case atStart=>exact⟨0,Om,rfl,rfl⟩
  obtain⟨k,hk,rfl,HK⟩:=hrel;by_cases hlt:(k:Int)<(s.size:Int)
  .have hks:k<s.size:=Om
   have ek:=HS.out k hks
   cases hb:AX (AA s k) with
   |true=>have HT:=Hd (show T8 s 0=some k from HK.out.trans (MO (λh=>by rw[hb]at h;simp at h)));have HR3:=Hd (show R=OD s k by rw[HW.out,HT.out]);have HB:=Hd hb;clear hb HK HW;generalize AA s k=d at *;go_wp2_with (go_at_call 32;refine(BL.out _ _).mono ?_;rintro e w' ⟨rfl,rfl⟩;rw[HB.out]);go_meet;exact⟨rfl,k,rfl,hk,HR3,HT⟩
   |false=>
    have HB:=Hd hb;by_cases h128:128<=AA s k
    .obtain rfl:R=(0,0,false):=by rw[HW.out,HK.out,OX ⟨hks,hb⟩ h128]
     clear hb HK HW;generalize AA s k=d at *;go_wp2_with (go_at_call 32;refine(BL.out _ _).mono ?_;rintro e w' ⟨rfl,rfl⟩;rw[HB.out]);go_ret3;exact⟨by rw[HTok.out];rfl,hbel2⟩
    have HK2:=Hd (HK.out.trans (KY ⟨hks,hb⟩ h128));clear hb HK;generalize AA s k=d at *;go_wp2_with (go_at_call 32;refine(BL.out _ _).mono ?_;rintro e w' ⟨rfl,rfl⟩;rw[HB.out]);go_round
    case rel=>exact⟨k+1,Om,by go_num,HK2⟩
    simp[intOf];omega
  have HT:=Hd (show T8 s 0=some k from HK.out.trans (MO (λh=>by omega)));have HR3:=Hd (show R=OD s k by rw[HW.out,HT.out]);clear HK HW;go_wp2_with fail;go_meet;exact⟨rfl,k,rfl,hk,HR3,HT⟩
 obtain⟨rfl,n,rfl,hn,HR2,HT⟩:=hcut;clear HW BL;have hn1:=HGe.out n HT.out;have hn1i:(1:Int)<=(n:Int):=Om;clear HGe HT;have hni:(n:Int)<=(s.size:Int):=Om;have PC:=Hd (λW=>Y9 (s.extract 0 n) (by simp;omega) W);have VC:=Hd (λW=>SO (s.extract 1 n) (by simp;omega) W);have LC:=Hd (λW=>SE (s.extract 1 n) (by simp;omega) W);have NC:=Hd (λW=>JV (s.extract 0 n) (by simp;omega) (by simp;omega) W);have HN0:=Hd (show AA (s.extract 0 n) 0=c by rw[BU s n 0 Om,HC.out]);go_upto_region 27 with fail;go_cut [209] from 188 to 208 (λv wx=>Below w.heap.size w wx/\∃nb,v=.bool nb/\WZ s R c n nb)
 case first=>
  clear NC;by_cases h64:c=64
  .have t1:(c==64)=true:=by simp[h64]
   cases hP:OO (s.extract 0 n) with
   |false=>have HP:=Hd hP;have HF:WZ s R c n false:=⟨λh=>by simp at h,λ_=>⟨by rw[HR2.out];unfold OD;rw[if_neg (λh=>by rw[hP]at h;simp at h)];rfl,λ_=>ACq hn (QX hP)⟩⟩;clear h64 hP;go_wp2_with (go_at_call 56;refine(PC.out _).mono ?_;rintro e w' ⟨rfl,rfl⟩;rw[HP.out]);go_meet;exact⟨hbel2,false,rfl,HF⟩
   |true=>
    have HP:=Hd hP
    cases hL:RQ (s.extract 1 n) with
    |false=>
     have HL:=Hd hL;have HF:WZ s R c n true:=⟨λ_=>by rw[HR2.out];unfold OD;rw[if_pos ⟨by rw[HC.out];exact h64,hP,by rw[hL];simp⟩],λh=>by simp at h⟩;clear h64 hP hL;go_upto_region 27 with fail;go_wp2_with (first|(go_at_call 56;refine(PC.out _).mono ?_;rintro e w' ⟨rfl,rfl⟩;rw[HP.out])|(go_at_call 37;refine(VC.out _).mono ?_;rintro e w' ⟨b,rfl,hq,hb1⟩;clear hq;have hbel3:=hbel2.trans (hb1.mono hbel2.size);clear hb1;cases b)|(go_at_call 57;refine(LC.out _).mono ?_;rintro e w' ⟨rfl,rfl⟩;rw[HL.out]))
     all_goals go_meet
     all_goals exact⟨by assumption,true,rfl,HF⟩
    |true=>
     have HL:=Hd hL;have HNP:=Hd (SX hL)
     cases hV:N5 (s.extract 1 n) with
     |false=>have HV:=Hd hV;have HF:WZ s R c n true:=⟨λ_=>by rw[HR2.out];unfold OD;rw[if_pos ⟨by rw[HC.out];exact h64,hP,by rw[hV];simp⟩],λh=>by simp at h⟩;clear h64 hP hL hV;go_wp2_with (first|(go_at_call 56;refine(PC.out _).mono ?_;rintro e w' ⟨rfl,rfl⟩;rw[HP.out])|(go_at_call 37;refine(VC.out _).mono ?_;rintro e w' ⟨b,rfl,hq,hb1⟩;obtain rfl:b=false:=(hq HNP.out).trans HV.out;clear hq;have hbel3:=hbel2.trans (hb1.mono hbel2.size);clear hb1)|(go_at_call 57;refine(LC.out _).mono ?_;rintro e w' ⟨rfl,rfl⟩;rw[HL.out]));go_meet;exact⟨hbel3,true,rfl,HF⟩
     |true=>have HV:=Hd hV;have HF:WZ s R c n false:=⟨λh=>by simp at h,λ_=>⟨by rw[HR2.out];unfold OD;rw[if_neg (λh=>h.2.2 ⟨hV,hL⟩)];rfl,λ_=>HNP.out⟩⟩;clear h64 hP hL hV;go_wp2_with (first|(go_at_call 56;refine(PC.out _).mono ?_;rintro e w' ⟨rfl,rfl⟩;rw[HP.out])|(go_at_call 37;refine(VC.out _).mono ?_;rintro e w' ⟨b,rfl,hq,hb1⟩;obtain rfl:b=true:=(hq HNP.out).trans HV.out;clear hq;have hbel3:=hbel2.trans (hb1.mono hbel2.size);clear hb1)|(go_at_call 57;refine(LC.out _).mono ?_;rintro e w' ⟨rfl,rfl⟩;rw[HL.out]));go_meet;exact⟨hbel3,false,rfl,HF⟩
  have t1:(c==64)=false:=by simp[h64]
  have HF:WZ s R c n false:=⟨λh=>by simp at h,λ_=>⟨by rw[HR2.out];unfold OD;rw[if_neg (λh=>h64 (by rw[<-HC.out];exact h.1))];rfl,λh=>absurd h h64⟩⟩;clear h64;go_wp2_with fail;go_meet;exact⟨hbel2,false,rfl,HF⟩
 obtain⟨hbel3,nb,rfl,HF⟩:=hcut;clear PC LC HR2
 cases nb with
 |true=>obtain rfl:R=(0,0,false):=HF.1 rfl;clear HF;go_wp2_with fail;go_ret3;exact⟨by rw[HTok.out];rfl,hbel3⟩
 |false=>
  obtain⟨hr,hnp⟩:=HF.2 rfl;have HR3:=Hd hr;have HNP:=Hd hnp;clear HF hr hnp;go_upto_region 30 with(go_at_call 15;refine(NC.out _).mono ?_;rintro e w' ⟨t,ok,rfl,ht,hq,hb1⟩;have HQ:=Hd hq;clear hq ht;have hbel4:=hbel3.trans (hb1.mono hbel3.size);clear hb1);have HOK:=Hd (show (CA (s.extract 0 n)).2=ok by
   rw[<-HQ.out (by
    by_cases h:c=64
    .exact .inl (UZ hn (HNP.out h) (by rw[HC.out];exact h))
    exact .inr (by rw[HN0.out];exact h))])
  clear HQ NC
  cases ok with
  |true=>obtain rfl:R=(n,13,true):=HR3.out.trans (if_neg (λh=>by rw[HOK.out]at h;simp at h));clear HR3 HOK;go_wp2_with fail;go_ret3;exact⟨by rw[HTok.out];rfl,hbel4⟩
  |false=>
   by_cases h64:c=64
   .have t1:(c !=64)=false:=by simp[h64]
    have hnd:s.extract 0 n≠TU:=λh=>by have h1:=HN0.out;rw[h,h64]at h1;exact absurd h1 De
    have t2:((s.extract 0 n).toList==[100,111,117,98,108,101])=false:=by rw[AE];exact decide_eq_false hnd
    have t3:((s.extract 0 n).toList != [100,111,117,98,108,101])=true:=by unfold bne;rw[t2];rfl
    have HNP1:=Hd (HNP.out h64)
    cases hV:N5 (s.extract 1 n) with
    |true=>
     obtain rfl:R=(n,13,true):=HR3.out.trans (if_neg (λh=>by
      rcases h.2.1 with h1|h1
      .exact h1 (by rw[HC.out];exact h64)
      rw[hV]at h1;simp at h1))
     have HV:=Hd hV;clear HR3 HOK hV h64 hnd;go_wp2_with (go_at_call 37;refine(VC.out _).mono ?_;rintro e w' ⟨b,rfl,hq,hb1⟩;obtain rfl:b=true:=(hq HNP1.out).trans HV.out;clear hq;have hbel5:=hbel4.trans (hb1.mono hbel4.size);clear hb1);go_ret3;exact⟨by rw[HTok.out];rfl,hbel5⟩
    |false=>obtain rfl:R=(0,1,true):=HR3.out.trans (if_pos ⟨HOK.out,.inr hV,hnd⟩);have HV:=Hd hV;clear HR3 HOK hV h64 hnd;go_wp2_with (go_at_call 37;refine(VC.out _).mono ?_;rintro e w' ⟨b,rfl,hq,hb1⟩;obtain rfl:b=false:=(hq HNP1.out).trans HV.out;clear hq;have hbel5:=hbel4.trans (hb1.mono hbel4.size);clear hb1);go_ret3;exact⟨by rw[HTok.out];rfl,hbel5⟩
   have t1:(c !=64)=true:=by simp[h64]
   by_cases hd:s.extract 0 n=TU
   .have t2:((s.extract 0 n).toList==[100,111,117,98,108,101])=true:=by rw[AE];exact decide_eq_true hd
    have t3:((s.extract 0 n).toList != [100,111,117,98,108,101])=false:=by unfold bne;rw[t2];rfl
    obtain rfl:R=(n,13,true):=HR3.out.trans (if_neg (λh=>h.2.2 hd));clear HR3 HOK h64 hd;go_wp2_with fail;go_ret3;exact⟨by rw[HTok.out];rfl,hbel4⟩
   have t2:((s.extract 0 n).toList==[100,111,117,98,108,101])=false:=by rw[AE];exact decide_eq_false hd
   have t3:((s.extract 0 n).toList != [100,111,117,98,108,101])=true:=by unfold bne;rw[t2];rfl
   obtain rfl:R=(0,1,true):=HR3.out.trans (if_pos ⟨HOK.out,.inl (by rw[HC.out];exact h64),hd⟩);clear HR3 HOK h64 hd;go_wp2_with fail;go_ret3;exact⟨by rw[HTok.out];rfl,hbel4⟩
theorem AB0(s:ByteArray)(hs:s.size<=100000)(hp:0<s.size)(hbl:AX (AA s 0)=false)(w:World):Calls Tryz.prog 33 #[.string s] w (AMc s w):=by
 cases h:GJ (AA s 0) with
 |some i=>exact AC0 s hs hp i h w
 |none=>exact ACj s hs hp h hbl w
abbrev AW:=Nat×ByteArray
def DO(ts:List AW):List Value:=ts.flatMap λt=>[.int .i64 t.1,.string t.2]
def BO(s:ByteArray):Option (List AW):=
 if s.size=0 then some [(0,⟨#[]⟩)]
 else if AX (AA s 0)=true then BO (s.extract 1 s.size)
 else if (B3 s).2.2=false then none
 else if (B3 s).2.1=1 then some [(1,⟨#[]⟩)]
 else if h:1<=(B3 s).1/\(B3 s).1<=s.size then(BO (s.extract (B3 s).1 s.size)).map (((B3 s).2.1,s.extract 0 (B3 s).1)::·)
 else none
 termination_by s.size
 decreasing_by all_goals (simp only[ByteArray.size_extract];omega)
def EJ(s:ByteArray):Option (List AW):=if ABd s=false\/BT 0 s=true then none else BO s
theorem GZ{s:ByteArray}(h:s.size=0):BO s=some [(0,⟨#[]⟩)]:=by unfold BO;rw[if_pos h]
theorem F2{s:ByteArray}(h:s.size≠0)(hb:AX (AA s 0)=true):BO s=BO (s.extract 1 s.size):=by
 conv=>lhs;unfold BO
 rw[if_neg h,if_pos hb]
theorem KT{s:ByteArray}(h:s.size≠0)(hb:AX (AA s 0)=false)(h1:(B3 s).2.2=false):BO s=none:=by unfold BO;rw[if_neg h,if_neg (by simp[hb]),if_pos h1]
theorem L9{s:ByteArray}(h:s.size≠0)(hb:AX (AA s 0)=false)(h1:(B3 s).2.2=true)(h2:(B3 s).2.1=1):BO s=some [(1,⟨#[]⟩)]:=by unfold BO;rw[if_neg h,if_neg (by simp[hb]),if_neg (by simp[h1]),if_pos h2]
theorem GW{s:ByteArray}(h:s.size≠0)(hb:AX (AA s 0)=false)(h1:(B3 s).2.2=true)(h2:(B3 s).2.1≠1)(h3:1<=(B3 s).1/\(B3 s).1<=s.size) :
 BO s=(BO (s.extract (B3 s).1 s.size)).map (((B3 s).2.1,s.extract 0 (B3 s).1)::·):=by
 conv=>lhs;unfold BO
 rw[if_neg h,if_neg (by simp[hb]),if_neg (by simp[h1]),if_neg h2,dif_pos h3]
theorem IJ{s:ByteArray}{q:Int}{k n:Nat}(h:CV s q k=some n):k<n/\n<=s.size:=by
 by_cases hk:k<s.size
 .by_cases h1:AA s k=92
  .rw[EH hk h1]at h
   have:=IJ h;omega
  by_cases h2:AA s k=q
  .rw[FO hk h1 h2]at h;simp at h;omega
  rw[DU hk h1 h2]at h;have:=IJ h;omega
 rw[GM hk]at h;simp at h
 termination_by s.size-k
theorem ADm{s:ByteArray}{i n:Nat}(hi:i<=s.size)(h:T8 s i=some n):n<=s.size:=by
 by_cases h1:i<s.size/\AX (AA s i)=false
 .by_cases h2:128<=AA s i
  .rw[OX h1 h2]at h;simp at h
  rw[KY h1 h2]at h;exact ADm Om h
 rw[MO h1]at h;simp at h;omega
 termination_by s.size-i
theorem AB6(s:ByteArray)(hp:0<s.size){n:Nat}(h:CT s=(n,true)):1<=n:=by
 rw[FX]at h;split at h
 .unfold ntZ at h
  split at h
  .have:=ZH s (DV s+1+1)
   simp at h;omega
  split at h
  .have:=FM s 55 (DV s+1+1)
   simp at h;omega
  have:=FM s 55 (DV s+1);simp at h;omega
 unfold ntD at h;have h1:=FM s 57 (DV s);split at h
 .simp at h
 rename_i hne;unfold ntT at h;have h2:1<=(if BG s 57 (DV s)<s.size/\AA s (BG s 57 (DV s))=46 then BG s 57 (BG s 57 (DV s)+1) else BG s 57 (DV s)):=by
  split
  .have:=FM s 57 (BG s 57 (DV s)+1);omega
  omega
 generalize (if BG s 57 (DV s)<s.size/\AA s (BG s 57 (DV s))=46 then BG s 57 (BG s 57 (DV s)+1) else BG s 57 (DV s))=e2 at *;split at h
 .unfold ntE at h
  have h4:1<=(if e2+1<s.size/\(AA s (e2+1)=43\/AA s (e2+1)=45) then e2+2 else e2+1):=by split<;>omega
  generalize (if e2+1<s.size/\(AA s (e2+1)=43\/AA s (e2+1)=45) then e2+2 else e2+1)=e4 at *;have:=FM s 57 e4;split at h
  .simp at h
  simp at h;omega
 simp at h;omega
theorem WC{s:ByteArray}(hp:0<s.size)(h:(PG s (CT s)).2.2=true)(h1:(PG s (CT s)).2.1≠1):1<=(PG s (CT s)).1/\(PG s (CT s)).1<=s.size/\(PG s (CT s)).2.1=2:=by
 generalize hr:CT s=r at *;obtain⟨n,ok⟩:=r;unfold PG at h h1 ⊢;split at h
 .simp at h
 rename_i g1;rw[if_neg g1]at h1 ⊢;split at h
 .rename_i g2
  rw[if_pos g2]at h1;simp at h1
 rename_i g2;rw[if_neg g2];have hok:ok=true:=by
  cases ok with
  |true=>rfl
  |false=>exact absurd (Or.inl rfl) g1
 subst hok;exact⟨AB6 s hp hr,P1 s hp hr,rfl⟩
theorem QR{s:ByteArray}{q:Int}{k kind:Nat}(h1:(PE (CV s q k) kind).2.1≠1):1<=(PE (CV s q k) kind).1/\(PE (CV s q k) kind).1<=s.size/\(PE (CV s q k) kind).2.1=kind:=by
 cases hq:CV s q k with
 |none=>rw[hq]at h1;simp[PE]at h1
 |some n=>have:=IJ hq;simp[PE];omega
theorem NF{s:ByteArray}{n:Nat}(hn:n<=s.size)(h1:1<=n)(h:(DJ s n).2.2=true):1<=(DJ s n).1/\(DJ s n).1<=s.size/\(DJ s n).2.1=4:=by
 unfold DJ at h ⊢;split at h
 .simp at h
 rename_i g;rw[if_neg g];exact⟨h1,hn,rfl⟩
theorem ML{s:ByteArray}(hp:0<s.size)(hb:AX (AA s 0)=false)(h:(B3 s).2.2=true)(h1:(B3 s).2.1≠1):1<=(B3 s).1/\(B3 s).1<=s.size/\(B3 s).2.1<=14:=by
 unfold B3 at h h1 ⊢;split at h
 .rename_i k hk
  have:=Q6 hk;exact⟨by simp,by simp;omega,by simp;omega⟩
 rename_i hk;rw[hk]at h1;simp only at h1;split at h
 .rename_i g
  rw[if_pos g]at h1 ⊢;have:=WC hp h h1;exact⟨this.1,this.2.1,Om⟩
 rename_i g;rw[if_neg g]at h1 ⊢;split at h
 .rename_i g2
  rw[if_pos g2]at h1 ⊢;have:=QR h1;exact⟨this.1,this.2.1,Om⟩
 rename_i g2;rw[if_neg g2]at h1 ⊢;split at h
 .rename_i g3
  rw[if_pos g3]at h1 ⊢;have:=QR h1;exact⟨this.1,this.2.1,Om⟩
 rename_i g3;rw[if_neg g3]at h1 ⊢;split at h
 .rename_i g4
  rw[if_pos g4]at h1 ⊢;have:=NF g4.2.1 Om h;exact⟨this.1,this.2.1,Om⟩
 rename_i g4;rw[if_neg g4]at h1 ⊢;split at h
 .rename_i g5
  rw[if_pos g5]at h1 ⊢;have:=NF g5.2.1 Om h;exact⟨this.1,this.2.1,Om⟩
 rename_i g5;rw[if_neg g5]at h1 ⊢;split at h
 .simp at h
 rename_i n hn;rw[hn]at h1;simp only at h1;have l1:=X8 hp hb hn;have l2:=ADm (Nat.zero_le _) hn;unfold OD at h h1 ⊢;split at h
 .simp at h
 rename_i g6;rw[if_neg g6]at h1 ⊢;split at h
 .rename_i g7
  rw[if_pos g7]at h1;simp at h1
 rename_i g7;rw[if_neg g7];exact⟨l1,l2,by simp⟩
