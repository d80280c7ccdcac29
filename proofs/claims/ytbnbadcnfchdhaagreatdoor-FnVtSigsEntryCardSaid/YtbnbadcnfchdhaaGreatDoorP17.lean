/- Lemmas for FnVtSigsEntry; no conditions. -/
import Derived.Test.YtbnbadcnfchdhaaGreatDoorP16
set_option maxRecDepth 100000
set_option maxHeartbeats 16000000
set_option linter.all false
namespace Go.Proofs.YtbnbadcnfchdhaaGreatDoor
open Go.RowKit
def BJ(k b d:Nat):Nat×Nat:=
 if (k:Int)=7 then(b+1,d+1) else if (k:Int)=5 then(b,d+1) else if (k:Int)=9 then(b,d+1) else if (k:Int)=8 then(b-1,d-1) else if (k:Int)=6 then(b,d-1) else if (k:Int)=10 then(b,d-1) else(b,d)
def C5:List AW->Nat->Nat->Nat->Nat->Nat×Nat
 |[],_,_,m,e=>(m,e)
 |t::ts,b,d,m,e=>C5 ts (BJ t.1 b d).1 (BJ t.1 b d).2 (max m (BJ t.1 b d).1) (max e (BJ t.1 b d).2)
def AP2(q:Nat×Nat)(w:World)(en:Ending)(w':World):Prop:=en=.returned (.tuple #[.int .i64 q.1,.int .i64 q.2])/\Below w.heap.size w w'
theorem ZN{w:World}{A:Option Addr}{n c:Nat}{ts:List AW}(hn:n=ts.length)(hs:n<=100001)(hrow:w.ownsRow 0 48 2 (.slice A n c) n (DO ts)) :
 Calls Tryz.prog 13 #[.slice A n c] w (AP2 (C5 ts 0 0 0 0) w):=by
 generalize hR:C5 ts 0 0 0 0=R
 have HR:=Hd (show C5 (ts.drop 0) 0 0 0 0=R from hR)
 clear hR
 have HRow:=Hd hrow
 clear hrow
 go_enter Tryz.func13,Tryz.ntmps13
 go_wp2_with fail
 go_loopw [2,3,4,5,10] (λv2 v3 v4 v5 v10 wr=>∃(i b d m e:Nat),v2=.int .i64 m/\v3=.int .i64 e/\v4=.int .i64 b/\v5=.int .i64 d/\v10=.int .i64 i/\i<=n/\b<=i/\d<=i/\m<=i/\e<=i/\Below w.heap.size w wr/\Hid (C5 (ts.drop i) b d m e=R)) (λ_ _ _ _ v _=>n-(intOf v).toNat)
 case atStart=>exact⟨0,0,0,0,0,rfl,rfl,rfl,rfl,rfl,Om,Om,Om,Om,Om,Bl,HR⟩
 obtain⟨i,b,d,m,e,rfl,rfl,rfl,rfl,rfl,hi,h1,h2,h3,h4,hbel,HK⟩:=hrel
 have hbs:=hbel.size
 clear HR
 by_cases hlt:(i:Int)<(n:Int)
 .have hit:i<ts.length:=Om
  have hrow2:=AD HRow.out hbel;obtain⟨A',c',he,hA⟩:=AF hrow2;simp only[Value.slice.injEq]at he;obtain⟨rfl,_,rfl⟩:=he;obtain⟨g,rfl,hg⟩:=hA Om;have hc:=OG ts i hit;have c0:wr.cell? ⟨g,i*2,none⟩=some (.int .i64 (ts[i]).1):=by rw[AV hrow2 g _ rfl _ Om,hc.1]
  have c1:wr.cell? ⟨g,i*2+1,none⟩=some (.string (ts[i]).2):=by rw[AV hrow2 g _ rfl _ Om,hc.2]
  have hii:i<n:=Om;have hdr:C5 (ts.drop i) b d m e=C5 (ts.drop (i+1)) (BJ (ts[i]).1 b d).1 (BJ (ts[i]).1 b d).2 (max m (BJ (ts[i]).1 b d).1) (max e (BJ (ts[i]).1 b d).2):=by rw[List.drop_eq_getElem_cons hit];rfl
  have HK2:=Hd (hdr.symm.trans HK.out);clear hdr hc hrow2 hA hn;generalize (ts[i]).1=k at *;generalize (ts[i]).2=x at *;have hbl:(b:Int)<1000000:=Om
  cases t7:((k:Int)==7) with
  |true=>
   have hq:BJ k b d=(b+1,d+1):=by unfold BJ;simp at *;simp[*]
   clear HK;go_wp2_with fail;go_roundw
   case rel=>exact⟨i+1,(BJ k b d).1,(BJ k b d).2,max m (BJ k b d).1,max e (BJ k b d).2,by simp[hq]<;>omega,by simp[hq]<;>omega,by simp[hq]<;>omega,by simp[hq]<;>omega,by go_num,Om,by simp[hq]<;>omega,by simp[hq]<;>omega,by simp[hq]<;>omega,by simp[hq]<;>omega,hbel.alloc hbs _,HK2⟩
   simp[intOf];omega
  |false=>
   cases t5:((k:Int)==5) with
   |true=>
    have hq:BJ k b d=(b,d+1):=by unfold BJ;simp at *;simp[*]
    clear HK;go_wp2_with fail;go_roundw
    case rel=>exact⟨i+1,(BJ k b d).1,(BJ k b d).2,max m (BJ k b d).1,max e (BJ k b d).2,by simp[hq]<;>omega,by simp[hq]<;>omega,by simp[hq]<;>omega,by simp[hq]<;>omega,by go_num,Om,by simp[hq]<;>omega,by simp[hq]<;>omega,by simp[hq]<;>omega,by simp[hq]<;>omega,hbel.alloc hbs _,HK2⟩
    simp[intOf];omega
   |false=>
    cases t9:((k:Int)==9) with
    |true=>
     have hq:BJ k b d=(b,d+1):=by unfold BJ;simp at *;simp[*]
     clear HK;go_wp2_with fail;go_roundw
     case rel=>exact⟨i+1,(BJ k b d).1,(BJ k b d).2,max m (BJ k b d).1,max e (BJ k b d).2,by simp[hq]<;>omega,by simp[hq]<;>omega,by simp[hq]<;>omega,by simp[hq]<;>omega,by go_num,Om,by simp[hq]<;>omega,by simp[hq]<;>omega,by simp[hq]<;>omega,by simp[hq]<;>omega,hbel.alloc hbs _,HK2⟩
     simp[intOf];omega
    |false=>
     cases t8:((k:Int)==8) with
     |true=>
      have hq:BJ k b d=(b-1,d-1):=by unfold BJ;simp at *;simp[*]
      clear HK;go_wp2_with fail;go_roundw
      case rel=>exact⟨i+1,(BJ k b d).1,(BJ k b d).2,max m (BJ k b d).1,max e (BJ k b d).2,by simp[hq]<;>omega,by simp[hq]<;>omega,by simp[hq]<;>omega,by simp[hq]<;>omega,by go_num,Om,by simp[hq]<;>omega,by simp[hq]<;>omega,by simp[hq]<;>omega,by simp[hq]<;>omega,hbel.alloc hbs _,HK2⟩
      simp[intOf];omega
     |false=>
      cases t6:((k:Int)==6) with
      |true=>
       have hq:BJ k b d=(b,d-1):=by unfold BJ;simp at *;simp[*]
       clear HK;go_wp2_with fail;go_roundw
       case rel=>exact⟨i+1,(BJ k b d).1,(BJ k b d).2,max m (BJ k b d).1,max e (BJ k b d).2,by simp[hq]<;>omega,by simp[hq]<;>omega,by simp[hq]<;>omega,by simp[hq]<;>omega,by go_num,Om,by simp[hq]<;>omega,by simp[hq]<;>omega,by simp[hq]<;>omega,by simp[hq]<;>omega,hbel.alloc hbs _,HK2⟩
       simp[intOf];omega
      |false=>
       cases t10:((k:Int)==10) with
       |true=>
        have hq:BJ k b d=(b,d-1):=by unfold BJ;simp at *;simp[*]
        clear HK;go_wp2_with fail;go_roundw
        case rel=>exact⟨i+1,(BJ k b d).1,(BJ k b d).2,max m (BJ k b d).1,max e (BJ k b d).2,by simp[hq]<;>omega,by simp[hq]<;>omega,by simp[hq]<;>omega,by simp[hq]<;>omega,by go_num,Om,by simp[hq]<;>omega,by simp[hq]<;>omega,by simp[hq]<;>omega,by simp[hq]<;>omega,hbel.alloc hbs _,HK2⟩
        simp[intOf];omega
       |false=>
        have hq:BJ k b d=(b,d):=by unfold BJ;simp at *;simp[*]
        clear HK;go_wp2_with fail;go_roundw
        case rel=>exact⟨i+1,(BJ k b d).1,(BJ k b d).2,max m (BJ k b d).1,max e (BJ k b d).2,by simp[hq]<;>omega,by simp[hq]<;>omega,by simp[hq]<;>omega,by simp[hq]<;>omega,by go_num,Om,by simp[hq]<;>omega,by simp[hq]<;>omega,by simp[hq]<;>omega,by simp[hq]<;>omega,hbel.alloc hbs _,HK2⟩
        simp[intOf];omega
 obtain rfl:i=n:=Om
 obtain rfl:R=(m,e):=by rw[<-HK.out,List.drop_eq_nil_of_le Om];rfl
 clear HK
 go_wp2_with fail
 go_ret2
 exact⟨rfl,hbel⟩
def AQ(xs:List ByteArray):List Value:=xs.map .string
def AP5(xs:List ByteArray)(w:World)(en:Ending)(w':World):Prop:=
 ∃(A:Option Addr) (n c:Nat) (zs:List ByteArray),en=.returned (.slice A n c)/\n<=xs.length/\n=zs.length/\(∀z∈zs,z∈xs)/\w'.ownsRow w.heap.size 9 1 (.slice A n c) n (AQ zs)/\Below w.heap.size w w'
theorem MU{w:World}{A B:Option Addr}{n c m d:Nat}{xs ys:List ByteArray}(hn:n=xs.length)(hm:m=ys.length)(hs:n<=1000000)(ht:m<=1000000)
 (hx:w.ownsRow 0 9 1 (.slice A n c) n (AQ xs)) (hy:w.ownsRow 0 9 1 (.slice B m d) m (AQ ys)):Calls Tryz.prog 40 #[.slice A n c,.slice B m d] w (AP5 xs w):=by
 obtain⟨i0,hi,hz0,hz1,hz2⟩:=info_parts Tryz.info9
 have HX:=Hd hx
 have HY:=Hd hy
 have HN:=Hd hn
 have HM:=Hd hm
 clear hx hy hn hm
 go_enter Tryz.func40,Tryz.ntmps40
 go_wp2_with fail
 go_loopw [5,6,11] (λv5 v6 v11 wr=>∃(C:Option Addr) (q e i j:Nat) (zs:List ByteArray),v5=.slice C q e/\v6=.int .i64 j/\v11=.int .i64 i/\i<=n/\j<=m/\q<=i/\Hid (q=zs.length)/\(∀z∈zs,z∈xs)/\wr.ownsRow w.heap.size 9 1 (.slice C q e) q (AQ zs)/\Below w.heap.size w wr) (λ_ _ v _=>n-(intOf v).toNat)
 case atStart=>exact⟨none,0,0,0,0,[],rfl,rfl,rfl,Om,Om,Om,rfl,by simp,⟨rfl,.inl ⟨rfl,rfl⟩⟩,Bl⟩
 obtain⟨C,q,e,i,j,zs,rfl,rfl,rfl,hin,hjm,hqi,HQZ,hzs,hown,hbel⟩:=hrel
 by_cases hlt:(i:Int)<(n:Int)
 .have hii:i<n:=Om
  have hit:i<xs.length:=by have:=HN.out;omega
  have hrow2:=AD HX.out hbel;have hrowy:=AD HY.out hbel;obtain⟨A',c',he,hA⟩:=AF hrow2;simp only[Value.slice.injEq]at he;obtain⟨rfl,_,rfl⟩:=he;obtain⟨g,rfl,hg⟩:=hA Om;have c0:wr.cell? ⟨g,i,none⟩=some (.string xs[i]):=by rw[AV hrow2 g _ rfl _ Om];simp[AQ,hit]
  have hmem:xs[i]∈xs:=List.getElem_mem hit;have HRY:=Hd hrowy;have HOW:=Hd hown;clear hrow2 hrowy hown hA;generalize xs[i]=x at *;go_upto_block 2 with fail;go_cut [6] from 15 to 28 (λv6 wx=>∃j2:Nat,v6=.int .i64 j2/\j2<=m/\Below wr.heap.size wr wx)
  case first=>
   go_wp2_with fail;go_loopw [6] (λv6 wx=>∃j2:Nat,v6=.int .i64 j2/\j2<=m/\Below wr.heap.size wr wx) (λv _=>m-(intOf v).toNat)
   case atStart=>exact⟨j,rfl,hjm,Bl⟩
   obtain⟨j2,rfl,hj2,hb2⟩:=hrel;by_cases hl2:(j2:Int)<(m:Int)
   .have hl2n:j2<m:=Om
    have hjt:j2<ys.length:=by have:=HM.out;omega
    have hrowy:=AD HRY.out (hb2.mono Nl);obtain⟨B',d',he2,hB⟩:=AF hrowy;simp only[Value.slice.injEq]at he2;obtain⟨rfl,_,rfl⟩:=he2;obtain⟨g2,rfl,hg2⟩:=hB Om;have c2:wr.cell? ⟨g2,j2,none⟩=some (.string ys[j2]):=by rw[AV hrowy g2 _ rfl _ Om];simp[AQ,hjt]
    clear hrowy hB;generalize ys[j2]=y at *
    cases hL:Op.bytesLess y.toList x.toList with
    |true=>
     go_wp2_with fail;go_roundw
     case rel=>exact⟨j2+1,by go_num,Om,hb2⟩
     simp[intOf];omega
    |false=>go_wp2_with fail;go_meet;exact⟨j2,rfl,hj2,hb2⟩
   go_wp2_with fail;go_meet;exact⟨j2,rfl,hj2,hb2⟩
  obtain⟨j2,rfl,hj2,hb2⟩:=hcut;have hbs:=hbel.size;have hb3:Below w.heap.size w wc:=hbel.trans (hb2.mono hbs);have hown:=AD HOW.out hb2;have hbs3:=hb3.size;clear hb2 hbel;by_cases hl2:(j2:Int)<(m:Int)
  .have hl2n:j2<m:=Om
   have hjt:j2<ys.length:=by have:=HM.out;omega
   have hrowy:=AD HY.out hb3;obtain⟨B',d',he2,hB⟩:=AF hrowy;simp only[Value.slice.injEq]at he2;obtain⟨rfl,_,rfl⟩:=he2;obtain⟨g2,rfl,hg2⟩:=hB Om;have c2:wc.cell? ⟨g2,j2,none⟩=some (.string ys[j2]):=by rw[AV hrowy g2 _ rfl _ Om];simp[AQ,hjt]
   clear hrowy hB;generalize ys[j2]=y at *
   cases hE:(y.toList==x.toList) with
   |true=>
    have HZS:=Hd hzs;clear hzs;go_wp2_with (at_builtin;refine wpList_append_own _ rfl _ _ 29 rfl w.heap.size 9 i0 (.string ⟨#[]⟩) 1 16 Tryz.underlying29 hi hz0 hz1 hz2 rfl De _ _ _ rfl (AD hown (Bl.alloc Nl _)) ⟨wc.heap.size,0,none⟩ 1 1 [.string x] rfl rfl ?c1 ?c2 ?c3 ?c4 ?c5 ?_)
    case c1=>exact cell_one_new _ _ _
    case c2=>intro u hu;obtain rfl:=(by simpa using hu);rfl
    case c3=>unfold maxLen;omega
    case c4=>omega
    case c5=>simp;omega
    intro v' w1 hown1 hgrow hnil;clear hnil;have hbel1:=(hb3.alloc hbs3 (.cells #[.string x] 9)).grown hgrow (by simp;omega) (AG hown);obtain⟨A1,c1,rfl,_⟩:=AF hown1;clear hgrow hown;go_wp2_with fail;go_roundw
    case rel=>exact⟨A1,q+1,c1,i+1,j2,zs++[x],rfl,rfl,by go_num,Om,hj2,Om,(by have:=HQZ.out;show _=_;simp;omega),(by intro z hz;rcases List.mem_append.1 hz with h|h;exact HZS.out z h;obtain rfl:=List.mem_singleton.1 h;exact hmem),(by simpa[AQ] using hown1),hbel1⟩
    simp[intOf];omega
   |false=>
    go_wp2_with fail;go_roundw
    case rel=>exact⟨C,q,e,i+1,j2,zs,rfl,rfl,by go_num,Om,hj2,Om,HQZ,hzs,hown,hb3⟩
    simp[intOf];omega
  go_wp2_with fail;go_roundw
  case rel=>exact⟨C,q,e,i+1,j2,zs,rfl,rfl,by go_num,Om,hj2,Om,HQZ,hzs,hown,hb3⟩
  simp[intOf];omega
 go_wp2_with fail
 go_ret
 exact⟨C,q,e,zs,rfl,by have:=HN.out;omega,HQZ.out,hzs,hown,hbel⟩
def IP(s:ByteArray):Prop:=0<s.size/\∃a e,BI s a e=s.size
theorem B6(s:ByteArray)(a b:Nat):(s.extract a b).data.toList=(s.data.toList.take b).drop a:=by simp[ByteArray.data_extract,List.extract_eq_take_drop,List.drop_take]
theorem B8{s t:ByteArray}(h:s.data.toList=t.data.toList):s=t:=by
 cases s;cases t;simp only[ByteArray.mk.injEq];exact Array.toList_inj.1 h
theorem Y7(t:ByteArray)(k m:Nat)(hm:m<=t.size):(t.extract 0 m).extract k (t.extract 0 m).size=(t.extract k t.size).extract 0 (m-k):=by
 apply B8;have hl:t.data.toList.length=t.size:=rfl;have h1:(t.extract 0 m).size=m:=by simp only[ByteArray.size_extract];omega
 rw[h1];simp only[B6,List.drop_zero];rw[List.take_take,Nat.min_self,List.take_of_length_le (l:=t.data.toList) (i:=t.size) Om,List.drop_take]
theorem KA(t:ByteArray)(m i:Nat)(hi:i<m):AA (t.extract 0 m) i=AA t i:=by unfold AA;rw[B6,List.drop_zero,List.getD_eq_getElem?_getD,List.getD_eq_getElem?_getD,List.getElem?_take_of_lt hi]
theorem Q8(N:Nat):∀(t:ByteArray),t.size<=N->∀(a e:Int),BI t a e<=t.size:=by
 induction N with
 |zero=>intro t ht a e;rw[DA Om];omega
 |succ N ih=>
  intro t ht a e;by_cases h:t.size=0\/a<0\/e<0
  .rw[DA h];omega
  by_cases h1:(BV (AA t 0)||decide (AA t 0=118))=true
  .rw[IR h h1];omega
  have h1:=Bool.eq_false_iff.2 h1;by_cases h0:AA t 0=97
  .by_cases h2:1<t.size/\AA t 1=123
   .rw[G6 h h0 h2]
    split
    .omega
    split<;>omega
   rw[KO h h0 h2];have:=ih (t.extract 1 t.size) (by rw[AU _ _ Om];omega) (a-1) e;rw[AU _ _ Om]at this;split<;>omega
  rw[LU h h1 h0];omega
theorem XC(N:Nat):∀(t:ByteArray),t.size<=N->∀(a e:Int) (m:Nat),0<BI t a e->BI t a e<=m->m<=t.size->BI (t.extract 0 m) a e=BI t a e:=by
 induction N with
 |zero=>intro t ht a e m h0;rw[DA Om]at h0;omega
 |succ N ih=>
  intro t ht a e m h0 hm hms;have hsz:(t.extract 0 m).size=m:=by simp[ByteArray.size_extract];omega
  by_cases h:t.size=0\/a<0\/e<0
  .rw[DA h]at h0;omega
  have h':¬((t.extract 0 m).size=0\/a<0\/e<0):=by rw[hsz];omega
  have e0:AA (t.extract 0 m) 0=AA t 0:=KA t m 0 Om;by_cases h1:(BV (AA t 0)||decide (AA t 0=118))=true
  .rw[IR h h1,IR h' (by rw[e0];exact h1)]
  have h1:=Bool.eq_false_iff.2 h1;by_cases h97:AA t 0=97
  .by_cases h2:1<t.size/\AA t 1=123
   .rw[G6 h h97 h2]at h0 hm ⊢
    by_cases h3:t.size<4\/BV (AA t 2)=false
    .rw[if_pos h3]at h0;omega
    rw[if_neg h3]at h0 hm ⊢;by_cases h4:BI (t.extract 3 t.size) (a-1) (e-1)=0\/t.size<BI (t.extract 3 t.size) (a-1) (e-1)+4\/AA t (BI (t.extract 3 t.size) (a-1) (e-1)+3)≠125
    .rw[if_pos h4]at h0;omega
    rw[if_neg h4]at h0 hm ⊢;have hb2:¬BV (AA t 2)=false:=λh=>h3 (.inr h);rw[G6 h' (e0.trans h97) ⟨Om,(KA t m 1 Om).trans h2.2⟩,if_neg (by rw[hsz,KA t m 2 Om];rintro (h|h)<;>first|omega|exact hb2 h)];have hs3:(t.extract 3 t.size).size=t.size-3:=AU _ _ Om;have hk:=ih (t.extract 3 t.size) Om (a-1) (e-1) (m-3) Om Om Om;rw[<-Y7 t 3 m hms]at hk;rw[hk,if_neg (by rw[hsz,KA t m _ Om];omega)]
   rw[KO h h97 h2]at h0 hm ⊢;have hs1:(t.extract 1 t.size).size=t.size-1:=AU _ _ Om;by_cases h3:0<BI (t.extract 1 t.size) (a-1) e
   .rw[if_pos h3]at h0 hm ⊢
    rw[KO h' (e0.trans h97) (by rw[KA t m 1 Om];omega)];have hk:=ih (t.extract 1 t.size) Om (a-1) e (m-1) h3 Om Om;rw[<-Y7 t 1 m hms]at hk;rw[hk,if_pos h3]
   rw[if_neg h3]at h0;omega
  rw[LU h h1 h97]at h0;omega
theorem RF{s:ByteArray}(h:IP s)(h0:AA s 0=97)(h1:¬(1<s.size/\AA s 1=123)):2<=s.size/\IP (s.extract 1 s.size):=by
 obtain⟨hp,a,e,hc⟩:=h;have hz:¬(s.size=0\/a<0\/e<0):=λhz=>by rw[DA hz]at hc;omega
 rw[KO hz h0 h1]at hc;have hs1:(s.extract 1 s.size).size=s.size-1:=AU _ _ Om;split at hc
 .exact⟨Om,Om,a-1,e,Om⟩
 omega
theorem P4{s:ByteArray}(h:IP s)(h0:AA s 0=97)(h1:1<s.size/\AA s 1=123):5<=s.size/\IP (s.extract 3 (s.size-1)):=by
 obtain⟨hp,a,e,hc⟩:=h;have hz:¬(s.size=0\/a<0\/e<0):=λhz=>by rw[DA hz]at hc;omega
 rw[G6 hz h0 h1]at hc;split at hc
 .omega
 rename_i h3;split at hc
 .omega
 rename_i h4;have hs3:(s.extract 3 s.size).size=s.size-3:=AU _ _ Om;have hk:=XC _ (s.extract 3 s.size) Nl (a-1) (e-1) (s.size-4) Om Om Om;have he:(s.extract 3 s.size).extract 0 (s.size-4)=s.extract 3 (s.size-1):=by apply B8;have hl:s.data.toList.length=s.size:=rfl;simp only[B6,List.drop_zero];rw[List.take_of_length_le (l:=s.data.toList) Om,List.drop_take];congr 1
 rw[he]at hk;have hs4:(s.extract 3 (s.size-1)).size=s.size-4:=by simp[ByteArray.size_extract];omega
 exact⟨Om,Om,a-1,e-1,Om⟩
theorem YA{s:ByteArray}(h:GQ s=true):s.size<=255/\IP s:=by
 unfold GQ at h;have h:=of_decide_eq_true h;unfold K3 at h;split at h
 .cases h
 rename_i h1;refine⟨Om,?_⟩;by_cases h2:s.size=0
 .rw[P7 h2]at h;cases h
 by_cases h3:BI s 32 32=0
 .rw[JD h2 h3]at h;cases h
 have hle:=Q8 _ s Nl 32 32;rw[JC h2 h3 hle]at h;refine⟨Om,32,32,?_⟩;by_cases h4:BI s 32 32=s.size
 .exact h4
 exfalso;have hs:(s.extract (BI s 32 32) s.size).size≠0:=by rw[AU _ _ hle];omega
 generalize s.extract (BI s 32 32) s.size=t at *
 cases ht:FY t with
 |none=>rw[ht]at h;cases h
 |some n=>
  rw[ht]at h;simp only[Option.map_some,Option.some.injEq]at h;obtain rfl:n=0:=Om;by_cases h5:BI t 32 32=0
  .rw[JD hs h5]at ht;cases ht
  rw[JC hs h5 (Q8 _ t Nl _ _)]at ht
  cases hu:FY (t.extract (BI t 32 32) t.size) with
  |none=>rw[hu]at ht;cases ht
  |some n=>rw[hu]at ht;simp at ht
theorem AGa{s:ByteArray}(h:s.size=1)(hb:BV (AA s 0)=true):IP s:=⟨Om,0,0,by rw[IR Om (by rw[hb];rfl)];omega⟩
theorem UD(s:ByteArray):∀(m k:Nat),k+m=10->∀t,PO s m k=(t,true)->t.size=1/\BV (AA t 0)=true
 |0,k,_,t,h=>by simp only[PO,Prod.mk.injEq]at h;rw[<-h.1];exact⟨rfl,De⟩
 |m+1,k,hk,t,h=>by
  simp only[PO]at h;split at h
  .simp only[Prod.mk.injEq]at h
   rw[<-h.1];have:k<10:=Om;have:∀k,k<10->(OA.extract k (k+1)).size=1/\BV (AA (OA.extract k (k+1)) 0)=true:=De;exact this k Om
  exact UD s m (k+1) Om t h
theorem NY{x t:ByteArray}(h:CA x=(t,true)):t.size<=255/\IP t:=by
 unfold CA at h;split at h
 .simp only[Prod.mk.injEq]at h
  rw[<-h.1];exact YA h.2
 obtain⟨h1,h2⟩:=UD x 10 0 rfl t h;exact⟨Om,AGa h1 h2⟩
mutual
def Ph.dd:Ph->Nat | .mk k _ l _=>(if k=2\/k=3\/k=4\/k=14\/k=9\/k=5 then 0 else 1)+H8 l
def H8:List Ph->Nat | []=>0|p::l=>max p.dd (H8 l)
end
theorem DF:∀(l:List Ph) (i:Nat) (h:i<l.length),l[i].dd<=H8 l
 |[],i,h=>absurd h Sm
 |p::l,0,_=>by simp only[H8,List.getElem_cons_zero];omega
 |p::l,i+1,h=>by simp only[H8,List.getElem_cons_succ];have:=DF l i (by simpa using h);omega
mutual
def Ph.good:Ph->Prop | .mk _ x l ty=>x.size<=100000/\(∀t,ty=some t->t.size<=255/\IP t)/\FB l
def FB:List Ph->Prop | []=>True|p::l=>p.good/\FB l
end
theorem BD:∀(l:List Ph) (i:Nat) (h:i<l.length),FB l->l[i].good
 |[],i,h,_=>absurd h Sm
 |p::l,0,_,hl=>by simp only[FB]at hl;exact hl.1
 |p::l,i+1,h,hl=>by simp only[FB]at hl;exact BD l i (by simpa using h) hl.2
mutual
theorem M4:∀(p:Ph),p.good->p.ok
 |.mk k x l ty,h=>by simp only[Ph.good]at h;simp only[Ph.ok];exact⟨h.1,λt ht=>by have:=(h.2.1 t ht).1;omega,AAm l h.2.2⟩
theorem AAm:∀(l:List Ph),FB l->okL l
 |[],_=>by simp only[okL]
 |p::l,h=>by simp only[FB]at h;simp only[okL];exact⟨M4 p h.1,AAm l h.2⟩
end
mutual
def Ph.lv(Q:Nat->ByteArray->Prop):Ph->Prop | .mk k x l _=>((k=2\/k=3\/k=4\/k=14)/\Q k x/\l=[]\/k=9/\l.length=1\/k=5\/k=7/\l.length%2=0)/\lvL Q l
def lvL(Q:Nat->ByteArray->Prop):List Ph->Prop | []=>True|p::l=>p.lv Q/\lvL Q l
end
theorem T4{Q:Nat->ByteArray->Prop}:∀(l:List Ph) (i:Nat) (h:i<l.length),lvL Q l->l[i].lv Q
 |[],i,h,_=>absurd h Sm
 |p::l,0,_,hl=>by simp only[lvL]at hl;exact hl.1
 |p::l,i+1,h,hl=>by simp only[lvL]at hl;exact T4 l i (by simpa using h) hl.2
theorem AF3{b:Bool}{ts:List AW}{p:Ph}{r:List AW}(h:D7 b ts p r):(∀t,t∈ts->t.2.size<=100000)->p.good/\p.sz+r.length<=ts.length/\(∀t,t∈r->t∈ts):=by
 induction h using D7.rec (motive_2:=λk ts l r _=>(∀t,t∈ts->t.2.size<=100000)->FB l/\K8 l+r.length+1<=ts.length/\(∀t,t∈r->t∈ts)) with
 |leaf hk=>
  intro hg;refine⟨?_,?_,λt ht=>List.mem_cons_of_mem _ ht⟩
  .simp only[Ph.good,FB];exact⟨hg _ (List.mem_cons_self ..),Sm,trivial⟩
  simp only[Ph.sz,K8,List.length_cons];omega
 |typ hn h ih=>intro hg;obtain⟨h1,h2,h3⟩:=ih λt ht=>hg t (List.mem_cons_of_mem _ ht);simp only[Ph.good,Ph.sz]at h1 h2 ⊢;refine⟨⟨h1.1,?_,h1.2.2⟩,by simp only[List.length_cons];omega,λt ht=>List.mem_cons_of_mem _ (h3 t ht)⟩;intro t ht;cases ht;exact NY hn
 |vrt h ih=>
  intro hg;obtain⟨h1,h2,h3⟩:=ih λt ht=>hg t (List.mem_cons_of_mem _ ht);simp only[List.length_cons]at h2;refine⟨?_,?_,λt ht=>List.mem_cons_of_mem _ (h3 t (List.mem_cons_of_mem _ ht))⟩
  .simp only[Ph.good,FB];exact⟨De,Sm,h1,trivial⟩
  simp only[Ph.sz,K8,List.length_cons];omega
 |nil hk=>
  intro hg;refine⟨?_,?_,λt ht=>List.mem_cons_of_mem _ (List.mem_cons_of_mem _ ht)⟩
  .simp only[Ph.good,FB];exact⟨De,Sm,trivial⟩
  simp only[Ph.sz,K8,List.length_cons];omega
 |lst hk h ih=>
  intro hg;obtain⟨h1,h2,h3⟩:=ih λt ht=>hg t (List.mem_cons_of_mem _ ht);refine⟨?_,?_,λt ht=>List.mem_cons_of_mem _ (h3 t ht)⟩
  .simp only[Ph.good];exact⟨De,Sm,h1⟩
  simp only[Ph.sz,List.length_cons];omega
 |one5 h ih=>rename_i hg;obtain⟨h1,h2,h3⟩:=ih hg;simp only[List.length_cons]at h2;exact⟨by simp only[FB];exact⟨h1,trivial⟩,by simp only[K8];omega,λt ht=>h3 t (List.mem_cons_of_mem _ ht)⟩
 |cons5 h h2 ih ih2=>rename_i hg;obtain⟨h1,hz,h3⟩:=ih hg;obtain⟨k1,k2,k3⟩:=ih2 λt ht=>hg t (h3 t (List.mem_cons_of_mem _ ht));simp only[List.length_cons]at hz;exact⟨by simp only[FB];exact⟨h1,k1⟩,by simp only[K8];omega,λt ht=>h3 t (List.mem_cons_of_mem _ (k3 t ht))⟩
 |one7 h h2 ih ih2=>rename_i hg;obtain⟨h1,hz,h3⟩:=ih hg;obtain⟨k1,k2,k3⟩:=ih2 λt ht=>hg t (h3 t (List.mem_cons_of_mem _ ht));simp only[List.length_cons]at hz k2;exact⟨by simp only[FB];exact⟨h1,k1,trivial⟩,by simp only[K8];omega,λt ht=>h3 t (List.mem_cons_of_mem _ (k3 t (List.mem_cons_of_mem _ ht)))⟩
 |cons7 h h2 h4 ih ih2 ih3=>rename_i hg;obtain⟨h1,hz,h3⟩:=ih hg;obtain⟨k1,k2,k3⟩:=ih2 λt ht=>hg t (h3 t (List.mem_cons_of_mem _ ht));obtain⟨j1,j2,j3⟩:=ih3 λt ht=>hg t (h3 t (List.mem_cons_of_mem _ (k3 t (List.mem_cons_of_mem _ ht))));simp only[List.length_cons]at hz k2;exact⟨by simp only[FB];exact⟨h1,k1,j1⟩,by simp only[K8];omega,λt ht=>h3 t (List.mem_cons_of_mem _ (k3 t (List.mem_cons_of_mem _ (j3 t ht))))⟩
theorem AL0{Q:Nat->ByteArray->Prop}{b:Bool}{ts:List AW}{p:Ph}{r:List AW}(h:D7 b ts p r):(∀t,t∈ts->(t.1=2\/t.1=3\/t.1=4\/t.1=14)->Q t.1 t.2)->p.lv Q/\(∀t,t∈r->t∈ts):=by
 induction h using D7.rec (motive_2:=λk ts l r _=>(∀t,t∈ts->(t.1=2\/t.1=3\/t.1=4\/t.1=14)->Q t.1 t.2)->lvL Q l/\(k=7->l.length%2=0)/\(∀t,t∈r->t∈ts)) with
 |leaf hk=>intro hg;refine⟨?_,λt ht=>List.mem_cons_of_mem _ ht⟩;simp only[Ph.lv,lvL];exact⟨.inl ⟨hk,hg _ (List.mem_cons_self ..) hk,trivial⟩,trivial⟩
 |typ hn h ih=>intro hg;obtain⟨h1,h3⟩:=ih λt ht=>hg t (List.mem_cons_of_mem _ ht);simp only[Ph.lv]at h1 ⊢;exact⟨h1,λt ht=>List.mem_cons_of_mem _ (h3 t ht)⟩
 |vrt h ih=>intro hg;obtain⟨h1,h3⟩:=ih λt ht=>hg t (List.mem_cons_of_mem _ ht);refine⟨?_,λt ht=>List.mem_cons_of_mem _ (h3 t (List.mem_cons_of_mem _ ht))⟩;simp only[Ph.lv,lvL];exact⟨.inr (.inl Sm),h1,trivial⟩
 |nil hk=>intro hg;refine⟨?_,λt ht=>List.mem_cons_of_mem _ (List.mem_cons_of_mem _ ht)⟩;simp only[Ph.lv,lvL];exact⟨by rcases hk with rfl|rfl<;>simp,trivial⟩
 |lst hk h ih=>intro hg;obtain⟨h1,h2,h3⟩:=ih λt ht=>hg t (List.mem_cons_of_mem _ ht);refine⟨?_,λt ht=>List.mem_cons_of_mem _ (h3 t ht)⟩;simp only[Ph.lv];exact⟨by rcases hk with rfl|rfl<;>simp at h2 ⊢;exact h2,h1⟩
 |one5 h ih=>rename_i hg;obtain⟨h1,h3⟩:=ih hg;exact⟨by simp only[lvL];exact⟨h1,trivial⟩,Om,λt ht=>h3 t (List.mem_cons_of_mem _ ht)⟩
 |cons5 h h2 ih ih2=>rename_i hg;obtain⟨h1,h3⟩:=ih hg;obtain⟨k1,k2,k3⟩:=ih2 λt ht=>hg t (h3 t (List.mem_cons_of_mem _ ht));exact⟨by simp only[lvL];exact⟨h1,k1⟩,Om,λt ht=>h3 t (List.mem_cons_of_mem _ (k3 t ht))⟩
 |one7 h h2 ih ih2=>rename_i hg;obtain⟨h1,h3⟩:=ih hg;obtain⟨k1,k3⟩:=ih2 λt ht=>hg t (h3 t (List.mem_cons_of_mem _ ht));exact⟨by simp only[lvL];exact⟨h1,k1,trivial⟩,by simp,λt ht=>h3 t (List.mem_cons_of_mem _ (k3 t (List.mem_cons_of_mem _ ht)))⟩
 |cons7 h h2 h4 ih ih2 ih3=>rename_i hg;obtain⟨h1,h3⟩:=ih hg;obtain⟨k1,k3⟩:=ih2 λt ht=>hg t (h3 t (List.mem_cons_of_mem _ ht));obtain⟨j1,j2,j3⟩:=ih3 λt ht=>hg t (h3 t (List.mem_cons_of_mem _ (k3 t (List.mem_cons_of_mem _ ht))));exact⟨by simp only[lvL];exact⟨h1,k1,j1⟩,by simp only[List.length_cons];omega,λt ht=>h3 t (List.mem_cons_of_mem _ (k3 t (List.mem_cons_of_mem _ (j3 t ht))))⟩
theorem VU:∀(ts:List AW) (b d m e:Nat),m<=(C5 ts b d m e).1/\e<=(C5 ts b d m e).2
 |[],b,d,m,e=>by simp only[C5];omega
 |t::ts,b,d,m,e=>by simp only[C5];have:=VU ts (BJ t.1 b d).1 (BJ t.1 b d).2 (max m (BJ t.1 b d).1) (max e (BJ t.1 b d).2);omega
mutual
def Ph.dp:Ph->Nat | .mk k _ l _=>(if k=2\/k=3\/k=4\/k=14 then 0 else 1)+P8 l
def P8:List Ph->Nat | []=>0|p::l=>max p.dp (P8 l)
end
theorem AFp{b:Bool}{ts:List AW}{p:Ph}{r:List AW}(h:D7 b ts p r):∀(o d m e:Nat),∃m' e',C5 ts o d m e=C5 r o d m' e'/\o+p.dd<=m'/\m<=m'/\d+p.dp<=e'/\e<=e':=by
 induction h using D7.rec (motive_2:=λk ts l r _=>∀(o d m e:Nat),(k=5->∃m' e',C5 ts o (d+1) m e=C5 r o d m' e'/\o+H8 l<=m'/\m<=m'/\d+1+P8 l<=e'/\e<=e')/\(k=7->∃m' e',C5 ts (o+1) (d+1) m e=C5 r o d m' e'/\o+1+H8 l<=m'/\m<=m'/\d+1+P8 l<=e'/\e<=e')) with
 |leaf hk=>
  intro o d m e;refine⟨max m o,max e d,?_,?_,Om,?_,Om⟩
  .rcases hk with rfl|rfl|rfl|rfl<;>simp[C5,BJ]
  .rcases hk with rfl|rfl|rfl|rfl<;>simp[Ph.dd,H8]<;>omega
  rcases hk with rfl|rfl|rfl|rfl<;>simp[Ph.dp,P8]<;>omega
 |typ hn h ih=>intro o d m e;obtain⟨m',e',h1,h2,h3,h4,h5⟩:=ih o d (max m o) (max e d);exact⟨m',e',by rw[<-h1];simp[C5,BJ],by simpa only [Ph.dd] using h2,Om,by simpa only [Ph.dp] using h4,Om⟩
 |vrt h ih=>
  intro o d m e;obtain⟨m',e',h1,h2,h3,h4,h5⟩:=ih o (d+1) (max m o) (max e (d+1));refine⟨max m' o,max e' d,?_,by simp[Ph.dd,H8];omega,Om,by simp[Ph.dp,P8];omega,Om⟩;have:∀(y:ByteArray) (r:List AW),C5 ((10,y)::r) o (d+1) m' e'=C5 r o d (max m' o) (max e' d):=λy r=>by simp[C5,BJ]
  rw[<-this,<-h1];simp[C5,BJ]
 |nil hk=>
  intro o d m e;rcases hk with rfl|rfl
  .refine⟨max (max m o) o,max (max e (d+1)) d,by simp[C5,BJ],?_,?_,?_,?_⟩<;>simp[Ph.dd,H8,Ph.dp,P8]<;>omega
  refine⟨max (max m (o+1)) o,max (max e (d+1)) d,by simp[C5,BJ],?_,?_,?_,?_⟩<;>simp[Ph.dd,H8,Ph.dp,P8]<;>omega
 |lst hk h ih=>
  intro o d m e;rcases hk with rfl|rfl
  .obtain⟨m',e',h1,h2,h3,h4,h5⟩:=(ih o d (max m o) (max e (d+1))).1 rfl
   exact⟨m',e',by rw[<-h1];simp[C5,BJ],by simp[Ph.dd];omega,Om,by simp[Ph.dp];omega,Om⟩
  obtain⟨m',e',h1,h2,h3,h4,h5⟩:=(ih o d (max m (o+1)) (max e (d+1))).2 rfl;exact⟨m',e',by rw[<-h1];simp[C5,BJ],by simp[Ph.dd];omega,Om,by simp[Ph.dp];omega,Om⟩
 |one5 h ih=>rename_i o d m e;refine⟨λ_=>?_,Om⟩;obtain⟨m',e',h1,h2,h3,h4,h5⟩:=ih o (d+1) m e;refine⟨max m' o,max e' d,?_,by simp[H8];omega,Om,by simp[P8];omega,Om⟩;rw[h1];simp[C5,BJ]
 |cons5 h h2 ih ih2=>rename_i o d m e;refine⟨λ_=>?_,Om⟩;obtain⟨m',e',h1,h3,h4,h5,h6⟩:=ih o (d+1) m e;obtain⟨m2,e2,k1,k2,k3,k4,k5⟩:=(ih2 o d (max m' o) (max e' (d+1))).1 rfl;refine⟨m2,e2,?_,by simp[H8];omega,Om,by simp[P8];omega,Om⟩;rw[h1,<-k1];simp[C5,BJ]
 |one7 h h2 ih ih2=>
  rename_i o d m e;refine⟨Om,λ_=>?_⟩;obtain⟨m',e',h1,h3,h4,h5,h6⟩:=ih (o+1) (d+1) m e;obtain⟨m2,e2,k1,k2,k3,k4,k5⟩:=ih2 (o+1) (d+1) (max m' (o+1)) (max e' (d+1));refine⟨max m2 o,max e2 d,?_,by simp[H8];omega,Om,by simp[P8];omega,Om⟩;have:∀(y:ByteArray) (r:List AW),C5 ((8,y)::r) (o+1) (d+1) m2 e2=C5 r o d (max m2 o) (max e2 d):=λy r=>by simp[C5,BJ]
  rw[<-this,<-k1,h1];simp[C5,BJ]
 |cons7 h h2 h5 ih ih2 ih3=>
  rename_i o d m e;refine⟨Om,λ_=>?_⟩;obtain⟨m',e',h1,h3,h4,h6,h7⟩:=ih (o+1) (d+1) m e;obtain⟨m2,e2,k1,k2,k3,k4,k5⟩:=ih2 (o+1) (d+1) (max m' (o+1)) (max e' (d+1));obtain⟨m3,e3,j1,j2,j3,j4,j5⟩:=(ih3 o d (max m2 (o+1)) (max e2 (d+1))).2 rfl;refine⟨m3,e3,?_,by simp[H8];omega,Om,by simp[P8];omega,Om⟩;rw[<-j1];have h11:∀(y:ByteArray) (r:List AW),C5 ((11,y)::r) (o+1) (d+1) m2 e2=C5 r (o+1) (d+1) (max m2 (o+1)) (max e2 (d+1)):=λy r=>by simp[C5,BJ]
  rw[<-h11,<-k1,h1];simp[C5,BJ]
theorem ALt{b:Bool}{ts:List AW}{p:Ph}{r:List AW}(h:D7 b ts p r):p.dd<=(C5 ts 0 0 0 0).1/\p.dp<=(C5 ts 0 0 0 0).2:=by obtain⟨m',e',h1,h2,_,h4,_⟩:=AFp h 0 0 0 0;have:=VU r 0 0 m' e';rw[h1];omega
def Bd:Nat->Nat|0=>8|d+1=>Bd d*Bd d
theorem JZ{a b:Nat}(h:a<=b)(hb:b<=2):Bd a<=Bd b:=by have h1:b=0\/b=1\/b=2:=Om;have h2:a=0\/a=1\/a=2:=Om;rcases h1 with rfl|rfl|rfl<;>rcases h2 with rfl|rfl|rfl<;>first|omega|decide
theorem L5{a:Nat}(h:a<=2):8<=Bd a/\Bd a<=4096:=by have:a=0\/a=1\/a=2:=Om;rcases this with rfl|rfl|rfl<;>decide
def Lm(s d:Nat):Nat:=(255+3*s)*2^d
theorem T6{a b c d:Nat}(h:a<=b)(h2:c<=d):Lm a c<=Lm b d:=by unfold Lm;exact Nat.mul_le_mul Om (Nat.pow_le_pow_right Om h2)
theorem AHo{a b c d:Nat}(h:a<b)(h2:c<=d):1+Lm a c<=Lm b d:=by
 have h1:Lm (a+1) c<=Lm b d:=T6 Om h2;have h3:Lm (a+1) c=Lm a c+3*2^c:=by unfold Lm;rw[<-Nat.add_mul];congr 1
 have:1<=2^c:=Nat.one_le_two_pow;omega
theorem AEc{a a' b c c' d:Nat}(h:a<b)(h':a'<b)(h2:c+1<=d)(h2':c'+1<=d):3+Lm a c+Lm a' c'<=Lm b d:=by
 obtain⟨d,rfl⟩:∃e,d=e+1:=⟨d-1,Om⟩;have h1:=T6 (show a<=b-1 by omega) (show c<=d by omega);have h1':=T6 (show a'<=b-1 by omega) (show c'<=d by omega);obtain⟨b,rfl⟩:∃e,b=e+1:=⟨b-1,Om⟩;have h3:Lm (b+1) (d+1)=2*(Lm b d+3*2^d):=by unfold Lm;rw[Nat.pow_succ,<-Nat.add_mul];rw[show 255+3*(b+1)=255+3*b+3 by omega,Nat.mul_comm 2,<-Nat.mul_assoc]
 have:1<=2^d:=Nat.one_le_two_pow;simp only[Nat.add_sub_cancel]at h1 h1';omega
theorem ADn(s d:Nat):255<=Lm s d:=by
 unfold Lm;have:1<=2^d:=Nat.one_le_two_pow
 calc 255=255*1:=rfl
  _<=_:=Nat.mul_le_mul Om this
theorem SY{s d:Nat}(h:s<=5000)(hd:d<=2):Lm s d<=70000:=by
 calc Lm s d<=Lm 5000 2:=T6 h hd
  _<=70000:=De
