/- Lemmas for FnVtSigsEntry; no conditions. -/
import Derived.Test.YtbnbadcnfchdhaaGreatDoorP15
set_option maxRecDepth 100000
set_option maxHeartbeats 16000000
set_option linter.all false
namespace Go.Proofs.YtbnbadcnfchdhaaGreatDoor
open Go.RowKit
def F0(s:ByteArray):Nat->Nat->Bool
 |0,_=>true
 |m+1,j=>decide (j+1<s.size)&&(DD (AA s j)&&F0 s m (j+1))
def GN(s:ByteArray)(k:Nat):Bool:=
 if h:k+1<s.size then
  if AA s k≠92 then GN s (k+1)
  else if AA s (k+1)=117 then(if F0 s 4 (k+2)=true then GN s (k+6) else false)
  else if AA s (k+1)=85 then(if F0 s 8 (k+2)=true then GN s (k+10) else false)
  else GN s (k+2)
 else true
 termination_by s.size-k
def Y0(s:ByteArray):Bool:=GN s 1
theorem AH6{s:ByteArray}{k:Nat}(h:¬k+1<s.size):GN s k=true:=by unfold GN;rw[dif_neg h]
theorem P3{s:ByteArray}{k:Nat}(h:k+1<s.size)(e:AA s k≠92):GN s k=GN s (k+1):=by
 conv=>lhs;unfold GN
 rw[dif_pos h,if_pos e]
theorem AB7{s:ByteArray}{k m:Nat}(h:k+1<s.size)(e:AA s k=92)(hm:AA s (k+1)=117/\m=4\/AA s (k+1)=85/\m=8):GN s k=if F0 s m (k+2)=true then GN s (k+2+m) else false:=by
 conv=>lhs;unfold GN
 rw[dif_pos h,if_neg (by simp[e])];rcases hm with⟨h1,rfl⟩|⟨h1,rfl⟩
 .rw[if_pos h1]
 rw[if_neg (by rw[h1];decide),if_pos h1]
theorem PV{s:ByteArray}{k:Nat}(h:k+1<s.size)(e:AA s k=92)(h1:AA s (k+1)≠117)(h2:AA s (k+1)≠85):GN s k=GN s (k+2):=by
 conv=>lhs;unfold GN
 rw[dif_pos h,if_neg (by simp[e]),if_neg h1,if_neg h2]
def AQq(b:Bool)(w:World)(en:Ending)(w':World):Prop:=∃t:ByteArray,en=.returned (.tuple #[.string t,.bool b])/\Below w.heap.size w w'
theorem UE(s:ByteArray)(hs:s.size<=100000)(w:World):Calls Tryz.prog 42 #[.string s] w (AQq (Y0 s) w):=by
 obtain⟨i0,hi,hz0,hz1,hz2⟩:=info_parts Tryz.info5;have HS:=Hd (λ(k:Nat) (h:k<s.size)=>AJ h);have HI:=Hd (λ(k:Nat)=>CJ s k);have HX:=Hd (λ(c:Int) (h0:0<=c) (h1:c<=255) (w:World)=>KX c h0 h1 w);unfold Y0;generalize hR:GN s 1=R;have HR:=Hd hR;clear hR;go_enter Tryz.func42,Tryz.ntmps42;go_wp2_with fail;go_loopw [4,5] (λv4 v5 wr=>∃(A:Option Addr) (n c k:Nat),v4=.slice A n c/\v5=.int .i64 k/\CG wr w.heap.size A n c/\n<=4*k/\1<=k/\k<=s.size+10/\Below w.heap.size w wr/\Hid (GN s k=R)) (λ_ v _=>s.size+11-(intOf v).toNat)
 case atStart=>exact⟨none,0,0,1,rfl,rfl,CG.nil _ _,Om,Om,Om,Bl,HR⟩
 obtain⟨A,n,c,k,rfl,rfl,hB,hnk,hk1,hk,hbel,HK⟩:=hrel;have hbs:=hbel.size;by_cases hlt:(k:Int)<(s.size:Int)-1
 .have hks:k+1<s.size:=Om
  have hks0:k<s.size:=Om;have hki:(k:Int)<(s.size:Int):=Om;have ek:=HS.out k hks0;obtain⟨xs,hrow⟩:=hB;by_cases h92:AA s k=92
  .have t1:(AA s k !=92)=false:=by simp[h92]
   have hk1i:(k:Int)+1<(s.size:Int):=Om;have ek1:=HS.out (k+1) hks;by_cases hu:AA s (k+1)=117\/AA s (k+1)=85
   .obtain⟨m,hm⟩:∃m:Nat,AA s (k+1)=117/\m=4\/AA s (k+1)=85/\m=8:=by
     rcases hu with h|h
     .exact⟨4,.inl ⟨h,rfl⟩⟩
     exact⟨8,.inr ⟨h,rfl⟩⟩
    have HK2:=Hd (show (if F0 s m (k+2)=true then GN s (k+2+m) else false)=R by rw[<-HK.out,AB7 hks h92 hm]);have hm8:m<=8:=Om;have hm1:1<=m:=Om;have hB0:=Hd (show CG wr w.heap.size A n c from⟨xs,hrow⟩);clear h92 HK hrow hu;generalize AA s k=d at *;rcases hm with⟨hc,rfl⟩|⟨hc,rfl⟩
    .have u1:(AA s (k+1)==117)=true:=by simp[hc]
     have u2:(AA s (k+1)==85)=false:=by simp[hc]
     clear hc;generalize AA s (k+1)=d1 at *;go_upto_block 3 with fail;go_cut [5,7] from 9 to 70 (λv5 v7 wx=>wr=wx/\∃nn:Int,v5=.int .i64 ((k:Int)+1+4)/\v7=.int .i64 nn/\Hid (GN s (k+2+4)=R))
     case first=>
      go_wp2_with fail;go_loop [5,7,9] (λv5 v7 v9=>∃(j:Nat) (nn:Int),j<=4/\v9=.int .i64 j/\v5=.int .i64 ((k:Int)+1+j)/\v7=.int .i64 nn/\Hid ((if F0 s (4-j) (k+2+j)=true then GN s (k+2+4) else false)=R)) (λ_ _ v9=>4-(intOf v9).toNat)
      case atStart=>exact⟨0,0,Om,rfl,by simp,rfl,HK2⟩
      obtain⟨j,nn,hj,rfl,rfl,rfl,HJ⟩:=hrel;by_cases hlt2:(j:Int)<4
      .have hsf:F0 s (4-j) (k+2+j)=(decide (k+2+j+1<s.size)&&(DD (AA s (k+2+j))&&F0 s (4-(j+1)) (k+2+(j+1)))):=by
        rw[show 4-j=(4-(j+1))+1 by omega];rfl
       by_cases hin:k+2+j+1<s.size
       .have hini:(k:Int)+1+(j:Int)+1<(s.size:Int)-1:=Om
        have hins:k+1+j+1<s.size:=Om;have hinsi:(k:Int)+1+(j:Int)+1<(s.size:Int):=Om;have ej:=HS.out (k+1+j+1) hins;have hpos:k+1+j+1=k+2+j:=Om;obtain⟨b0,b1⟩:=HI.out (k+1+j+1);have hnn:(0:Int)<=(k:Int)+1+(j:Int)+1:=Om;have htn:((k:Int)+1+(j:Int)+1).toNat=k+1+j+1:=Om;rw[<-hpos]at hsf
        cases hx:DD (AA s (k+1+j+1)) with
        |true=>
         have HJ2:=Hd (show (if F0 s (4-(j+1)) (k+2+(j+1))=true then GN s (k+2+4) else false)=R by have h:=HJ.out;rw[<-hpos,hsf,hx,decide_eq_true Om]at h;simpa using h)
         have HXX:=Hd hx;clear HJ hsf hx;have HTN:=Hd htn;clear htn hpos;generalize hdd:AA s (k+1+j+1)=dd at *;clear hdd;go_wp2_with (go_at_call 66;refine(HX.out dd b0 b1 _).mono ?_;rw[HXX.out];rintro e w' ⟨rfl,rfl⟩);go_round
         case rel=>exact⟨j+1,_,Om,by go_num,by first|go_num|(congr 1;omega),rfl,HJ2⟩
         simp[intOf];omega
        |false=>
         obtain rfl:R=false:=by have h:=HJ.out;rw[<-hpos,hsf,hx]at h;simpa using h.symm
         have HXX:=Hd hx;clear HJ hsf hx hpos htn;generalize hdd:AA s (k+1+j+1)=dd at *;clear hdd;go_wp2_with (go_at_call 66;refine(HX.out dd b0 b1 _).mono ?_;rw[HXX.out];rintro e w' ⟨rfl,rfl⟩);go_ret2;exact⟨_,rfl,hbel⟩
       have hini:¬(k:Int)+1+(j:Int)+1<(s.size:Int)-1:=Om;obtain rfl:R=false:=by have h:=HJ.out;rw[hsf,decide_eq_false hin]at h;simpa using h.symm
       clear HJ hsf;go_wp2_with fail;go_ret2;exact⟨_,rfl,hbel⟩
      obtain rfl:j=4:=Om;have HU:=Hd (show GN s (k+2+4)=R by have h:=HJ.out;simpa[F0] using h)
      clear HJ;go_wp2_with fail;go_meet;exact⟨rfl,nn,by simp,rfl,HU⟩
     obtain⟨rfl,nn,rfl,rfl,HU⟩:=hcut;clear HK2;by_cases v1:1114111<nn
     .go_wp2_with (go_at_call 67;refine(C8 wr w.heap.size A n c hB0.out hbs Om _ Om).mono ?_;rintro e w' ⟨A',n',c',rfl,hn1,hn2,hB1,hbw⟩)
      go_roundw
      case rel=>exact⟨A',n',c',k+2+4,rfl,by first|rfl|go_num|(congr 1;omega),hB1,Om,Om,Om,hbel.trans hbw,HU⟩
      simp[intOf];omega
     by_cases v2:55296<=nn
     .by_cases v3:nn<57344
      .go_wp2_with (go_at_call 67;refine(C8 wr w.heap.size A n c hB0.out hbs Om _ Om).mono ?_;rintro e w' ⟨A',n',c',rfl,hn1,hn2,hB1,hbw⟩)
       go_roundw
       case rel=>exact⟨A',n',c',k+2+4,rfl,by first|rfl|go_num|(congr 1;omega),hB1,Om,Om,Om,hbel.trans hbw,HU⟩
       simp[intOf];omega
      go_wp2_with (go_at_call 67;refine(C8 wr w.heap.size A n c hB0.out hbs Om _ Om).mono ?_;rintro e w' ⟨A',n',c',rfl,hn1,hn2,hB1,hbw⟩);go_roundw
      case rel=>exact⟨A',n',c',k+2+4,rfl,by first|rfl|go_num|(congr 1;omega),hB1,Om,Om,Om,hbel.trans hbw,HU⟩
      simp[intOf];omega
     go_wp2_with (go_at_call 67;refine(C8 wr w.heap.size A n c hB0.out hbs Om _ Om).mono ?_;rintro e w' ⟨A',n',c',rfl,hn1,hn2,hB1,hbw⟩);go_roundw
     case rel=>exact⟨A',n',c',k+2+4,rfl,by first|rfl|go_num|(congr 1;omega),hB1,Om,Om,Om,hbel.trans hbw,HU⟩
     simp[intOf];omega
    have u1:(AA s (k+1)==117)=false:=by simp[hc]
    have u2:(AA s (k+1)==85)=true:=by simp[hc]
    clear hc;generalize AA s (k+1)=d1 at *;go_upto_block 3 with fail;go_cut [5,7] from 9 to 70 (λv5 v7 wx=>wr=wx/\∃nn:Int,v5=.int .i64 ((k:Int)+1+8)/\v7=.int .i64 nn/\Hid (GN s (k+2+8)=R))
    case first=>
     go_wp2_with fail;go_loop [5,7,9] (λv5 v7 v9=>∃(j:Nat) (nn:Int),j<=8/\v9=.int .i64 j/\v5=.int .i64 ((k:Int)+1+j)/\v7=.int .i64 nn/\Hid ((if F0 s (8-j) (k+2+j)=true then GN s (k+2+8) else false)=R)) (λ_ _ v9=>8-(intOf v9).toNat)
     case atStart=>exact⟨0,0,Om,rfl,by simp,rfl,HK2⟩
     obtain⟨j,nn,hj,rfl,rfl,rfl,HJ⟩:=hrel;by_cases hlt2:(j:Int)<8
     .have hsf:F0 s (8-j) (k+2+j)=(decide (k+2+j+1<s.size)&&(DD (AA s (k+2+j))&&F0 s (8-(j+1)) (k+2+(j+1)))):=by
       rw[show 8-j=(8-(j+1))+1 by omega];rfl
      by_cases hin:k+2+j+1<s.size
      .have hini:(k:Int)+1+(j:Int)+1<(s.size:Int)-1:=Om
       have hins:k+1+j+1<s.size:=Om;have hinsi:(k:Int)+1+(j:Int)+1<(s.size:Int):=Om;have ej:=HS.out (k+1+j+1) hins;have hpos:k+1+j+1=k+2+j:=Om;obtain⟨b0,b1⟩:=HI.out (k+1+j+1);have hnn:(0:Int)<=(k:Int)+1+(j:Int)+1:=Om;have htn:((k:Int)+1+(j:Int)+1).toNat=k+1+j+1:=Om;rw[<-hpos]at hsf
       cases hx:DD (AA s (k+1+j+1)) with
       |true=>
        have HJ2:=Hd (show (if F0 s (8-(j+1)) (k+2+(j+1))=true then GN s (k+2+8) else false)=R by have h:=HJ.out;rw[<-hpos,hsf,hx,decide_eq_true Om]at h;simpa using h)
        have HXX:=Hd hx;clear HJ hsf hx;have HTN:=Hd htn;clear htn hpos;generalize hdd:AA s (k+1+j+1)=dd at *;clear hdd;go_wp2_with (go_at_call 66;refine(HX.out dd b0 b1 _).mono ?_;rw[HXX.out];rintro e w' ⟨rfl,rfl⟩);go_round
        case rel=>exact⟨j+1,_,Om,by go_num,by first|go_num|(congr 1;omega),rfl,HJ2⟩
        simp[intOf];omega
       |false=>
        obtain rfl:R=false:=by have h:=HJ.out;rw[<-hpos,hsf,hx]at h;simpa using h.symm
        have HXX:=Hd hx;clear HJ hsf hx hpos htn;generalize hdd:AA s (k+1+j+1)=dd at *;clear hdd;go_wp2_with (go_at_call 66;refine(HX.out dd b0 b1 _).mono ?_;rw[HXX.out];rintro e w' ⟨rfl,rfl⟩);go_ret2;exact⟨_,rfl,hbel⟩
      have hini:¬(k:Int)+1+(j:Int)+1<(s.size:Int)-1:=Om;obtain rfl:R=false:=by have h:=HJ.out;rw[hsf,decide_eq_false hin]at h;simpa using h.symm
      clear HJ hsf;go_wp2_with fail;go_ret2;exact⟨_,rfl,hbel⟩
     obtain rfl:j=8:=Om;have HU:=Hd (show GN s (k+2+8)=R by have h:=HJ.out;simpa[F0] using h)
     clear HJ;go_wp2_with fail;go_meet;exact⟨rfl,nn,by simp,rfl,HU⟩
    obtain⟨rfl,nn,rfl,rfl,HU⟩:=hcut;clear HK2;by_cases v1:1114111<nn
    .go_wp2_with (go_at_call 67;refine(C8 wr w.heap.size A n c hB0.out hbs Om _ Om).mono ?_;rintro e w' ⟨A',n',c',rfl,hn1,hn2,hB1,hbw⟩)
     go_roundw
     case rel=>exact⟨A',n',c',k+2+8,rfl,by first|rfl|go_num|(congr 1;omega),hB1,Om,Om,Om,hbel.trans hbw,HU⟩
     simp[intOf];omega
    by_cases v2:55296<=nn
    .by_cases v3:nn<57344
     .go_wp2_with (go_at_call 67;refine(C8 wr w.heap.size A n c hB0.out hbs Om _ Om).mono ?_;rintro e w' ⟨A',n',c',rfl,hn1,hn2,hB1,hbw⟩)
      go_roundw
      case rel=>exact⟨A',n',c',k+2+8,rfl,by first|rfl|go_num|(congr 1;omega),hB1,Om,Om,Om,hbel.trans hbw,HU⟩
      simp[intOf];omega
     go_wp2_with (go_at_call 67;refine(C8 wr w.heap.size A n c hB0.out hbs Om _ Om).mono ?_;rintro e w' ⟨A',n',c',rfl,hn1,hn2,hB1,hbw⟩);go_roundw
     case rel=>exact⟨A',n',c',k+2+8,rfl,by first|rfl|go_num|(congr 1;omega),hB1,Om,Om,Om,hbel.trans hbw,HU⟩
     simp[intOf];omega
    go_wp2_with (go_at_call 67;refine(C8 wr w.heap.size A n c hB0.out hbs Om _ Om).mono ?_;rintro e w' ⟨A',n',c',rfl,hn1,hn2,hB1,hbw⟩);go_roundw
    case rel=>exact⟨A',n',c',k+2+8,rfl,by first|rfl|go_num|(congr 1;omega),hB1,Om,Om,Om,hbel.trans hbw,HU⟩
    simp[intOf];omega
   have HK2:=Hd (show GN s (k+2)=R by rw[<-HK.out,PV hks h92 (λh=>hu (.inl h)) (λh=>hu (.inr h))]);have u1:(AA s (k+1)==117)=false:=by rw[Bn];exactλh=>hu (.inl h)
   have u2:(AA s (k+1)==85)=false:=by rw[Bn];exactλh=>hu (.inr h)
   have EC:=Hd (λ(c:Int) (w:World)=>NP c w);clear h92 hu HK;generalize AA s (k+1)=d1 at *;generalize AA s k=d at *
   cases h10:(d1==10) with
   |true=>
    have hB2:=Hd (show CG wr w.heap.size A n c from⟨xs,hrow⟩);go_wp2_with fail;go_roundw
    case rel=>exact⟨A,n,c,k+2,rfl,by first|rfl|go_num|(congr 1;omega),hB2.out,Om,Om,Om,hbel,HK2⟩
    simp[intOf];omega
   |false=>
    go_wp2_with (first|(at_builtin;refine wpList_append_own _ rfl _ _ 109 rfl w.heap.size 5 i0 (.int .u8 0) 1 1 Tryz.underlying109 hi hz0 hz1 hz2 rfl De _ _ _ rfl (AD hrow (AK _ _)) ⟨wr.heap.size,0,none⟩ 1 1 [.int .u8 d2] rfl rfl ?c1b ?c2b ?c3b ?c4b ?c5b ?_)|(go_at_call 68;refine(EC.out _ _).mono ?_;rintro e w' ⟨d2,rfl,rfl⟩))
    try case c1b=>exact World.news_of_block (cs:=#[.int .u8 d2]) (t:=5) (fr:=(0,0)) (heap_alloc_new wr _)
    case c2b=>simp[Value.oneCell']
    case c3b=>unfold maxLen;omega
    case c4b=>omega
    case c5b=>first|omega|(simp;omega)
    intro v' w1 hown1 hgrow hnil;clear hnil;obtain⟨A1,c1,rfl,_⟩:=AF hown1;have HBA:=Hd (show CG w1 w.heap.size A1 (n+1) c1 from⟨xs++[d2],by simpa using hown1⟩);have hbel1:=(hbel.alloc hbs (.cells #[.int .u8 d2] 5)).grown hgrow (by simp;omega) (AG hrow);clear hown1 hgrow hrow;go_wp2_with fail;go_roundw
    case rel=>exact⟨A1,n+1,c1,k+2,rfl,by first|rfl|go_num|(congr 1;omega),HBA.out,Om,Om,Om,hbel1,HK2⟩
    simp[intOf];omega
  have t1:(AA s k !=92)=true:=by simp[h92]
  have HK2:=Hd (show GN s (k+1)=R by rw[<-HK.out,P3 hks h92]);clear h92 HK;generalize AA s k=d at *;go_wp2_with (first|(at_builtin;refine wpList_append_own _ rfl _ _ 109 rfl w.heap.size 5 i0 (.int .u8 0) 1 1 Tryz.underlying109 hi hz0 hz1 hz2 rfl De _ _ _ rfl (AD hrow (AK _ _)) ⟨wr.heap.size,0,none⟩ 1 1 [.int .u8 d] rfl rfl ?c1a ?c2a ?c3a ?c4a ?c5a ?_))
  try case c1a=>exact World.news_of_block (cs:=#[.int .u8 d]) (t:=5) (fr:=(0,0)) (heap_alloc_new wr _)
  case c2a=>simp[Value.oneCell']
  case c3a=>unfold maxLen;omega
  case c4a=>omega
  case c5a=>first|omega|(simp;omega)
  intro v' w1 hown1 hgrow hnil;clear hnil;obtain⟨A1,c1,rfl,_⟩:=AF hown1;have HBA:=Hd (show CG w1 w.heap.size A1 (n+1) c1 from⟨xs++[d],by simpa using hown1⟩);have hbel1:=(hbel.alloc hbs (.cells #[.int .u8 d] 5)).grown hgrow (by simp;omega) (AG hrow);clear hown1 hgrow hrow;go_wp2_with fail;go_roundw
  case rel=>exact⟨A1,n+1,c1,k+1,rfl,by go_num,HBA.out,Om,Om,Om,hbel1,HK2⟩
  simp[intOf];omega
 obtain⟨t,ht⟩:=hB.text;obtain rfl:R=true:=by rw[<-HK.out];exact AH6 Om
 clear HK HR;go_wp2_with fail;go_ret2;exact⟨t,rfl,hbel⟩
theorem AE1{c:Int}(h0:0<=c)(h1:c<=255):0<=F6 c/\F6 c<=15:=by
 unfold F6;split
 .omega
 rename_i h;split
 .rename_i hx
  rw[YC h0 h1 h]at hx;simp only[Bool.and_eq_true,decide_eq_true_eq]at hx;omega
 omega
def D3(s:ByteArray)(base:Int):Nat->Nat->Int->Option Int
 |0,_,acc=>some acc
 |m+1,j,acc=>if j+1<s.size/\DD (AA s j)=true/\F6 (AA s j)<base then D3 s base m (j+1) (acc*base+F6 (AA s j)) else none
def DZ(r:Option Int):Bool:=match r with|some v=>decide (v<=255)|none=>false
def FV(s:ByteArray)(k:Nat):Bool:=
 if h:k+1<s.size then
  if AA s k≠92 then FV s (k+1)
  else if AA s (k+1)=120 then(if DZ (D3 s 16 2 (k+2) 0)=true then FV s (k+4) else false)
  else if AA s (k+1)=48 then(if DZ (D3 s 8 3 (k+2) 0)=true then FV s (k+5) else false)
  else FV s (k+2)
 else true
 termination_by s.size-k
def ABl(s:ByteArray):Bool:=FV s 2
theorem AHz{s:ByteArray}{k:Nat}(h:¬k+1<s.size):FV s k=true:=by unfold FV;rw[dif_neg h]
theorem UN{s:ByteArray}{k:Nat}(h:k+1<s.size)(e:AA s k≠92):FV s k=FV s (k+1):=by
 conv=>lhs;unfold FV
 rw[dif_pos h,if_pos e]
theorem AK3{s:ByteArray}{k:Nat}(h:k+1<s.size)(e:AA s k=92)(h1:AA s (k+1)=120):FV s k=if DZ (D3 s 16 2 (k+2) 0)=true then FV s (k+2+2) else false:=by
 conv=>lhs;unfold FV
 rw[dif_pos h,if_neg (by simp[e]),if_pos h1]
theorem AH2{s:ByteArray}{k:Nat}(h:k+1<s.size)(e:AA s k=92)(h1:AA s (k+1)=48):FV s k=if DZ (D3 s 8 3 (k+2) 0)=true then FV s (k+2+3) else false:=by
 conv=>lhs;unfold FV
 rw[dif_pos h,if_neg (by simp[e]),if_neg (by rw[h1];decide),if_pos h1]
theorem VP{s:ByteArray}{k:Nat}(h:k+1<s.size)(e:AA s k=92)(h1:AA s (k+1)≠120)(h2:AA s (k+1)≠48):FV s k=FV s (k+2):=by
 conv=>lhs;unfold FV
 rw[dif_pos h,if_neg (by simp[e]),if_neg h1,if_neg h2]
theorem CG.textN{w:World}{base:Nat}{A:Option Addr}{n c:Nat}(h:CG w base A n c):∃s:ByteArray,(convert 109 9 (.slice A n c)).run Tryz.prog w=.ok (.string s) w/\s.size=n:=by
 obtain⟨xs,hrow⟩:=h;obtain⟨A',c',he,hA⟩:=AF hrow;simp only[Value.slice.injEq]at he;obtain⟨rfl,_,rfl⟩:=he;by_cases h0:0<n
 .obtain⟨g,rfl,_⟩:=hA h0
  have hl:xs.length=n:=by have:=hrow.1;simpa using this
  refine⟨_,run_convert_bytes_arg w 109 5 Tryz.underlying109 Tryz.underlying5 g 0 n _ xs hl (λi hi=>?_) 9 Tryz.underlying9,by show (Array.size _)=n;simp[hl]⟩;rw[Nat.zero_add,AV hrow g _ rfl i Om];rw[List.getElem?_map,List.getElem?_eq_getElem Om,List.getD_eq_getElem?_getD,List.getElem?_eq_getElem Om];rfl
 obtain rfl:n=0:=Om;rcases hrow.2 with⟨h1,_⟩|⟨g,cap,cur,h1,_⟩
 .simp only[Value.slice.injEq]at h1
  obtain⟨rfl,_,rfl⟩:=h1;exact⟨_,run_convert_bytes_nil w 109 5 Tryz.underlying109 Tryz.underlying5 0 0 9 Tryz.underlying9,rfl⟩
 simp only[Value.slice.injEq]at h1;obtain⟨rfl,_⟩:=h1;exact⟨_,run_convert_bytes_arg w 109 5 Tryz.underlying109 Tryz.underlying5 g 0 0 _ [] rfl (λi hi=>absurd hi Om) 9 Tryz.underlying9,rfl⟩
def AQv(b:Bool)(w:World)(en:Ending)(w':World):Prop:=∃t:ByteArray,en=.returned (.tuple #[.string t,.bool b])/\t.size<=1000000/\Below w.heap.size w w'
theorem WS(s:ByteArray)(hs:s.size<=100000)(hp:1<=s.size)(w:World):Calls Tryz.prog 43 #[.string s] w (AQv (ABl s) w):=by
 obtain⟨i0,hi,hz0,hz1,hz2⟩:=info_parts Tryz.info5;have HS:=Hd (λ(k:Nat) (h:k<s.size)=>AJ h);have HI:=Hd (λ(k:Nat)=>CJ s k);have HX:=Hd (λ(c:Int) (h0:0<=c) (h1:c<=255) (w:World)=>KX c h0 h1 w);unfold ABl;generalize hR:FV s 2=R;have HR:=Hd hR;clear hR;go_enter Tryz.func43,Tryz.ntmps43;go_wp2_with fail;go_loopw [4,6] (λv4 v5 wr=>∃(A:Option Addr) (n c k:Nat),v4=.slice A n c/\v5=.int .i64 k/\CG wr w.heap.size A n c/\n<=4*k/\1<=k/\k<=s.size+10/\Below w.heap.size w wr/\Hid (FV s k=R)) (λ_ v _=>s.size+11-(intOf v).toNat)
 case atStart=>exact⟨none,0,0,2,rfl,rfl,CG.nil _ _,Om,Om,Om,Bl,HR⟩
 obtain⟨A,n,c,k,rfl,rfl,hB,hnk,hk1,hk,hbel,HK⟩:=hrel;have hbs:=hbel.size;by_cases hlt:(k:Int)<(s.size:Int)-1
 .have hks:k+1<s.size:=Om
  have hks0:k<s.size:=Om;have hki:(k:Int)<(s.size:Int):=Om;have ek:=HS.out k hks0;obtain⟨xs,hrow⟩:=hB;by_cases h92:AA s k=92
  .have t1:(AA s k !=92)=false:=by simp[h92]
   have hk1i:(k:Int)+1<(s.size:Int):=Om;have ek1:=HS.out (k+1) hks;by_cases hu:AA s (k+1)=120\/AA s (k+1)=48
   .rcases hu with hc|hc
    .have HK2:=Hd (show (if DZ (D3 s 16 2 (k+2) 0)=true then FV s (k+2+2) else false)=R by rw[<-HK.out,AK3 hks h92 hc])
     have hB0:=Hd (show CG wr w.heap.size A n c from⟨xs,hrow⟩);have u1:(AA s (k+1)==120)=true:=by simp[hc]
     have u2:(AA s (k+1)==48)=false:=by simp[hc]
     clear h92 HK hrow hc;generalize AA s k=d at *;generalize AA s (k+1)=d1 at *;go_upto_block 3 with fail;go_cut [6,8,11,12,13] from 17 to 78 (λv6 v8 v11 v12 v13 wx=>wr=wx/\∃acc:Int,v6=.int .i64 ((k:Int)+1+2)/\v8=.int .i64 acc/\0<=acc/\acc<=255/\Hid ((if DZ (some acc)=true then FV s (k+2+2) else false)=R))
     case first=>
      go_wp2_with fail;go_loop [6,8,11] (λv6 v8 v11=>∃(j:Nat) (acc:Int),j<=2/\v11=.int .i64 j/\v6=.int .i64 ((k:Int)+1+j)/\v8=.int .i64 acc/\0<=acc/\acc<=255/\((j<=1->acc<=15)/\(j=0->acc=0))/\Hid ((if DZ (D3 s 16 (2-j) (k+2+j) acc)=true then FV s (k+2+2) else false)=R)) (λ_ _ v11=>2-(intOf v11).toNat)
      case atStart=>exact⟨0,0,Om,rfl,by simp,rfl,Om,Om,Om,HK2⟩
      obtain⟨j,acc,hj,rfl,rfl,rfl,ha0,ha1,hbnd,HJ⟩:=hrel;by_cases hlt2:(j:Int)<2
      .have hsf:D3 s 16 (2-j) (k+2+j) acc=if k+2+j+1<s.size/\DD (AA s (k+2+j))=true/\F6 (AA s (k+2+j))<16 then D3 s 16 (2-(j+1)) (k+2+j+1) (acc*16+F6 (AA s (k+2+j))) else none:=by
        rw[show 2-j=(2-(j+1))+1 by omega];rfl
       by_cases hin:k+2+j+1<s.size
       .have hini:(k:Int)+1+(j:Int)+1<(s.size:Int)-1:=Om
        have hins:k+1+j+1<s.size:=Om;have hinsi:(k:Int)+1+(j:Int)+1<(s.size:Int):=Om;have ej:=HS.out (k+1+j+1) hins;have hpos:k+1+j+1=k+2+j:=Om;obtain⟨b0,b1⟩:=HI.out (k+1+j+1);have hnn:(0:Int)<=(k:Int)+1+(j:Int)+1:=Om;have htn:((k:Int)+1+(j:Int)+1).toNat=k+1+j+1:=Om;rw[<-hpos]at hsf;obtain⟨hv0,hv1⟩:=AE1 b0 b1
        cases hx:DD (AA s (k+1+j+1)) with
        |true=>
         by_cases hvb:F6 (AA s (k+1+j+1))<16
         .have HJ2:=Hd (show (if DZ (D3 s 16 (2-(j+1)) (k+2+(j+1)) (acc*16+F6 (AA s (k+1+j+1))))=true then FV s (k+2+2) else false)=R by
           have h:=HJ.out;rw[<-hpos,hsf.trans (if_pos ⟨Om,hx,hvb⟩)]at h;rw[show k+2+(j+1)=k+1+j+1+1 by omega];exact h)
          have HXX:=Hd hx;clear HJ hsf hx hpos htn;have HVV:=Hd (show F6 (AA s (k+1+j+1))=F6 (AA s (k+1+j+1)) from rfl);generalize hdd:AA s (k+1+j+1)=dd at *;clear hdd HVV;have HZ:=Hd (HX.out dd b0 b1);rw[HXX.out]at HZ;generalize F6 dd=hv at *;have hvi:¬hv≥16:=Om;go_wp2_with (go_at_call 66;refine(HZ.out _).mono ?_;rintro e w' ⟨rfl,rfl⟩);go_round
          case rel=>exact⟨j+1,acc*16+hv,Om,by go_num,by first|go_num|(congr 1;omega),by first|rfl|go_num,Om,Om,Om,HJ2⟩
          simp[intOf];omega
         obtain rfl:R=false:=by have h:=HJ.out;rw[<-hpos,hsf.trans (if_neg (λh=>hvb h.2.2))]at h;simpa[DZ] using h.symm
         have HXX:=Hd hx;clear HJ hsf hx hpos htn;generalize hdd:AA s (k+1+j+1)=dd at *;clear hdd;have HZ:=Hd (HX.out dd b0 b1);rw[HXX.out]at HZ;generalize F6 dd=hv at *;have hvi:hv≥16:=Om;go_wp2_with (go_at_call 66;refine(HZ.out _).mono ?_;rintro e w' ⟨rfl,rfl⟩);go_ret2;exact⟨_,rfl,Nat.zero_le _,hbel⟩
        |false=>
         obtain rfl:R=false:=by have h:=HJ.out;rw[<-hpos,hsf.trans (if_neg (λh=>Bool.false_ne_true (hx.symm.trans h.2.1)))]at h;simpa[DZ] using h.symm
         have HXX:=Hd hx;clear HJ hsf hx hpos htn;generalize hdd:AA s (k+1+j+1)=dd at *;clear hdd;go_wp2_with (go_at_call 66;refine(HX.out dd b0 b1 _).mono ?_;rw[HXX.out];rintro e w' ⟨rfl,rfl⟩);go_ret2;exact⟨_,rfl,Nat.zero_le _,hbel⟩
       have hini:¬(k:Int)+1+(j:Int)+1<(s.size:Int)-1:=Om;obtain rfl:R=false:=by have h:=HJ.out;rw[hsf.trans (if_neg (λh=>hin h.1))]at h;simpa[DZ] using h.symm
       clear HJ hsf;go_wp2_with fail;go_ret2;exact⟨_,rfl,Nat.zero_le _,hbel⟩
      obtain rfl:j=2:=Om;have HU:=Hd (show (if DZ (some acc)=true then FV s (k+2+2) else false)=R by have h:=HJ.out;simpa[D3] using h)
      clear HJ;go_wp2_with fail;go_meet;exact⟨rfl,acc,by simp,rfl,ha0,ha1,HU⟩
     obtain⟨rfl,acc,rfl,rfl,ha0,ha1,HU⟩:=hcut;clear HK2;by_cases hov:255<acc
     .obtain rfl:R=false:=by
       have h:=HU.out;rw[if_neg (by simp[DZ];omega)]at h;exact h.symm
      clear HU;go_wp2_with fail;go_ret2;exact⟨_,rfl,Nat.zero_le _,hbel⟩
     have HU2:=Hd (show FV s (k+2+2)=R by have h:=HU.out;rwa [if_pos (by simp[DZ];omega)]at h)
     clear HU;have hrow':=hB0.out;obtain⟨xs,hrow⟩:=hrow';go_wp2_with (first|(at_builtin;refine wpList_append_own _ rfl _ _ 109 rfl w.heap.size 5 i0 (.int .u8 0) 1 1 Tryz.underlying109 hi hz0 hz1 hz2 rfl De _ _ _ rfl (AD hrow (AK _ _)) ⟨wr.heap.size,0,none⟩ 1 1 [.int .u8 acc] rfl rfl ?c1d ?c2d ?c3d ?c4d ?c5d ?_))
     try case c1d=>exact World.news_of_block (cs:=#[.int .u8 acc]) (t:=5) (fr:=(0,0)) (heap_alloc_new wr _)
     case c2d=>simp[Value.oneCell']
     case c3d=>unfold maxLen;omega
     case c4d=>omega
     case c5d=>first|omega|(simp;omega)
     intro v' w1 hown1 hgrow hnil;clear hnil;obtain⟨A1,c1,rfl,_⟩:=AF hown1;have HBA:=Hd (show CG w1 w.heap.size A1 (n+1) c1 from⟨xs++[acc],by simpa using hown1⟩);have hbel1:=(hbel.alloc hbs (.cells #[.int .u8 acc] 5)).grown hgrow (by simp;omega) (AG hrow);clear hown1 hgrow hrow;go_wp2_with fail;go_roundw
     case rel=>exact⟨A1,n+1,c1,k+2+2,rfl,by first|rfl|go_num|(congr 1;omega),HBA.out,Om,Om,Om,hbel1,HU2⟩
     simp[intOf];omega
    have HK2:=Hd (show (if DZ (D3 s 8 3 (k+2) 0)=true then FV s (k+2+3) else false)=R by rw[<-HK.out,AH2 hks h92 hc]);have hB0:=Hd (show CG wr w.heap.size A n c from⟨xs,hrow⟩);have u1:(AA s (k+1)==120)=false:=by simp[hc]
    have u2:(AA s (k+1)==48)=true:=by simp[hc]
    clear h92 HK hrow hc;generalize AA s k=d at *;generalize AA s (k+1)=d1 at *;go_upto_block 3 with fail;go_cut [6,8,11,12,13] from 17 to 78 (λv6 v8 v11 v12 v13 wx=>wr=wx/\∃acc:Int,v6=.int .i64 ((k:Int)+1+3)/\v8=.int .i64 acc/\0<=acc/\acc<=511/\Hid ((if DZ (some acc)=true then FV s (k+2+3) else false)=R))
    case first=>
     go_wp2_with fail;go_loop [6,8,11] (λv6 v8 v11=>∃(j:Nat) (acc:Int),j<=3/\v11=.int .i64 j/\v6=.int .i64 ((k:Int)+1+j)/\v8=.int .i64 acc/\0<=acc/\acc<=511/\((j<=2->acc<=63)/\(j<=1->acc<=7)/\(j=0->acc=0))/\Hid ((if DZ (D3 s 8 (3-j) (k+2+j) acc)=true then FV s (k+2+3) else false)=R)) (λ_ _ v11=>3-(intOf v11).toNat)
     case atStart=>exact⟨0,0,Om,rfl,by simp,rfl,Om,Om,Om,HK2⟩
     obtain⟨j,acc,hj,rfl,rfl,rfl,ha0,ha1,hbnd,HJ⟩:=hrel;by_cases hlt2:(j:Int)<3
     .have hsf:D3 s 8 (3-j) (k+2+j) acc=if k+2+j+1<s.size/\DD (AA s (k+2+j))=true/\F6 (AA s (k+2+j))<8 then D3 s 8 (3-(j+1)) (k+2+j+1) (acc*8+F6 (AA s (k+2+j))) else none:=by
       rw[show 3-j=(3-(j+1))+1 by omega];rfl
      by_cases hin:k+2+j+1<s.size
      .have hini:(k:Int)+1+(j:Int)+1<(s.size:Int)-1:=Om
       have hins:k+1+j+1<s.size:=Om;have hinsi:(k:Int)+1+(j:Int)+1<(s.size:Int):=Om;have ej:=HS.out (k+1+j+1) hins;have hpos:k+1+j+1=k+2+j:=Om;obtain⟨b0,b1⟩:=HI.out (k+1+j+1);have hnn:(0:Int)<=(k:Int)+1+(j:Int)+1:=Om;have htn:((k:Int)+1+(j:Int)+1).toNat=k+1+j+1:=Om;rw[<-hpos]at hsf;obtain⟨hv0,hv1⟩:=AE1 b0 b1
       cases hx:DD (AA s (k+1+j+1)) with
       |true=>
        by_cases hvb:F6 (AA s (k+1+j+1))<8
        .have HJ2:=Hd (show (if DZ (D3 s 8 (3-(j+1)) (k+2+(j+1)) (acc*8+F6 (AA s (k+1+j+1))))=true then FV s (k+2+3) else false)=R by
          have h:=HJ.out;rw[<-hpos,hsf.trans (if_pos ⟨Om,hx,hvb⟩)]at h;rw[show k+2+(j+1)=k+1+j+1+1 by omega];exact h)
         have HXX:=Hd hx;clear HJ hsf hx hpos htn;have HVV:=Hd (show F6 (AA s (k+1+j+1))=F6 (AA s (k+1+j+1)) from rfl);generalize hdd:AA s (k+1+j+1)=dd at *;clear hdd HVV;have HZ:=Hd (HX.out dd b0 b1);rw[HXX.out]at HZ;generalize F6 dd=hv at *;have hvi:¬hv≥8:=Om;go_wp2_with (go_at_call 66;refine(HZ.out _).mono ?_;rintro e w' ⟨rfl,rfl⟩);go_round
         case rel=>exact⟨j+1,acc*8+hv,Om,by go_num,by first|go_num|(congr 1;omega),by first|rfl|go_num,Om,Om,Om,HJ2⟩
         simp[intOf];omega
        obtain rfl:R=false:=by have h:=HJ.out;rw[<-hpos,hsf.trans (if_neg (λh=>hvb h.2.2))]at h;simpa[DZ] using h.symm
        have HXX:=Hd hx;clear HJ hsf hx hpos htn;generalize hdd:AA s (k+1+j+1)=dd at *;clear hdd;have HZ:=Hd (HX.out dd b0 b1);rw[HXX.out]at HZ;generalize F6 dd=hv at *;have hvi:hv≥8:=Om;go_wp2_with (go_at_call 66;refine(HZ.out _).mono ?_;rintro e w' ⟨rfl,rfl⟩);go_ret2;exact⟨_,rfl,Nat.zero_le _,hbel⟩
       |false=>
        obtain rfl:R=false:=by have h:=HJ.out;rw[<-hpos,hsf.trans (if_neg (λh=>Bool.false_ne_true (hx.symm.trans h.2.1)))]at h;simpa[DZ] using h.symm
        have HXX:=Hd hx;clear HJ hsf hx hpos htn;generalize hdd:AA s (k+1+j+1)=dd at *;clear hdd;go_wp2_with (go_at_call 66;refine(HX.out dd b0 b1 _).mono ?_;rw[HXX.out];rintro e w' ⟨rfl,rfl⟩);go_ret2;exact⟨_,rfl,Nat.zero_le _,hbel⟩
      have hini:¬(k:Int)+1+(j:Int)+1<(s.size:Int)-1:=Om;obtain rfl:R=false:=by have h:=HJ.out;rw[hsf.trans (if_neg (λh=>hin h.1))]at h;simpa[DZ] using h.symm
      clear HJ hsf;go_wp2_with fail;go_ret2;exact⟨_,rfl,Nat.zero_le _,hbel⟩
     obtain rfl:j=3:=Om;have HU:=Hd (show (if DZ (some acc)=true then FV s (k+2+3) else false)=R by have h:=HJ.out;simpa[D3] using h)
     clear HJ;go_wp2_with fail;go_meet;exact⟨rfl,acc,by simp,rfl,ha0,ha1,HU⟩
    obtain⟨rfl,acc,rfl,rfl,ha0,ha1,HU⟩:=hcut;clear HK2;by_cases hov:255<acc
    .obtain rfl:R=false:=by
      have h:=HU.out;rw[if_neg (by simp[DZ];omega)]at h;exact h.symm
     clear HU;go_wp2_with fail;go_ret2;exact⟨_,rfl,Nat.zero_le _,hbel⟩
    have HU2:=Hd (show FV s (k+2+3)=R by have h:=HU.out;rwa [if_pos (by simp[DZ];omega)]at h)
    clear HU;have hrow':=hB0.out;obtain⟨xs,hrow⟩:=hrow';go_wp2_with (first|(at_builtin;refine wpList_append_own _ rfl _ _ 109 rfl w.heap.size 5 i0 (.int .u8 0) 1 1 Tryz.underlying109 hi hz0 hz1 hz2 rfl De _ _ _ rfl (AD hrow (AK _ _)) ⟨wr.heap.size,0,none⟩ 1 1 [.int .u8 acc] rfl rfl ?c1e ?c2e ?c3e ?c4e ?c5e ?_))
    try case c1e=>exact World.news_of_block (cs:=#[.int .u8 acc]) (t:=5) (fr:=(0,0)) (heap_alloc_new wr _)
    case c2e=>simp[Value.oneCell']
    case c3e=>unfold maxLen;omega
    case c4e=>omega
    case c5e=>first|omega|(simp;omega)
    intro v' w1 hown1 hgrow hnil;clear hnil;obtain⟨A1,c1,rfl,_⟩:=AF hown1;have HBA:=Hd (show CG w1 w.heap.size A1 (n+1) c1 from⟨xs++[acc],by simpa using hown1⟩);have hbel1:=(hbel.alloc hbs (.cells #[.int .u8 acc] 5)).grown hgrow (by simp;omega) (AG hrow);clear hown1 hgrow hrow;go_wp2_with fail;go_roundw
    case rel=>exact⟨A1,n+1,c1,k+2+3,rfl,by first|rfl|go_num|(congr 1;omega),HBA.out,Om,Om,Om,hbel1,HU2⟩
    simp[intOf];omega
   have HK2:=Hd (show FV s (k+2)=R by rw[<-HK.out,VP hks h92 (λh=>hu (.inl h)) (λh=>hu (.inr h))]);have u1:(AA s (k+1)==120)=false:=by rw[Bn];exactλh=>hu (.inl h)
   have u2:(AA s (k+1)==48)=false:=by rw[Bn];exactλh=>hu (.inr h)
   have EC:=Hd (λ(c:Int) (w:World)=>NP c w);clear h92 hu HK;generalize AA s (k+1)=d1 at *;generalize AA s k=d at *;go_wp2_with (first|(at_builtin;refine wpList_append_own _ rfl _ _ 109 rfl w.heap.size 5 i0 (.int .u8 0) 1 1 Tryz.underlying109 hi hz0 hz1 hz2 rfl De _ _ _ rfl (AD hrow (AK _ _)) ⟨wr.heap.size,0,none⟩ 1 1 [.int .u8 d2] rfl rfl ?c1a ?c2a ?c3a ?c4a ?c5a ?_)|(go_at_call 68;refine(EC.out _ _).mono ?_;rintro e w' ⟨d2,rfl,rfl⟩))
   try case c1a=>exact World.news_of_block (cs:=#[.int .u8 d2]) (t:=5) (fr:=(0,0)) (heap_alloc_new wr _)
   case c2a=>simp[Value.oneCell']
   case c3a=>unfold maxLen;omega
   case c4a=>omega
   case c5a=>first|omega|(simp;omega)
   intro v' w1 hown1 hgrow hnil;clear hnil;obtain⟨A1,c1,rfl,_⟩:=AF hown1;have HBA:=Hd (show CG w1 w.heap.size A1 (n+1) c1 from⟨xs++[d2],by simpa using hown1⟩);have hbel1:=(hbel.alloc hbs (.cells #[.int .u8 d2] 5)).grown hgrow (by simp;omega) (AG hrow);clear hown1 hgrow hrow;go_wp2_with fail;go_roundw
   case rel=>exact⟨A1,n+1,c1,k+2,rfl,by first|rfl|go_num|(congr 1;omega),HBA.out,Om,Om,Om,hbel1,HK2⟩
   simp[intOf];omega
  have t1:(AA s k !=92)=true:=by simp[h92]
  have HK2:=Hd (show FV s (k+1)=R by rw[<-HK.out,UN hks h92]);clear h92 HK;generalize AA s k=d at *;go_wp2_with (first|(at_builtin;refine wpList_append_own _ rfl _ _ 109 rfl w.heap.size 5 i0 (.int .u8 0) 1 1 Tryz.underlying109 hi hz0 hz1 hz2 rfl De _ _ _ rfl (AD hrow (AK _ _)) ⟨wr.heap.size,0,none⟩ 1 1 [.int .u8 d] rfl rfl ?c1b ?c2b ?c3b ?c4b ?c5b ?_))
  try case c1b=>exact World.news_of_block (cs:=#[.int .u8 d]) (t:=5) (fr:=(0,0)) (heap_alloc_new wr _)
  case c2b=>simp[Value.oneCell']
  case c3b=>unfold maxLen;omega
  case c4b=>omega
  case c5b=>first|omega|(simp;omega)
  intro v' w1 hown1 hgrow hnil;clear hnil;obtain⟨A1,c1,rfl,_⟩:=AF hown1;have HBA:=Hd (show CG w1 w.heap.size A1 (n+1) c1 from⟨xs++[d],by simpa using hown1⟩);have hbel1:=(hbel.alloc hbs (.cells #[.int .u8 d] 5)).grown hgrow (by simp;omega) (AG hrow);clear hown1 hgrow hrow;go_wp2_with fail;go_roundw
  case rel=>exact⟨A1,n+1,c1,k+1,rfl,by go_num,HBA.out,Om,Om,Om,hbel1,HK2⟩
  simp[intOf];omega
 obtain⟨xs,hrow⟩:=hB;obtain rfl:R=true:=by rw[<-HK.out];exact AHz Om
 clear HK HR;go_wp2_with (first|(at_builtin;refine wpList_append_own _ rfl _ _ 109 rfl w.heap.size 5 i0 (.int .u8 0) 1 1 Tryz.underlying109 hi hz0 hz1 hz2 rfl De _ _ _ rfl (AD hrow (AK _ _)) ⟨wr.heap.size,0,none⟩ 1 1 [.int .u8 0] rfl rfl ?c1c ?c2c ?c3c ?c4c ?c5c ?_))
 try case c1c=>exact World.news_of_block (cs:=#[.int .u8 0]) (t:=5) (fr:=(0,0)) (heap_alloc_new wr _)
 case c2c=>simp[Value.oneCell']
 case c3c=>unfold maxLen;omega
 case c4c=>omega
 case c5c=>first|omega|(simp;omega)
 intro v' w1 hown1 hgrow hnil;clear hnil;obtain⟨A1,c1,rfl,_⟩:=AF hown1;have HBA:=Hd (show CG w1 w.heap.size A1 (n+1) c1 from⟨xs++[0],by simpa using hown1⟩);have hbel1:=(hbel.alloc hbs (.cells #[.int .u8 0] 5)).grown hgrow (by simp;omega) (AG hrow);clear hown1 hgrow hrow;obtain⟨t,ht,htn⟩:=HBA.out.textN;go_wp2_with fail;go_ret2;exact⟨t,rfl,Om,hbel1⟩
theorem LN(s:ByteArray)(hs:s.size<=100000)(w:World):Calls Tryz.prog 12 #[.string s] w (ID (λ_=>True) w):=by
 go_enter Tryz.func12,Tryz.ntmps12;go_wp2_with fail;go_loop [3] (λi=>∃k:Nat,k<=s.size/\i=.int .i64 k) (λi=>s.size-(intOf i).toNat)
 case atStart=>exact⟨0,Nat.zero_le _,rfl⟩
 obtain⟨k,hk,rfl⟩:=hrel;by_cases hlt:(k:Int)<(s.size:Int)
 .have hks:k<s.size:=Om
  have ec:=AJ hks
  cases ha:BT (AA s k) ⟨#[121,98,110,113,105,117,120,116,100,115,111,103,118,97,123,125]⟩ with
  |false=>have HA:=Hd ha;have HA2:=HA;clear ha;generalize AA s k=d at *;go_wp2_with (go_at_call 31;refine(B4 _ _ De _).mono ?_;rintro e w' ⟨rfl,rfl⟩;first|rw[HA.out]|rw[HA2.out]);go_ret;exact⟨false,rfl,trivial,Bl⟩
  |true=>
   have HA:=Hd ha;clear ha
   cases h123:(AA s k==123) with
   |false=>
    have HA2:=HA;generalize AA s k=d at *;go_wp2_with (go_at_call 31;refine(B4 _ _ De _).mono ?_;rintro e w' ⟨rfl,rfl⟩;first|rw[HA.out]|rw[HA2.out]);go_round
    case rel=>exact⟨k+1,Om,by go_num⟩
    simp[intOf];omega
   |true=>
    by_cases hend:k+1=s.size
    .have t4:((k:Int)+1==(s.size:Int))=true:=by rw[beq_iff_eq];omega
     have HA2:=HA;clear hend;generalize AA s k=d at *;go_wp2_with (go_at_call 31;refine(B4 _ _ De _).mono ?_;rintro e w' ⟨rfl,rfl⟩;first|rw[HA.out]|rw[HA2.out]);go_ret;exact⟨false,rfl,trivial,Bl⟩
    have t4:((k:Int)+1==(s.size:Int))=false:=Bq;have hk1:k+1<s.size:=Om;have hk1i:(k:Int)+1<(s.size:Int):=Om;have e1:=AJ hk1;clear hend
    cases hb:BT (AA s (k+1)) ⟨#[121,110,113,105,117,120,116,115,111]⟩ with
    |false=>have HA2:=Hd hb;clear hb;generalize AA s k=d at *;generalize AA s (k+1)=d1 at *;go_wp2_with (go_at_call 31;refine(B4 _ _ De _).mono ?_;rintro e w' ⟨rfl,rfl⟩;first|rw[HA.out]|rw[HA2.out]);go_ret;exact⟨false,rfl,trivial,Bl⟩
    |true=>
     have HA2:=Hd hb;clear hb;generalize AA s k=d at *;generalize AA s (k+1)=d1 at *;go_wp2_with (go_at_call 31;refine(B4 _ _ De _).mono ?_;rintro e w' ⟨rfl,rfl⟩;first|rw[HA.out]|rw[HA2.out]);go_round
     case rel=>exact⟨k+1,Om,by go_num⟩
     simp[intOf];omega
 have HS:=Hd (λ(w:World)=>M8 s hs w);go_wp2_with (go_at_call 36;refine(HS.out _).mono ?_;rintro e w' ⟨b,rfl,hb0,hb⟩;clear hb0);go_ret;exact⟨b,rfl,trivial,hb⟩
theorem ADp(s:ByteArray)(hs:s.size<=100000)(w:World):Calls Tryz.prog 17 #[.string s] w (ID (λ_=>True) w):=by
 go_enter Tryz.func17,Tryz.ntmps17;go_wp2_with fail;go_loop [3,4] (λv i=>∃(b:Bool) (k:Nat),v=.bool b/\(b=true->2<s.size)/\2<=k/\k<=s.size+2/\i=.int .i64 k) (λ_ i=>s.size-(intOf i).toNat)
 case atStart=>exact⟨false,2,rfl,by simp,Om,Om,rfl⟩
 obtain⟨b,k,rfl,hb2,hkl,hk,rfl⟩:=hrel;by_cases hlt:(k:Int)<(s.size:Int)
 .have hks:k<s.size:=Om
  have hk2:2<s.size:=Om;have ec:=AJ hks;generalize AA s k=d at *
  cases b with
  |true=>
   clear hb2;go_wp2_with fail;go_round
   case rel=>exact⟨true,k+1,rfl,λ_=>hk2,Om,Om,by go_num⟩
   simp[intOf];omega
  |false=>
   clear hb2;go_wp2_with fail;go_round
   case rel=>exact⟨_,k+1,rfl,λ_=>hk2,Om,Om,by go_num⟩
   simp[intOf];omega
 cases b with
 |false=>clear hb2;go_wp2_with fail;go_ret;exact⟨_,rfl,trivial,Bl⟩
 |true=>have h2:=hb2 rfl;clear hb2;have h2i:(2:Int)<=(s.size:Int):=Om;go_wp2_with fail;go_ret;exact⟨_,rfl,trivial,Bl⟩
theorem Z3(s:ByteArray)(hs:s.size<=100000)(k:Nat)(x:ByteArray)(w:World):Calls Tryz.prog 14 #[.string s,.agg #[.int .i64 k,.string x]] w (ID (λ_=>True) w):=by
 go_enter Tryz.func14,Tryz.ntmps14
 cases k5:((k:Int)==5) with
 |true=>
  by_cases h1:(1:Int)<(s.size:Int)
  .have hk0:0<s.size:=Om
   have hk1:1<s.size:=Om;have hk0i:(0:Int)<(s.size:Int):=Om;have hk0e:¬s=ByteArray.empty:=by rintro rfl;simp at hk0
   have e0:=AJ hk0;have e1:=AJ hk1
   cases h97:(AA s 0==97) with
   |true=>generalize AA s 0=d at *;generalize AA s 1=d1 at *;go_wp2_with fail;go_ret;exact⟨_,rfl,trivial,AK _ _⟩
   |false=>generalize AA s 0=d at *;generalize AA s 1=d1 at *;go_wp2_with fail;go_ret;exact⟨_,rfl,trivial,AK _ _⟩
  go_wp2_with fail;go_ret;exact⟨_,rfl,trivial,AK _ _⟩
 |false=>
  cases k7:((k:Int)==7) with
  |true=>
   by_cases h1:(1:Int)<(s.size:Int)
   .have h2:(2:Int)<=(s.size:Int):=Om
    go_wp2_with fail;go_ret;exact⟨_,rfl,trivial,AK _ _⟩
   go_wp2_with fail;go_ret;exact⟨_,rfl,trivial,AK _ _⟩
  |false=>go_wp2_with fail;go_ret;exact⟨_,rfl,trivial,AK _ _⟩
theorem U0(k:Nat)(x:ByteArray)(hx:x.size<=100000)(hp:1<=x.size)(w:World):Calls Tryz.prog 16 #[.agg #[.int .i64 k,.string x]] w (ID (λ_=>True) w):=by
 have hk0:0<x.size:=Om;have hk0i:(0:Int)<(x.size:Int):=Om;have hk0e:¬x=ByteArray.empty:=by rintro rfl;simp at hk0
 have h1i:(1:Int)<=(x.size:Int):=Om;have e0:=AJ hk0;have HV:=Hd (λ(y:ByteArray) (h:y.size<=100000) (w:World)=>SO y h w);have HS:=Hd (λ(y:ByteArray) (h:y.size<=100000) (w:World)=>M8 y h w);have HT:=Hd (λ(y:ByteArray) (h:y.size<=100000) (w:World)=>LN y h w);go_enter Tryz.func16,Tryz.ntmps16
 cases hd:(x.toList==[100,111,117,98,108,101]) with
 |true=>go_wp2_with fail;go_ret;exact⟨_,rfl,trivial,AK _ _⟩
 |false=>
  cases h64:(AA x 0 !=64) with
  |true=>generalize AA x 0=d at *;go_wp2_with fail;go_ret;exact⟨_,rfl,trivial,AK _ _⟩
  |false=>
   generalize AA x 0=d at *;go_wp2_with (go_at_call 37;refine(HV.out _ (by simp;omega) _).mono ?_;rintro e w' ⟨b,rfl,hb0,hb⟩;clear hb0;have hbk:=(hb.block w.heap.size Sm).trans (heap_alloc_new w _);have hc1:w'.cell? ⟨w.heap.size,1,none⟩=some (.string x):=(by simp[World.cell?,hbk]);have hf1:w'.frozen? ⟨w.heap.size,1,none⟩=false:=(by simp[World.frozen?,hbk]);clear hbk;cases b)
   .go_ret
    exact⟨_,rfl,trivial,(AK _ _).trans (hb.mono Sm)⟩
   have hb1:Below w.heap.size w w':=(AK _ _).trans (hb.mono Sm);have hsz:(x.extract 1 x.size).size=x.size-1:=by simp
   generalize x.extract 1 x.size=y at *;have hy:y.size<=100000:=Om;clear hb hc1 hf1;go_loop [4] (λi=>∃j:Nat,j<=y.size/\i=.int .i64 j) (λi=>y.size-(intOf i).toNat)
   case atStart=>exact⟨0,Nat.zero_le _,rfl⟩
   obtain⟨j,hj,rfl⟩:=hrel;by_cases hlt:(j:Int)<(y.size:Int)
   .have hjs:j<y.size:=Om
    have ec:=AJ hjs;generalize AA y j=d2 at *
    cases h40:(d2==40) with
    |true=>go_wp2_with (go_at_call 36;refine(HS.out _ hy _).mono ?_;rintro e w2 ⟨b,rfl,hb0,hb⟩;clear hb0);go_ret;exact⟨b,rfl,trivial,hb1.trans (hb.mono hb1.size)⟩
    |false=>
     cases h104:(d2==104) with
     |true=>go_wp2_with (go_at_call 36;refine(HS.out _ hy _).mono ?_;rintro e w2 ⟨b,rfl,hb0,hb⟩;clear hb0);go_ret;exact⟨b,rfl,trivial,hb1.trans (hb.mono hb1.size)⟩
     |false=>
      go_wp2_with fail;go_round
      case rel=>exact⟨j+1,Om,by go_num⟩
      simp[intOf];omega
   go_wp2_with (go_at_call 12;refine(HT.out _ hy _).mono ?_;rintro e w2 ⟨b,rfl,hb0,hb⟩;clear hb0);go_ret;exact⟨b,rfl,trivial,hb1.trans (hb.mono hb1.size)⟩
