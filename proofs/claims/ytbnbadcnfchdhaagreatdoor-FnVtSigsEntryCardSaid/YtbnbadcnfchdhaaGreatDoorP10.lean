/- Lemmas for FnVtSigsEntry; no conditions. -/
import Derived.Test.YtbnbadcnfchdhaaGreatDoorP09
import Derived.Deep.RegionHeld3
import Derived.Deep.RegionWith
import Derived.Lib.SlBytesConst
set_option maxRecDepth 100000
set_option maxHeartbeats 16000000
set_option linter.all false
namespace Go.Proofs.YtbnbadcnfchdhaaGreatDoor
open Go.RowKit
def GI:Nat->ByteArray
 |0=>⟨#[98,111,111,108,101,97,110]⟩
 |1=>⟨#[98,121,116,101]⟩
 |2=>⟨#[105,110,116,49,54]⟩
 |3=>⟨#[117,105,110,116,49,54]⟩
 |4=>⟨#[105,110,116,51,50]⟩
 |5=>⟨#[117,105,110,116,51,50]⟩
 |6=>⟨#[105,110,116,54,52]⟩
 |7=>⟨#[117,105,110,116,54,52]⟩
 |8=>⟨#[115,116,114,105,110,103]⟩
 |_=>⟨#[111,98,106,101,99,116,112,97,116,104]⟩
def OA:ByteArray:=⟨#[98,121,110,113,105,117,120,116,115,111]⟩
def YF:ByteArray:=⟨#[115,105,103,110,97,116,117,114,101]⟩
def PO(s:ByteArray):Nat->Nat->ByteArray×Bool
 |0,_=>(⟨#[103]⟩,decide (s=YF))
 |m+1,k=>if s=GI k then(OA.extract k (k+1),true) else PO s m (k+1)
def G4(s:ByteArray):ByteArray×Bool:=PO s 10 0
def CA(s:ByteArray):ByteArray×Bool:=if AA s 0=64 then(s.extract 1 s.size,GQ (s.extract 1 s.size)) else G4 s
def AN8(s:ByteArray)(w:World)(en:Ending)(w':World):Prop:=
 ∃(t:ByteArray) (ok:Bool),en=.returned (.tuple #[.string t,.bool ok])/\t.size<=s.size+1/\(EU s\/AA s 0≠64->(t,ok)=CA s)/\Below w.heap.size w w'
theorem AE(s:ByteArray)(l:List UInt8):(s.toList==l)=decide (s=⟨l.toArray⟩):=by
 rw[Bool.eq_iff_iff,decide_eq_true_iff,beq_iff_eq,ByteArray.toList_eq];constructor
 .intro h;subst h;cases s;simp
 rintro rfl;simp
theorem ADu{s t:ByteArray}(h:s≠t):(s.toList==t.toList)=false:=by rw[AE];refine decide_eq_false λe=>h ?_;rw[e,ByteArray.toList_eq]
theorem AHv(k:Nat)(s:ByteArray)(h:0<s.size):(OA.extract k (k+1)).size<=s.size+1:=by simp only[ByteArray.size_extract];omega
theorem AJg(s:ByteArray):(⟨#[103]⟩:ByteArray).size<=s.size+1:=by have:(⟨#[103]⟩:ByteArray).size=1:=rfl;omega
def ZU(w:World):World:=w.alloc (.cells #[.string ⟨#[98,111,111,108,101,97,110]⟩,.string ⟨#[98,121,116,101]⟩,.string ⟨#[105,110,116,49,54]⟩,.string ⟨#[117,105,110,116,49,54]⟩,.string ⟨#[105,110,116,51,50]⟩,.string ⟨#[117,105,110,116,51,50]⟩,.string ⟨#[105,110,116,54,52]⟩,.string ⟨#[117,105,110,116,54,52]⟩,.string ⟨#[115,116,114,105,110,103]⟩,.string ⟨#[111,98,106,101,99,116,112,97,116,104]⟩] 70)
theorem ALq(w:World)(k:Nat)(hk:k<10):(ZU w).cell? ⟨w.heap.size,k,none⟩=some (.string (GI k)):=by
 have h:(ZU w).heap[w.heap.size]?=some (.cells #[.string (GI 0),.string (GI 1),.string (GI 2),.string (GI 3),.string (GI 4),.string (GI 5),.string (GI 6),.string (GI 7),.string (GI 8),.string (GI 9)] 70):=by show (w.heap.push _)[w.heap.size]?=_;simp;exact⟨rfl,rfl,rfl,rfl,rfl,rfl,rfl,rfl,rfl,rfl⟩
 unfold World.cell?;rw[h]
 match k,hk with
 |0,_=>rfl
 |1,_=>rfl
 |2,_=>rfl
 |3,_=>rfl
 |4,_=>rfl
 |5,_=>rfl
 |6,_=>rfl
 |7,_=>rfl
 |8,_=>rfl
 |9,_=>rfl
theorem OB(w:World):Below w.heap.size w (ZU w):=Bl.alloc Nl _
theorem JV(s:ByteArray)(hs:s.size<=100000)(hp:0<s.size)(w:World):Calls Tryz.prog 15 #[.string s] w (AN8 s w):=by
 have e0:=AJ hp;have hpi:(0:Int)<(s.size:Int):=Om;have hpi1:(1:Int)<=(s.size:Int):=Om;by_cases h64:AA s 0=64
 .have t1:(AA s 0==64)=true:=by simp[h64]
  have HN:=Hd (show CA s=(s.extract 1 s.size,GQ (s.extract 1 s.size)) by unfold CA;rw[if_pos h64]);have HNP:=Hd (show EU s\/AA s 0≠64->EU s from λh=>h.resolve_right λx=>x h64);clear h64;generalize hc0:AA s 0=c at *;have HC0:=Hd hc0;clear hc0;have HX:=Hd (show (s.extract 1 s.size).size<=s.size+1 by simp;omega);go_enter Tryz.func15,Tryz.ntmps15;go_wp2_with fail;have HS:=Hd (λW=>M8 (s.extract 1 s.size) (by simp;omega) W);have HPN:=Hd (λh:EU s=>LY h 1 Om);go_region_held3 (λw'=>Below w.heap.size w w') (first|exact Bl.drew|exact(Bl.drew).trans hb|assumption) ((go_at_call 36;refine(HS.out _).mono ?_;rintro e' w' ⟨b,rfl,hq,hb⟩;have HQ:=Hd hq;clear hq));have hbel:Below w.heap.size w w':=(Bl.drew).trans hb;go_wp2_with fail;go_ret2;exact⟨_,b,rfl,HX.out,λh=>by rw[HN.out,HQ.out (HPN.out (HNP.out (by rw[<-HC0.out];exact h)))],hbel⟩
 have t1:(AA s 0==64)=false:=by simp[h64]
 have HN:=Hd (show CA s=PO s 10 0 by unfold CA G4;rw[if_neg h64]);clear h64;generalize AA s 0=c at *;have HW:=Hd (λ(k:Nat) (h:k<10)=>ALq w k h);go_enter Tryz.func15,Tryz.ntmps15;go_upto_region 3 with fail;go_cut [4] from 14 to 14 (λv wx=>v=.pointer (some ⟨w.heap.size,0,none⟩)/\wx=ZU w)
 case first=>clear HW HN;go_wp2_with fail;go_meet;exact⟨rfl,rfl⟩
 obtain⟨rfl,rfl⟩:=hcut;go_wp2_with fail;go_loop [5] (λv=>∃k:Nat,k<=10/\v=.int .i64 k/\Hid (CA s=PO s (10-k) k)) (λv=>10-(intOf v).toNat)
 case atStart=>exact⟨0,Om,rfl,HN⟩
 obtain⟨k,hk,rfl,HK⟩:=hrel;by_cases hlt:(k:Int)<10
 .have hk10:k<10:=Om
  have hcell:=HW.out k hk10;have hwf:PO s (10-k) k=if s=GI k then(OA.extract k (k+1),true) else PO s (9-k) (k+1):=by rw[show 10-k=(9-k)+1 by omega];rfl
  by_cases hq:s=GI k
  .have HR:=Hd (HK.out.trans (hwf.trans (if_pos hq)))
   have HQ:=Hd hq;clear HK hwf HW HN;generalize GI k=wk at *;subst hq;go_wp2_with fail;go_ret2;exact⟨_,true,rfl,AHv k _ hp,λh=>HR.out.symm,OB w⟩
  have HR:=Hd (HK.out.trans (hwf.trans (if_neg hq)));clear HK hwf HW HN;generalize hwk:GI k=wk at *;have HWK:=Hd hwk;have hq1:=ADu hq;clear hwk hq;go_wp2_with fail;go_round
  case rel=>exact⟨k+1,Om,by go_num,by rw[HR.out,show 10-(k+1)=9-k by omega];exact rfl⟩
  simp[intOf];omega
 obtain rfl:k=10:=Om;have HR:=Hd (show CA s=(⟨#[103]⟩,decide (s=YF)) from HK.out);clear HK HN HW;by_cases hq:s=YF
 .have HR2:=Hd (show CA s=(⟨#[103]⟩,true) by rw[HR.out];simp[hq])
  have hq1:(s.toList==[115,105,103,110,97,116,117,114,101])=true:=by rw[AE];exact decide_eq_true hq
  clear HR hq;go_wp2_with fail;go_ret2;exact⟨_,true,rfl,AJg s,λh=>HR2.out.symm,OB w⟩
 have HR2:=Hd (show CA s=(⟨#[103]⟩,false) by rw[HR.out];simp[hq]);have hq1:(s.toList==[115,105,103,110,97,116,117,114,101])=false:=by rw[AE];exact decide_eq_false hq
 clear HR hq;go_wp2_with fail;go_ret2;exact⟨_,false,rfl,AJg s,λh=>HR2.out.symm,OB w⟩
def FZ:List Int:=[91,93,123,125,60,62,44,58]
def NZ(c:Int):Bool:=FZ.any λx=>decide (x=c)
def ACc(c:Int)(k:Nat):Bool:=(FZ.take k).any λx=>decide (x=c)
theorem AGe(c:Int)(k:Nat)(h:k<8):ACc c (k+1)=(ACc c k||(FZ.getD k 0==c)):=by
 unfold ACc;rw[List.take_add_one,List.any_append];congr 1;have:FZ[k]?=some (FZ.getD k 0):=by rw[List.getD_eq_getElem?_getD,List.getElem?_eq_getElem (by simpa[FZ] using h)];rfl
 rw[this];simp only[Option.toList,List.any_cons,List.any_nil,Bool.or_false];rfl
def DJ(s:ByteArray)(n:Nat):Nat×Nat×Bool:=if n<s.size/\AX (AA s n)=false/\NZ (AA s n)=false then(0,0,false) else(n,4,true)
def WK(r:Nat×Nat×Bool):Value:=.tuple #[.int .i64 r.1,.int .i64 r.2.1,.bool r.2.2]
def VZ(w:World):World:=w.alloc (.cells #[.int .u8 91,.int .u8 93,.int .u8 123,.int .u8 125,.int .u8 60,.int .u8 62,.int .u8 44,.int .u8 58] 5 (8,9))
theorem AK9(w:World)(k:Nat)(hk:k<8):(VZ w).cell? ⟨w.heap.size,k,none⟩=some (.int .u8 (FZ.getD k 0)):=by
 have h:(VZ w).heap[w.heap.size]?=some (.cells #[.int .u8 91,.int .u8 93,.int .u8 123,.int .u8 125,.int .u8 60,.int .u8 62,.int .u8 44,.int .u8 58] 5 (8,9)):=by show (w.heap.push _)[w.heap.size]?=_;simp
 unfold World.cell?;rw[h]
 match k,hk with
 |0,_=>rfl
 |1,_=>rfl
 |2,_=>rfl
 |3,_=>rfl
 |4,_=>rfl
 |5,_=>rfl
 |6,_=>rfl
 |7,_=>rfl
theorem S3(w:World):Below w.heap.size w (VZ w):=Bl.alloc Nl _
theorem ME(s:ByteArray)(hs:s.size<=100000)(n:Nat)(hn:n<=s.size)(w:World) :
 Calls Tryz.prog 55 #[.string s,.int .i64 n] w λe w'=>e=.returned (WK (DJ s n))/\Below w.heap.size w w':=by
 have BL:=Hd (λ(c:Int) (w:World)=>JW c w)
 by_cases hlt:(n:Int)<(s.size:Int)
 .have hns:n<s.size:=Om
  have en:=AJ hns
  cases hb:AX (AA s n) with
  |true=>
   have hR:DJ s n=(n,4,true):=by unfold DJ;rw[if_neg (λh=>by simp[hb]at h)]
   rw[hR];clear hR;have HB:=Hd hb;clear hb;generalize AA s n=c at *;go_enter Tryz.func55,Tryz.ntmps55;go_wp2_with (go_at_call 32;refine(BL.out _ _).mono ?_;rintro e w' ⟨rfl,rfl⟩;rw[HB.out]);go_ret3;exact⟨rfl,Bl⟩
  |false=>
   have hR:DJ s n=if NZ (AA s n)=false then(0,0,false) else(n,4,true):=by unfold DJ;simp[hns,hb]
   generalize DJ s n=R at *;have HB:=Hd hb;clear hb;generalize AA s n=c at *;have HR:=Hd hR;clear hR;have kc:=λ(w:World) (C:Array Value) (n c:Nat)=>Lib.run_convert_bytes_const (P:=Tryz.prog) w 109 5 C n c Tryz.underlying109 Tryz.underlying5;have HW:=Hd (λ(k:Nat) (h:k<8)=>AK9 w k h);have HA:=Hd (AGe c);go_enter Tryz.func55,Tryz.ntmps55;go_upto_region 3 with(go_at_call 32;refine(BL.out _ _).mono ?_;rintro e w' ⟨rfl,rfl⟩;rw[HB.out]);go_cut [22,23,24] from 21 to 24 (λv22 v23 v24 wx=>v22=.slice (some ⟨w.heap.size,0,none⟩) 8 8/\v23=.int .i64 8/\v24=.int .i64 0/\wx=VZ w)
   case first=>clear HW HA HB;go_wp2_with fail;go_meet;exact⟨rfl,rfl,rfl,rfl⟩
   obtain⟨rfl,rfl,rfl,rfl⟩:=hcut;clear kc;go_upto_block 0 with fail;go_cut [7] from 24 to 36 (λv7 wx=>v7=.bool (NZ c)/\wx=VZ w)
   case first=>
    go_wp2_with fail;go_loop [7,24] (λv7 v=>∃k:Nat,k<=8/\v=.int .i64 k/\v7=.bool (ACc c k)) (λ_ v=>8-(intOf v).toNat)
    case atStart=>exact⟨0,Om,rfl,rfl⟩
    obtain⟨k,hk,rfl,rfl⟩:=hrel;by_cases hk8:(k:Int)<8
    .have hk8n:k<8:=Om
     have hcell:=HW.out k hk8n;have ha:=HA.out k hk8n;generalize FZ.getD k 0=d at *
     cases hc:ACc c k with
     |true=>
      rw[hc]at ha;have HA2:=Hd (show ACc c (k+1)=true by rw[ha];rfl);clear ha hc HW;go_wp2_with fail;go_round
      case rel=>exact⟨k+1,Om,by go_num,by rw[HA2.out]⟩
      simp[intOf];omega
     |false=>
      rw[hc]at ha;have HA2:=Hd (show ACc c (k+1)=(d==c) by rw[ha];rfl);clear ha hc HW;go_wp2_with fail;go_round
      case rel=>exact⟨k+1,Om,by go_num,by rw[HA2.out]⟩
      simp[intOf];omega
    obtain rfl:k=8:=Om;clear HW;go_wp2_with fail;go_meet;exact⟨rfl,rfl⟩
   obtain⟨rfl,rfl⟩:=hcut;clear HA
   cases hS:NZ c with
   |true=>
    obtain rfl:R=(n,4,true):=by rw[HR.out,hS];rfl
    clear HR hS;go_wp2_with fail;go_ret3;exact⟨rfl,S3 w⟩
   |false=>
    obtain rfl:R=(0,0,false):=by rw[HR.out,hS];rfl
    clear HR hS;go_wp2_with fail;go_ret3;exact⟨rfl,S3 w⟩
 have hR:DJ s n=(n,4,true):=by unfold DJ;rw[if_neg (λh=>by omega)]
 rw[hR]
 clear hR
 go_enter Tryz.func55,Tryz.ntmps55
 go_wp2_with fail
 go_ret3
 exact⟨rfl,Bl⟩
def AC9(c:Int):Bool:=decide (55296<=c)&&decide (c<=57343)
theorem WE(c:Int)(w:World):Calls Tryz.prog 91 #[.int .i64 c] w λe w'=>e=.returned (.bool (decide (55296<=c)&&decide (c<=56319)))/\w=w':=by
 by_cases h1:55296<=c
 .by_cases h2:c<=56319
  .simp only[decide_eq_true h1,decide_eq_true h2,Bool.and_true]
   go_enter Tryz.func91,Tryz.ntmps91;go_wp2_with fail;go_ret;exact⟨rfl,rfl⟩
  simp only[decide_eq_true h1,decide_eq_false h2,Bool.and_false];go_enter Tryz.func91,Tryz.ntmps91;go_wp2_with fail;go_ret;exact⟨rfl,rfl⟩
 simp only[decide_eq_false h1,Bool.false_and];go_enter Tryz.func91,Tryz.ntmps91;go_wp2_with fail;go_ret;exact⟨rfl,rfl⟩
theorem XJ(c:Int)(w:World):Calls Tryz.prog 92 #[.int .i64 c] w λe w'=>e=.returned (.bool (decide (56320<=c)&&decide (c<=57343)))/\w=w':=by
 by_cases h1:56320<=c
 .by_cases h2:c<=57343
  .simp only[decide_eq_true h1,decide_eq_true h2,Bool.and_true]
   go_enter Tryz.func92,Tryz.ntmps92;go_wp2_with fail;go_ret;exact⟨rfl,rfl⟩
  simp only[decide_eq_true h1,decide_eq_false h2,Bool.and_false];go_enter Tryz.func92,Tryz.ntmps92;go_wp2_with fail;go_ret;exact⟨rfl,rfl⟩
 simp only[decide_eq_false h1,Bool.false_and];go_enter Tryz.func92,Tryz.ntmps92;go_wp2_with fail;go_ret;exact⟨rfl,rfl⟩
def E8(s:ByteArray)(a:Nat):Nat->Nat->Int->Option Int
 |0,_,acc=>some acc
 |m+1,k,acc=>if 128<=AA s (a+k)/\AA s (a+k)<=191 then E8 s a m (k+1) (acc*64+AA s (a+k)-128) else none
def QF(c:Int):Option (Nat×Int×Int):=
 if 194<=c/\c<=223 then some (1,128,c-192) else if 224<=c/\c<=239 then some (2,2048,c-224) else if 240<=c/\c<=244 then some (3,65536,c-240) else none
def O2(more:Nat)(least:Int):Option Int->Int×Nat×Bool
 |none=>(65533,1,false)
 |some v=>if v<least\/1114111<v\/AC9 v=true then(65533,1,false) else(v,more+1,true)
def BN(s:ByteArray)(a:Nat):Int×Nat×Bool:=
 if AA s a<128 then(AA s a,1,true)
 else match QF (AA s a) with
  |none=>(65533,1,false)
  |some (more,least,c0)=>if s.size<=a+more then(65533,1,false) else O2 more least (E8 s a more 1 c0)
def AB2(r:Int×Nat×Bool):Value:=.tuple #[.int .i64 r.1,.int .i64 r.2.1,.bool r.2.2]
theorem TG(s:ByteArray)(hs:s.size<=100000)(a:Nat)(ha:a<s.size)(w:World) :
 Calls Tryz.prog 50 #[.string s,.int .i64 a] w λe w'=>e=.returned (AB2 (BN s a))/\w=w':=by
 have ea:=AJ ha
 have hai:(a:Int)<(s.size:Int):=Om
 obtain⟨hb0,hb1⟩:=CJ s a
 generalize hR:BN s a=R
 have hR2:R=_:=hR.symm.trans (by unfold BN;exact rfl)
 clear hR
 by_cases h128:AA s a<128
 .rw[if_pos h128]at hR2
  subst hR2;generalize AA s a=c at *;go_enter Tryz.func50,Tryz.ntmps50;go_wp2_with fail;go_ret3;exact⟨rfl,rfl⟩
 rw[if_neg h128]at hR2
 cases hL:QF (AA s a) with
 |none=>
  rw[hL]at hR2
  have hR3:R=(65533,1,false):=hR2
  subst hR3
  clear hR2
  have h1:¬(194<=AA s a/\AA s a<=223):=λh=>by unfold QF at hL;rw[if_pos h]at hL;simp at hL
  have h2:¬(224<=AA s a/\AA s a<=239):=λh=>by unfold QF at hL;rw[if_neg h1,if_pos h]at hL;simp at hL
  have h3:¬(240<=AA s a/\AA s a<=244):=λh=>by unfold QF at hL;rw[if_neg h1,if_neg h2,if_pos h]at hL;simp at hL
  clear hL
  generalize AA s a=c at *
  by_cases g1:194<=c
  .have g2:¬c<=223:=λx=>h1 ⟨g1,x⟩
   have g3:224<=c:=Om;have g4:¬c<=239:=λx=>h2 ⟨g3,x⟩;have g5:240<=c:=Om;have g6:¬c<=244:=λx=>h3 ⟨g5,x⟩;clear h1 h2 h3;go_enter Tryz.func50,Tryz.ntmps50;go_wp2_with fail;go_ret3;exact⟨rfl,rfl⟩
  have g3:¬224<=c:=Om
  have g5:¬240<=c:=Om
  clear h1 h2 h3
  go_enter Tryz.func50,Tryz.ntmps50
  go_wp2_with fail
  go_ret3
  exact⟨rfl,rfl⟩
 |some r=>
  obtain⟨more,least,c0⟩:=r
  rw[hL]at hR2
  have HR:=Hd (show R=if s.size<=a+more then(65533,1,false) else O2 more least (E8 s a more 1 c0) from hR2)
  clear hR2
  have hb:1<=more/\more<=3/\0<=c0/\c0<=31/\0<=least/\least<=65536:=by
   unfold QF at hL;split at hL
   .simp at hL;omega
   split at hL
   .simp at hL;omega
   split at hL
   .simp at hL;omega
   simp at hL
  obtain⟨m1,m3,c0a,c0b,l0,l1⟩:=hb
  have HL:=Hd hL
  clear hL
  have HS:=Hd (λ(k:Nat) (h:k<s.size)=>AJ h)
  have HI:=Hd (λ(k:Nat)=>CJ s k)
  generalize hc:AA s a=c at *
  have HC:=Hd hc
  clear hc
  go_enter Tryz.func50,Tryz.ntmps50
  go_upto_block 0 with fail
  go_cut [7,8,9] from 7 to 46 (λv7 v8 v9 wx=>v7=.int .i64 c0/\v8=.int .i64 more/\v9=.int .i64 least/\w=wx)
  case first=>
   have hL:=HL.out;clear HL HR HS HI HC;unfold QF at hL;split at hL
   .rename_i h
    simp only[Option.some.injEq,Prod.mk.injEq]at hL;obtain⟨rfl,rfl,rfl⟩:=hL;obtain⟨g1,g2⟩:=h;go_wp2_with fail;go_meet;exact⟨rfl,rfl,rfl,rfl⟩
   rename_i h1;split at hL
   .rename_i h
    simp only[Option.some.injEq,Prod.mk.injEq]at hL;obtain⟨rfl,rfl,rfl⟩:=hL;obtain⟨g1,g2⟩:=h;have g3:194<=c:=Om;have g4:¬c<=223:=Om;clear h1;go_wp2_with fail;go_meet;exact⟨rfl,rfl,rfl,rfl⟩
   rename_i h2;split at hL
   .rename_i h
    simp only[Option.some.injEq,Prod.mk.injEq]at hL;obtain⟨rfl,rfl,rfl⟩:=hL;obtain⟨g1,g2⟩:=h;have g3:194<=c:=Om;have g4:¬c<=223:=Om;have g5:224<=c:=Om;have g6:¬c<=239:=Om;clear h1 h2;go_wp2_with fail;go_meet;exact⟨rfl,rfl,rfl,rfl⟩
   simp at hL
  obtain⟨rfl,rfl,rfl,rfl⟩:=hcut
  clear HL
  by_cases hsz:s.size<=a+more
  .obtain rfl:R=(65533,1,false):=HR.out.trans (if_pos hsz)
   have q:(s.size:Int)-(a:Int)<=(more:Int):=Om;clear HR;go_wp2_with fail;go_ret3;exact⟨rfl,rfl⟩
  have HR2:=Hd (HR.out.trans (if_neg hsz))
  have q:¬(s.size:Int)-(a:Int)<=(more:Int):=Om
  clear HR
  go_upto_block 1 with fail
  go_cut [7] from 10 to 74 (λv7 wx=>∃v:Int,Hid (E8 s a more 1 c0=some v)/\v7=.int .i64 v/\0<=v/\v<=8388607/\w=wx)
  case first=>
   go_wp2_with fail;go_loop [7,10] (λv7 v10=>∃(k:Nat) (acc:Int),1<=k/\k<=more+1/\0<=acc/\acc<=8388607/\Hid ((k=1->acc<=31)/\(k=2->acc<=2047)/\(k=3->acc<=131071))/\Hid (E8 s a (more+1-k) k acc=E8 s a more 1 c0)/\v10=.int .i64 k/\v7=.int .i64 acc) (λ_ v10=>more+1-(intOf v10).toNat)
   case atStart=>exact⟨1,c0,Om,Om,Om,Om,⟨Om,Om,Om⟩,rfl,rfl,rfl⟩
   obtain⟨k,acc,hk1,hk,ha0,ha1,HB,HK,rfl,rfl⟩:=hrel;by_cases hle:(k:Int)<=(more:Int)
   .have hak:a+k<s.size:=Om
    have eak:=HS.out (a+k) hak;have haki:(a:Int)+(k:Int)<(s.size:Int):=Om;have hcf:E8 s a (more+1-k) k acc=if 128<=AA s (a+k)/\AA s (a+k)<=191 then E8 s a (more-k) (k+1) (acc*64+AA s (a+k)-128) else none:=by rw[show more+1-k=(more-k)+1 by omega];rfl
    have hin:=HI.out (a+k);obtain⟨i0,i1⟩:=hin;by_cases hx:128<=AA s (a+k)
    .by_cases hy:AA s (a+k)<=191
     .rw[if_pos ⟨hx,hy⟩]at hcf
      have HK2:=Hd (hcf.symm.trans HK.out);have hB:=HB.out;have hacc:acc<=131071:=Om;have HB2:Hid ((k+1=1->acc*64+AA s (a+k)-128<=31)/\(k+1=2->acc*64+AA s (a+k)-128<=2047)/\(k+1=3->acc*64+AA s (a+k)-128<=131071)):=Hd ⟨Om,Om,Om⟩;clear hcf HK HB hB;have hnn:¬AA s (a+k)<128:=Om;have hnm:¬191<AA s (a+k):=Om;generalize AA s (a+k)=d at *;go_wp2_with fail;go_round
      case rel=>exact⟨k+1,acc*64+d-128,Om,Om,Om,Om,HB2,by rw[show more+1-(k+1)=more-k by omega];exact HK2,by go_num,rfl⟩
      simp[intOf];omega
     rw[if_neg (λh=>hy h.2)]at hcf;obtain rfl:R=(65533,1,false):=by rw[HR2.out,<-HK.out,hcf];rfl
     clear hcf HK HR2 HB;have hnm:191<AA s (a+k):=Om;have hnn:¬AA s (a+k)<128:=Om;generalize AA s (a+k)=d at *;go_wp2_with fail;go_ret3;exact⟨rfl,rfl⟩
    rw[if_neg (λh=>hx h.1)]at hcf;obtain rfl:R=(65533,1,false):=by rw[HR2.out,<-HK.out,hcf];rfl
    clear hcf HK HR2 HB;have hnn:AA s (a+k)<128:=Om;generalize AA s (a+k)=d at *;go_wp2_with fail;go_ret3;exact⟨rfl,rfl⟩
   have HV:=Hd (show E8 s a more 1 c0=some acc by rw[<-HK.out,show more+1-k=0 by omega];rfl);clear HK HB;go_wp2_with fail;go_meet;exact⟨acc,HV,rfl,ha0,ha1,rfl⟩
  obtain⟨v,HV,rfl,hv0,hv1,rfl⟩:=hcut
  have HR3:=Hd (show R=if v<least\/1114111<v\/AC9 v=true then(65533,1,false) else(v,more+1,true) by rw[HR2.out,HV.out];rfl)
  clear HR2 HV HS HI
  have HH:=Hd (λW=>WE v W)
  have HLo:=Hd (λW=>XJ v W)
  by_cases x1:v<least
  .obtain rfl:R=(65533,1,false):=HR3.out.trans (if_pos (.inl x1))
   clear HR3;go_wp2_with fail;go_ret3;exact⟨rfl,rfl⟩
  by_cases x2:1114111<v
  .obtain rfl:R=(65533,1,false):=HR3.out.trans (if_pos (.inr (.inl x2)))
   clear HR3;go_wp2_with fail;go_ret3;exact⟨rfl,rfl⟩
  have hsv:AC9 v=((decide (55296<=v)&&decide (v<=56319))||(decide (56320<=v)&&decide (v<=57343))):=by unfold AC9;rw[Bool.eq_iff_iff];simp;omega
  cases hh:(decide (55296<=v)&&decide (v<=56319)) with
  |true=>
   obtain rfl:R=(65533,1,false):=HR3.out.trans (if_pos (.inr (.inr (by rw[hsv,hh];rfl))))
   have HQ:=Hd hh
   clear HR3 hsv hh
   go_wp2_with (first|(go_at_call 91;refine(HH.out _).mono ?_;rintro e w' ⟨rfl,rfl⟩;rw[HQ.out]))
   go_ret3
   exact⟨rfl,rfl⟩
  |false=>
   have HQ:=Hd hh
   cases hl:(decide (56320<=v)&&decide (v<=57343)) with
   |true=>
    obtain rfl:R=(65533,1,false):=HR3.out.trans (if_pos (.inr (.inr (by rw[hsv,hh,hl];rfl))))
    have HQ2:=Hd hl
    clear HR3 hsv hh hl
    go_wp2_with (first|(go_at_call 91;refine(HH.out _).mono ?_;rintro e w' ⟨rfl,rfl⟩;rw[HQ.out])|(go_at_call 92;refine(HLo.out _).mono ?_;rintro e w' ⟨rfl,rfl⟩;rw[HQ2.out]))
    go_ret3
    exact⟨rfl,rfl⟩
   |false=>
    obtain rfl:R=(v,more+1,true):=HR3.out.trans (if_neg (by rw[hsv,hh,hl];simp;omega))
    have HQ2:=Hd hl
    clear HR3 hsv hh hl
    go_wp2_with (first|(go_at_call 91;refine(HH.out _).mono ?_;rintro e w' ⟨rfl,rfl⟩;rw[HQ.out])|(go_at_call 92;refine(HLo.out _).mono ?_;rintro e w' ⟨rfl,rfl⟩;rw[HQ2.out]))
    go_ret3
    exact⟨rfl,rfl⟩
theorem GX(s:ByteArray)(a:Nat):1<=(BN s a).2.1:=by
 unfold BN;split
 .simp
 split
 .simp
 split
 .simp
 unfold O2;split
 .simp
 split<;>simp
theorem QK(s:ByteArray)(a:Nat)(ha:a<s.size)(h:(BN s a).2.2=true):a+(BN s a).2.1<=s.size:=by
 unfold BN at h ⊢;split
 .simp;omega
 rename_i h1;rw[if_neg h1]at h;split
 .simp;omega
 rename_i more least c0 hL;rw[hL]at h;simp only at h;split
 .simp;omega
 rename_i h2;rw[if_neg h2]at h;unfold O2 at h ⊢;split
 .simp;omega
 split<;>(simp;omega)
def EW(s:ByteArray)(a:Nat):Bool:=if h:a<s.size then(if (BN s a).2.2=true then EW s (a+(BN s a).2.1) else false) else true
 termination_by s.size-a
 decreasing_by have:=GX s a;omega
def ABd(s:ByteArray):Bool:=EW s 0
theorem IX{s:ByteArray}{a:Nat}(h:¬a<s.size):EW s a=true:=by unfold EW;rw[dif_neg h]
theorem I6{s:ByteArray}{a:Nat}(h:a<s.size)(h1:(BN s a).2.2=false):EW s a=false:=by unfold EW;rw[dif_pos h,if_neg (by simp[h1])]
theorem FK{s:ByteArray}{a:Nat}(h:a<s.size)(h1:(BN s a).2.2=true):EW s a=EW s (a+(BN s a).2.1):=by
 conv=>lhs;unfold EW
 rw[dif_pos h,if_pos h1]
theorem AD4(s:ByteArray)(hs:s.size<=100000)(w:World):Calls Tryz.prog 30 #[.string s] w λe w'=>e=.returned (.bool (ABd s))/\w=w':=by
 unfold ABd;generalize hR:EW s 0=R;have HR:=Hd hR;clear hR;go_enter Tryz.func30,Tryz.ntmps30;go_wp2_with fail;go_loop [3] (λi=>∃k:Nat,k<=s.size/\Hid (EW s k=R)/\i=.int .i64 k) (λi=>s.size-(intOf i).toNat)
 case atStart=>exact⟨0,Nat.zero_le _,HR,rfl⟩
 obtain⟨k,hk,HK,rfl⟩:=hrel;clear HR;by_cases hlt:(k:Int)<(s.size:Int)
 .have hks:k<s.size:=Om
  have HC:=Hd (TG s hs k hks w);have hp:=GX s k;have hl:=QK s k hks
  cases hx:(BN s k).2.2 with
  |true=>
   have HK2:=Hd (show EW s (k+(BN s k).2.1)=R by rw[<-HK.out,FK hks hx]);have hle:=hl hx;have hcv:AB2 (BN s k)=.tuple #[.int .i64 (BN s k).1,.int .i64 (BN s k).2.1,.bool true]:=by unfold AB2;rw[hx]
   have HCV:=Hd hcv;clear HK hx hl hcv;generalize (BN s k).2.1=m at *;generalize (BN s k).1=c at *;go_wp2_with (go_at_call 50;refine HC.out.mono ?_;rw[HCV.out];rintro e w' ⟨rfl,rfl⟩);go_round
   case rel=>exact⟨k+m,Om,HK2,by go_num⟩
   simp[intOf];omega
  |false=>
   obtain rfl:R=false:=by rw[<-HK.out];exact I6 hks hx
   have hcv:AB2 (BN s k)=.tuple #[.int .i64 (BN s k).1,.int .i64 (BN s k).2.1,.bool false]:=by unfold AB2;rw[hx]
   have HCV:=Hd hcv;clear HK hx hl hcv;generalize (BN s k).2.1=m at *;generalize (BN s k).1=c at *;go_wp2_with (go_at_call 50;refine HC.out.mono ?_;rw[HCV.out];rintro e w' ⟨rfl,rfl⟩);go_ret;exact⟨rfl,rfl⟩
 obtain rfl:R=true:=by rw[<-HK.out];exact IX Om
 clear HK;go_wp2_with fail;go_ret;exact⟨rfl,rfl⟩
def IM(c:Int):Nat->Nat->Option Nat
 |0,_=>none
 |m+1,k=>if FZ.getD k 0=c then some k else IM c m (k+1)
def GJ(c:Int):Option Nat:=IM c 8 0
def PE(r:Option Nat)(kind:Nat):Nat×Nat×Bool:=match r with|some n=>(n,kind,true)|none=>(0,1,true)
def T8(s:ByteArray)(i:Nat):Option Nat:=
 if h:i<s.size/\AX (AA s i)=false then(if 128<=AA s i then none else T8 s (i+1)) else some i
 termination_by s.size-i
theorem MO{s:ByteArray}{i:Nat}(h:¬(i<s.size/\AX (AA s i)=false)):T8 s i=some i:=by unfold T8;rw[dif_neg h]
theorem OX{s:ByteArray}{i:Nat}(h:i<s.size/\AX (AA s i)=false)(h1:128<=AA s i):T8 s i=none:=by unfold T8;rw[dif_pos h,if_pos h1]
theorem KY{s:ByteArray}{i:Nat}(h:i<s.size/\AX (AA s i)=false)(h1:¬128<=AA s i):T8 s i=T8 s (i+1):=by
 conv=>lhs;unfold T8
 rw[dif_pos h,if_neg h1]
def TU:ByteArray:=⟨#[100,111,117,98,108,101]⟩
def PP:ByteArray:=⟨#[116,114,117,101]⟩
def LQ:ByteArray:=⟨#[102,97,108,115,101]⟩
def OD(s:ByteArray)(n:Nat):Nat×Nat×Bool:=
 if AA s 0=64/\OO (s.extract 0 n)=true/\¬(N5 (s.extract 1 n)=true/\RQ (s.extract 1 n)=true) then(0,0,false)
 else if (CA (s.extract 0 n)).2=false/\(AA s 0≠64\/N5 (s.extract 1 n)=false)/\s.extract 0 n≠TU then(0,1,true)
 else(n,13,true)
def PG(s:ByteArray)(r:Nat×Bool):Nat×Nat×Bool:=
 if r.2=false\/(r.1<s.size/\(BX (AA s r.1)=true\/AA s r.1=46\/AA s r.1=43\/AA s r.1=45\/128<=AA s r.1)) then(0,0,false)
 else if r.1<s.size/\(B9 (AA s r.1)=true\/AA s r.1=95) then(0,1,decide (AA s r.1≠95))
 else(r.1,2,true)
def B3(s:ByteArray):Nat×Nat×Bool:=
 match GJ (AA s 0) with
 |some k=>(1,5+k,true)
 |none=>
  if AA s 0=43\/AA s 0=45\/BX (AA s 0)=true then PG s (CT s)
  else if AA s 0=34\/AA s 0=39 then PE (CV s (AA s 0) 1) 3
  else if AA s 0=98/\1<s.size/\(AA s 1=34\/AA s 1=39) then PE (CV s (AA s 1) 2) 14
  else if AA s 0=116/\4<=s.size/\s.extract 0 4=PP then DJ s 4
  else if AA s 0=102/\5<=s.size/\s.extract 0 5=LQ then DJ s 5
  else match T8 s 0 with
   |none=>(0,0,false)
   |some n=>OD s n
def AMc(s:ByteArray)(w:World)(en:Ending)(w':World):Prop:=en=.returned (WK (B3 s))/\Below w.heap.size w w'
theorem AB5(k:Nat)(hk:k<8):AA ⟨#[91,93,123,125,60,62,44,58]⟩ k=FZ.getD k 0:=by
 match k,hk with
 |0,_=>rfl
 |1,_=>rfl
 |2,_=>rfl
 |3,_=>rfl
 |4,_=>rfl
 |5,_=>rfl
 |6,_=>rfl
 |7,_=>rfl
theorem B7{B:Nat}{a w:World}(h:Below B a w)(n:Nat):Below B a (w.drewN n):=⟨h.os,h.tape,h.output,h.size,h.block⟩
theorem Q6{c:Int}{m k i:Nat}(h:IM c m k=some i):k<=i/\i<k+m:=by
 induction m generalizing k with
 |zero=>simp[IM]at h
 |succ m ih=>
  unfold IM at h;split at h
  .simp at h;omega
  have:=ih h;omega
theorem AC0(s:ByteArray)(hs:s.size<=100000)(hp:0<s.size)(i:Nat)(hi:GJ (AA s 0)=some i)(w:World):Calls Tryz.prog 33 #[.string s] w (AMc s w):=by
 have e0:=AJ hp;have hpi:(0:Int)<(s.size:Int):=Om;have HR:=Hd (show B3 s=(1,5+i,true) by unfold B3;rw[hi]);have HI:=Hd (show IM (AA s 0) 8 0=some i from hi);clear hi;generalize AA s 0=c at *;go_enter Tryz.func33,Tryz.ntmps33;go_wp2_with fail;go_loopw [5] (λv wr=>∃k:Nat,k<=8/\v=.int .i64 k/\Hid (IM c (8-k) k=some i)/\Below w.heap.size w wr) (λv _=>8-(intOf v).toNat)
 case atStart=>exact⟨0,Om,rfl,HI,Bl⟩
 obtain⟨k,hk,rfl,HK,hbel⟩:=hrel;by_cases hlt:(k:Int)<8
 .have hk8:k<8:=Om
  have hsf:IM c (8-k) k=if FZ.getD k 0=c then some k else IM c (7-k) (k+1):=by rw[show 8-k=(7-k)+1 by omega];rfl
  have ek:=AJ (s:=⟨#[91,93,123,125,60,62,44,58]⟩) (i:=k) hk8;rw[AB5 k hk8]at ek;by_cases hq:FZ.getD k 0=c
  .obtain rfl:k=i:=by
    have h1:=HK.out;rw[hsf,if_pos hq]at h1;simpa using h1
   have t1:(c==FZ.getD k 0)=true:=by rw[beq_iff_eq];exact hq.symm
   clear HK hsf HI hq;generalize FZ.getD k 0=d at *;go_wp2_with fail;go_quiet (fail);go_wp2_with fail;go_ret3;exact⟨by rw[HR.out];simp[WK],B7 hbel _⟩
  have t1:(c==FZ.getD k 0)=false:=by rw[Bn];exactλh=>hq h.symm
  have HK2:=Hd (show IM c (8-(k+1)) (k+1)=some i by have h1:=HK.out;rw[hsf,if_neg hq]at h1;rw[show 8-(k+1)=7-k by omega];exact h1)
  clear HK hsf HI hq;generalize FZ.getD k 0=d at *;go_wp2_with fail;go_quiet (fail);go_wp2_with fail;go_roundw
  case rel=>exact⟨k+1,Om,by go_num,HK2,B7 hbel _⟩
  simp[intOf];omega
 obtain rfl:k=8:=Om;have:=HK.out;simp[IM]at this
