/- Lemmas for FnVtSigsEntry; no conditions. -/
import Derived.Test.YtbnbadcnfchdhaaGreatDoorP21
import Derived.Laws.RangeAny
set_option maxRecDepth 100000
set_option maxHeartbeats 16000000
set_option linter.all false
namespace Go.Proofs.YtbnbadcnfchdhaaGreatDoor
open Go.RowKit
theorem BM(r:Int)(h0:-1<=r)(h1:r<128)(w:World):Calls Tryz.prog 131 #[.int .i32 r] w λe w'=>e=.returned (.bool (AX r))/\w=w':=by
 by_cases e9:r=9
 .subst e9
  go_enter Tryz.func131,Tryz.ntmps131;go_wp2_with fail;go_ret;exact⟨rfl,rfl⟩
 by_cases e10:r=10
 .subst e10
  go_enter Tryz.func131,Tryz.ntmps131;go_wp2_with fail;go_ret;exact⟨rfl,rfl⟩
 by_cases e11:r=11
 .subst e11
  go_enter Tryz.func131,Tryz.ntmps131;go_wp2_with fail;go_ret;exact⟨rfl,rfl⟩
 by_cases e12:r=12
 .subst e12
  go_enter Tryz.func131,Tryz.ntmps131;go_wp2_with fail;go_ret;exact⟨rfl,rfl⟩
 by_cases e13:r=13
 .subst e13
  go_enter Tryz.func131,Tryz.ntmps131;go_wp2_with fail;go_ret;exact⟨rfl,rfl⟩
 by_cases e32:r=32
 .subst e32
  go_enter Tryz.func131,Tryz.ntmps131;go_wp2_with fail;go_ret;exact⟨rfl,rfl⟩
 have hb:AX r=false:=by unfold AX;simp;omega
 have u9:((r:Int)==9)=false:=Bq;have u10:((r:Int)==10)=false:=Bq;have u11:((r:Int)==11)=false:=Bq;have u12:((r:Int)==12)=false:=Bq;have u13:((r:Int)==13)=false:=Bq;have u32:((r:Int)==32)=false:=Bq;have u133:((r:Int)==133)=false:=Bq;have u160:((r:Int)==160)=false:=Bq;have u5760:((r:Int)==5760)=false:=Bq;have u8232:((r:Int)==8232)=false:=Bq;have u8233:((r:Int)==8233)=false:=Bq;have u8239:((r:Int)==8239)=false:=Bq;have u8287:((r:Int)==8287)=false:=Bq;have u12288:((r:Int)==12288)=false:=Bq;have v0:¬(8192:Int)<=r:=Om;have HB:=Hd hb;clear hb e9 e10 e11 e12 e13 e32;go_enter Tryz.func131,Tryz.ntmps131;go_wp2_with fail;go_ret;exact⟨by rw[HB.out]<;>rfl,rfl⟩
theorem BW(r:Int)(h0:-1<=r)(h1:r<128)(w:World):Calls Tryz.prog 133 #[.int .i32 r] w λe w'=>e=.returned (.bool (BX r))/\w=w':=by
 have u178:((r:Int)==178)=false:=Bq;have u179:((r:Int)==179)=false:=Bq;have u185:((r:Int)==185)=false:=Bq;have u188:((r:Int)==188)=false:=Bq;have u189:((r:Int)==189)=false:=Bq;have u190:((r:Int)==190)=false:=Bq;by_cases hA:48<=r
 .by_cases hB:r<=57
  .have HD:=Hd (show BX r=true by unfold BX;simp;omega)
   go_enter Tryz.func133,Tryz.ntmps133;go_wp2_with fail;go_ret;exact⟨by rw[HD.out]<;>rfl,rfl⟩
  have HD:=Hd (show BX r=false by unfold BX;simp;omega);go_enter Tryz.func133,Tryz.ntmps133;go_wp2_with fail;go_ret;exact⟨by rw[HD.out]<;>rfl,rfl⟩
 have HD:=Hd (show BX r=false by unfold BX;simp;omega);go_enter Tryz.func133,Tryz.ntmps133;go_wp2_with fail;go_ret;exact⟨by rw[HD.out]<;>rfl,rfl⟩
theorem UP(r:Int)(h0:-1<=r)(h1:r<128)(w:World):Calls Tryz.prog 152 #[.int .i32 r] w λe w'=>e=.returned (.bool (B9 r))/\w=w':=by
 have u170:((r:Int)==170)=false:=Bq;have u181:((r:Int)==181)=false:=Bq;have u186:((r:Int)==186)=false:=Bq;have u215:((r:Int)==215)=false:=Bq;have u247:((r:Int)==247)=false:=Bq;have v192:¬(192:Int)<=r:=Om;by_cases hA:97<=r
 .by_cases hB:r<=122
  .skip
   have HD:=Hd (show B9 r=true by unfold B9;simp;omega);go_enter Tryz.func152,Tryz.ntmps152;go_wp2_with fail;go_ret;exact⟨by rw[HD.out]<;>rfl,rfl⟩
  have hC:(65:Int)<=r:=Om;have hD:¬r<=90:=Om;have HD:=Hd (show B9 r=false by unfold B9;simp;omega);go_enter Tryz.func152,Tryz.ntmps152;go_wp2_with fail;go_ret;exact⟨by rw[HD.out]<;>rfl,rfl⟩
 by_cases hC:65<=r
 .by_cases hD:r<=90
  .skip
   have HD:=Hd (show B9 r=true by unfold B9;simp;omega);go_enter Tryz.func152,Tryz.ntmps152;go_wp2_with fail;go_ret;exact⟨by rw[HD.out]<;>rfl,rfl⟩
  skip;have HD:=Hd (show B9 r=false by unfold B9;simp;omega);go_enter Tryz.func152,Tryz.ntmps152;go_wp2_with fail;go_ret;exact⟨by rw[HD.out]<;>rfl,rfl⟩
 skip;have HD:=Hd (show B9 r=false by unfold B9;simp;omega);go_enter Tryz.func152,Tryz.ntmps152;go_wp2_with fail;go_ret;exact⟨by rw[HD.out]<;>rfl,rfl⟩
def RU(r:Int):Prop:=r=-1\/0<=r/\r<=1114111/\¬(55296<=r/\r<=57343)
theorem RD(v:ByteArray)(hv:v.size<=1000)(ha:∀i,i<v.size->AA v i<128)(r:Int)(hr:RU r)(w:World) :
 Calls Tryz.prog 172 #[.string v,.int .i32 r] w λe w'=>∃k:Int,e=.returned (.int .i64 k)/\decide (0<=k)=BT r v/\Below w.heap.size w w':=by
 rcases hr with rfl|⟨h0,h1,h2⟩
 .have hn:∀(m i:Nat),i+m=v.size->F3 (-1) v i=false:=by
   intro m;induction m with
   |zero=>intro i hi;exact KU Om
   |succ m ih=>intro i hi;rw[GY Om (by have:=(CJ v i).1;omega)];exact ih (i+1) Om
  have HN:=Hd (show BT (-1) v=false from hn v.size 0 Om);clear hn ha;go_enter Tryz.func172,Tryz.ntmps172;go_wp2_with fail;go_ret;exact⟨_,rfl,by rw[HN.out];decide,Bl⟩
 have hx:=Hd (λ(i:Nat) (h:i<v.size)=>AJ h)
 have HA:=Hd ha
 clear ha
 have hl0:¬r<0:=Om
 have hl1:¬(1114111:Int)<r:=Om
 have hnext:=λ(i:Nat) (hi:i<v.size) (h:(v[i]'hi).toNat<128) (ty:TypeId)=>run_next_ascii (P:=Tryz.prog) w v i ty hi h
 have hend:=λ(i:Nat) (hi:¬i<v.size) (ty:TypeId)=>run_next_end (P:=Tryz.prog) w v i ty hi
 have HNX:=Hd hnext
 have HNE:=Hd hend
 clear hnext hend
 go_enter Tryz.func172,Tryz.ntmps172
 go_upto_region 1 with fail
 go_cut [24] from 7 to 23 (λv24 wx=>v24=.bool false/\wx=w)
 case first=>
  by_cases hE:r=65533
  .have uE:((r:Int)!=65533)=false:=by rw[bne_eq_false_iff_eq];exact hE
   clear hE;go_wp2_with fail;go_meet;exact⟨rfl,rfl⟩
  have uE:((r:Int)!=65533)=true:=by rw[bne_iff_ne];exact hE
  clear hE;by_cases hS:(55296:Int)<=r
  .have hS2:¬r<=57343:=λh=>h2 ⟨hS,h⟩
   clear h2;go_wp2_with fail;go_meet;exact⟨rfl,rfl⟩
  clear h2;go_wp2_with fail;go_meet;exact⟨rfl,rfl⟩
 obtain⟨rfl,rfl⟩:=hcut
 clear h2
 go_wp2_with fail
 go_loopw [] (λwr=>∃i:Nat,i<=v.size/\wr=World.iter wc v i/\Hid (BT r v=F3 r v i)) (λwr=>v.size-World.iterPos wr wc.heap.size)
 case atStart=>exact⟨0,Nat.zero_le _,rfl,rfl⟩
 obtain⟨i,hi,rfl,HM⟩:=hrel
 by_cases hlt:i<v.size
 .have em:=hx.out i hlt
  have h128:(v[i]'hlt).toNat<128:=by have:=HA.out i hlt;omega
  have hnx:=HNX.out i hlt h128;clear HNX HNE;by_cases hq:AA v i=r
  .have HT:=Hd (HM.out.trans (MZ hlt hq))
   have uq:(((v[i]'hlt).toNat:Int)==r)=true:=by rw[beq_iff_eq];omega
   clear hq em;go_wp2_with fail;go_ret;exact⟨_,rfl,by rw[HT.out];exact decide_eq_true Om,Bl.alloc Nl _⟩
  have HM2:=Hd (HM.out.trans (GY hlt hq));have uq:(((v[i]'hlt).toNat:Int)==r)=false:=Bq;clear hq em HM;go_wp2_with fail;go_roundw
  case rel=>exact⟨i+1,Om,rfl,HM2⟩
  simp;omega
 have HT:=Hd (HM.out.trans (KU hlt))
 have hnx:=HNE.out i hlt
 clear HNX HNE HM
 go_wp2_with fail
 go_ret
 exact⟨_,rfl,by rw[HT.out];decide,Bl.alloc Nl _⟩
theorem JQ(v:ByteArray)(hv:v.size<=1000)(ha:∀i,i<v.size->AA v i<128)(r:Int)(hr:RU r)(w:World) :
 Calls Tryz.prog 151 #[.string v,.int .i32 r] w λe w'=>e=.returned (.bool (BT r v))/\Below w.heap.size w w':=by
 have HI:=Hd (λ(W:World)=>RD v hv ha r hr W)
 clear ha hr
 go_enter Tryz.func151,Tryz.ntmps151
 go_wp2_with (go_at_call 172;refine(HI.out _).mono ?_;rintro e w2 ⟨k,rfl,hk,hb⟩;have HK:=Hd hk;clear hk)
 go_ret
 exact⟨by rw[<-HK.out]<;>rfl,hb⟩
theorem ALz{p k:Nat}(h0:p<=100000)(h1:k<=100000):IntKind.i64.wrap ((p:Int)+(k:Int))=((p+k:Nat):Int):=by unfold IntKind.wrap;simp[IntKind.bits,IntKind.signed];omega
theorem EK{wx:World}{b:Nat}{v0 v1 v2 v3 v4:Value}{t:TypeId}(h:wx.heap[b]?=some (.cells #[v0,v1,v2,v3,v4] t (0,0))) :
 wx.cell? ⟨b,0,none⟩=some v0/\wx.cell? ⟨b,1,none⟩=some v1/\wx.cell? ⟨b,2,none⟩=some v2/\wx.cell? ⟨b,3,none⟩=some v3/\wx.cell? ⟨b,4,none⟩=some v4:=by
 simp[World.cell?,h]
theorem K9(t:ByteArray)(i:Nat)(h:i<t.size):((t.get! i).toNat:Int)=AA t i:=by
 have:t.get! i=t[i]'h:=by show t.data[i]! = _;rw[getElem!_pos t.data i h];rfl
 rw[this];exact AJ h
theorem J7(t:ByteArray)(h:0<t.size):(AA t 0<128->((Lib.decodeGo t).1:Int)=AA t 0/\(Lib.decodeGo t).2=1)/\
 (128<=AA t 0->128<=(Lib.decodeGo t).1/\1<=(Lib.decodeGo t).2/\(Lib.decodeGo t).2<=t.size/\∀i,i<(Lib.decodeGo t).2->128<=AA t i)/\RU ((Lib.decodeGo t).1:Int):=by
 unfold Lib.decodeGo
 rw[if_neg Om,Lib.decode_at,Nat.sub_zero]
 simp only[Nat.zero_add]
 have g0:=K9 t 0 h
 have k1:1<t.size->((t.get! 1).toNat:Int)=AA t 1:=λh=>K9 t 1 h
 have k2:2<t.size->((t.get! 2).toNat:Int)=AA t 2:=λh=>K9 t 2 h
 have k3:3<t.size->((t.get! 3).toNat:Int)=AA t 3:=λh=>K9 t 3 h
 have l0:=(t.get! 0).toNat_lt
 have l1:=(t.get! 1).toNat_lt
 have l2:=(t.get! 2).toNat_lt
 have l3:=(t.get! 3).toNat_lt
 generalize (t.get! 0).toNat=b0 at *
 generalize (t.get! 1).toNat=b1 at *
 generalize (t.get! 2).toNat=b2 at *
 generalize (t.get! 3).toNat=b3 at *
 have one:∀i,i<1->128<=b0->128<=AA t i:=λi hi hb=>by obtain rfl:i=0:=Om;omega
 unfold Lib.decodeN RU
 by_cases c0:b0<128
 .rw[if_pos c0];simp only;exact⟨λ_=>⟨g0,trivial⟩,Om,Om⟩
 rw[if_neg c0]
 by_cases c1:b0/32=6/\(1<t.size/\b1/64=2)
 .rw[if_pos c1]
  have:=k1 c1.2.1;by_cases d:b0%32*64+b1%64≥128
  .rw[if_pos d];simp only
   refine⟨Om,λ_=>⟨Om,Om,Om,λi hi=>?_⟩,Om⟩;have:i=0\/i=1:=Om;rcases this with rfl|rfl<;>omega
  rw[if_neg d];simp only;exact⟨Om,λ_=>⟨Om,Om,Om,λi hi=>one i hi Om⟩,Om⟩
 rw[if_neg c1]
 by_cases c2:b0/16=14/\(1<t.size/\b1/64=2)/\(2<t.size/\b2/64=2)
 .rw[if_pos c2]
  have:=k1 c2.2.1.1;have:=k2 c2.2.2.1;split
  .rename_i d
   simp only;refine⟨Om,λ_=>⟨Om,Om,Om,λi hi=>?_⟩,Om⟩;have:i=0\/i=1\/i=2:=Om;rcases this with rfl|rfl|rfl<;>omega
  simp only;exact⟨Om,λ_=>⟨Om,Om,Om,λi hi=>one i hi Om⟩,Om⟩
 rw[if_neg c2]
 by_cases c3:b0/8=30/\(1<t.size/\b1/64=2)/\(2<t.size/\b2/64=2)/\(3<t.size/\b3/64=2)
 .rw[if_pos c3]
  have:=k1 c3.2.1.1;have:=k2 c3.2.2.1.1;have:=k3 c3.2.2.2.1;split
  .rename_i d
   simp only;refine⟨Om,λ_=>⟨Om,Om,Om,λi hi=>?_⟩,Om⟩;have:i=0\/i=1\/i=2\/i=3:=Om;rcases this with rfl|rfl|rfl|rfl<;>omega
  simp only;exact⟨Om,λ_=>⟨Om,Om,Om,λi hi=>one i hi Om⟩,Om⟩
 rw[if_neg c3];simp only
 exact⟨Om,λ_=>⟨Om,Om,Om,λi hi=>one i hi Om⟩,Om⟩
def GF(w:World)(l:Nat)(s:ByteArray)(st p wd:Nat)(A:Option Addr)(n c:Nat):Prop:=
 w.heap[l]?=some (.cells #[.string s,.int .i64 st,.int .i64 p,.int .i64 wd,.slice A n c] 133 (0,0))
def AP(s:ByteArray)(p:Nat):Int×Nat:=if p<s.size then(((Lib.decodeGo (s.extract p s.size)).1:Int),(Lib.decodeGo (s.extract p s.size)).2) else(-1,0)
def AIp(w:World)(l:Nat)(s:ByteArray)(st p:Nat)(A:Option Addr)(n c:Nat)(en:Ending)(w':World):Prop:=
 en=.returned (.int .i32 (AP s p).1)/\GF w' l s st (p+(AP s p).2) (AP s p).2 A n c/\w.grownBy w' (some l)
theorem KJ(s:ByteArray)(p:Nat)(hp:p<=s.size):p+(AP s p).2<=s.size:=by
 unfold AP;split
 .rename_i h
  have hz:(s.extract p s.size).size=s.size-p:=AU _ _ hp;obtain⟨h1,h2,_⟩:=J7 (s.extract p s.size) Om;by_cases hc:AA (s.extract p s.size) 0<128
  .have:=(h1 hc).2;simp only;omega
  have:=(h2 Om).2.2.1;simp only;omega
 simp only;omega
theorem P5{w:World}{l:Nat}{s:ByteArray}{st p wd:Nat}{A:Option Addr}{n c:Nat}(h:GF w l s st p wd A n c)(hs:s.size<=100000)(hp:p<=s.size)(hU:Lib.Utf8Tabs 7 8 w)(hl7:l≠7)(hl8:l≠8) :
 Calls Tryz.prog 126 #[.pointer (some ⟨l,0,none⟩)] w (AIp w l s st p A n c):=by
 have hlt:l<w.heap.size:=(Array.getElem?_eq_some_iff.1 h).1
 obtain⟨c0,c1,c2,c3,c4⟩:=EK h
 have f2:=AB h 2
 have f3:=AB h 3
 have HL:=Hd h
 have hle:=KJ s p hp
 have HU:=Hd hU
 clear h hU
 by_cases hlt2:(p:Int)<(s.size:Int)
 .have hge:¬(s.size:Int)<=(p:Int):=Om
  have hR:AP s p=(((Lib.decodeGo (s.extract p s.size)).1:Int),(Lib.decodeGo (s.extract p s.size)).2):=by unfold AP;rw[if_pos Om]
  unfold AIp;rw[hR]at hle ⊢;have hpi:(0:Int)<=(p:Int):=Om;have hpn:(p:Int)<=(s.size:Int):=Om;have HD:=Hd (λ(W:World) (hW:Lib.Utf8Tabs 7 8 W)=>Tryz.utf8_DecodeRuneInString (s.extract p s.size) W hW);clear hR;generalize (Lib.decodeGo (s.extract p s.size)).1=r at *;generalize (Lib.decodeGo (s.extract p s.size)).2=k at *;go_enter Tryz.func126,Tryz.ntmps126;go_upto_region 2 with fail;go_quiet (fail);rename_i nq;have L1:GF (w.drewN nq) l s st p wd A n c:=HL.out;have B1:Below w.heap.size w (w.drewN nq):=B7 Bl nq;have U1:=Utf8Tabs_below HU.out B1;go_upto_region 5 with fail;generalize w.drewN nq=w1 at *;have HL1:=Hd L1;have HB1:=Hd B1;have HU1:=Hd U1;have hl1:l<w1.heap.size:=(Array.getElem?_eq_some_iff.1 L1).1;clear L1 B1 U1 HL HU c0 c1 c2 c3 c4 f2 f3;obtain⟨c0,c1,c2,c3,c4⟩:=EK HL1.out;have f2:=AB HL1.out 2;have f3:=AB HL1.out 3;have HSK:=Hd (λ(W:World) (hW:Below w1.heap.size w1 W)=>(⟨(hW.cell (p:=⟨l,0,none⟩) hl1).trans c0,(hW.cell (p:=⟨l,2,none⟩) hl1).trans c2⟩:W.cell? ⟨l,0,none⟩=some (.string s)/\W.cell? ⟨l,2,none⟩=some (.int .i64 p)));go_region_held3 (λW=>W.cell? ⟨l,0,none⟩=some (.string s)/\W.cell? ⟨l,2,none⟩=some (.int .i64 p)) (first|exact HSK.out _ Bl.drew|exact HSK.out _ HB2.out|exact⟨(EK (show GF (w2.setCell ⟨l,3,none⟩ (.int .i64 k)) l s st p k A n c from AH HL2.out 3 _)).1,(EK (show GF (w2.setCell ⟨l,3,none⟩ (.int .i64 k)) l s st p k A n c from AH HL2.out 3 _)).2.2.1⟩) ((go_at_call 123;refine(HD.out _ (Utf8Tabs_below HU1.out Bl.drew)).mono ?_;rintro e w2 ⟨rfl,hb2⟩;have HB2:=Hd (((Below.refl w1.heap.size w1).drew).trans hb2);have hl2:=(HB2.out.block l hl1).trans HL1.out;have HL2:=Hd hl2;obtain⟨d0,d1,d2,d3,d4⟩:=EK hl2;have g3:=AB hl2 3;clear hb2 hl2))
  all_goals
   have L3:GF (w2.setCell ⟨l,3,none⟩ (.int .i64 k)) l s st p k A n c:=AH HL2.out 3 _;have G3:w.grownBy (w2.setCell ⟨l,3,none⟩ (.int .i64 k)) (some l):=BS (DN _ (HB1.out.trans (HB2.out.mono HB1.out.size))) ⟨l,3,none⟩ _ (.inr rfl);have HL3:=Hd L3;have HG3:=Hd G3;clear L3 G3 c0 c1 c2 c3 c4 f2 f3 d0 d1 d2 d3 d4 g3 HL1 HU1 HSK HL2;go_upto_region 6 with fail;generalize w2.setCell ⟨l,3,none⟩ (.int .i64 k)=w3 at *;obtain⟨c0,c1,c2,c3,c4⟩:=EK HL3.out;have f2:=AB HL3.out 2;have hwr:IntKind.i64.wrap ((p:Int)+(k:Int))=((p+k:Nat):Int):=ALz Om Om;have hcast:((p+k:Nat):Int)=(p:Int)+(k:Int):=Om;go_region
   all_goals
    go_wp2_with fail;go_ret;refine⟨rfl,?_,?_⟩
    .first
     |exact AH HL3.out 2 _
     |(show GF _ l s st (p+k) k A n c;unfold GF;rw[hcast];exact AH HL3.out 2 _)
    .first
     |exact BS HG3.out ⟨l,2,none⟩ _ (.inr rfl)
     |exact I7 (BS HG3.out ⟨l,2,none⟩ _ (.inr rfl))
     |exact BS (I7 HG3.out) ⟨l,2,none⟩ _ (.inr rfl)
 have hge:(s.size:Int)<=(p:Int):=Om
 have hR:AP s p=(-1,0):=by unfold AP;rw[if_neg Om]
 unfold AIp
 rw[hR]
 clear hR
 go_enter Tryz.func126,Tryz.ntmps126
 go_upto_region 2 with fail
 go_quiet (fail)
 rename_i nq
 have L1:GF (w.drewN nq) l s st p wd A n c:=HL.out
 have B1:Below w.heap.size w (w.drewN nq):=B7 Bl nq
 go_upto_region 3 with fail
 generalize w.drewN nq=w1 at *
 have HL1:=Hd L1
 have HB1:=Hd B1
 clear L1 B1 HL HU c0 c1 c2 c3 c4 f2 f3
 obtain⟨c0,c1,c2,c3,c4⟩:=EK HL1.out
 have f3:=AB HL1.out 3
 go_wp2_with fail
 go_ret
 exact⟨rfl,AH HL1.out 3 _,BS (DN _ HB1.out) ⟨l,3,none⟩ _ (.inr rfl)⟩
theorem CF{z:Int}(h0:-9223372036854775808<=z)(h1:z<=9223372036854775807):IntKind.i64.wrap z=z:=by unfold IntKind.wrap;simp[IntKind.bits,IntKind.signed];omega
theorem NL{w:World}{l:Nat}{s:ByteArray}{st p wd:Nat}{A:Option Addr}{n c:Nat}(h:GF w l s st p wd A n c)(hwd:wd<=p)(hp:p<=100000) :
 Calls Tryz.prog 128 #[.pointer (some ⟨l,0,none⟩)] w λe w'=>e=.returned (.tuple #[])/\GF w' l s st (p-wd) wd A n c/\w.grownBy w' (some l):=by
 obtain⟨c0,c1,c2,c3,c4⟩:=EK h
 have f1:=AB h 1
 have f2:=AB h 2
 have f3:=AB h 3
 have f4:=AB h 4
 have HL:=Hd h
 clear h
 have hcast:((p-wd:Nat):Int)=(p:Int)-(wd:Int):=Om
 have hwr:IntKind.i64.wrap ((p:Int)-(wd:Int))=(p:Int)-(wd:Int):=CF Om Om
 go_enter Tryz.func128,Tryz.ntmps128
 go_region
 all_goals
  go_wp2_with fail;go_end0;refine⟨rfl,?_,?_⟩
  .first
   |exact AH HL.out 2 _
   |(unfold GF;rw[hcast];exact AH HL.out 2 _)
  .first
   |exact BS (M6 _ _) ⟨l,2,none⟩ _ (.inr rfl)
   |exact I7 (BS (M6 _ _) ⟨l,2,none⟩ _ (.inr rfl))
   |exact BS (I7 (M6 _ _)) ⟨l,2,none⟩ _ (.inr rfl)
theorem YH{w:World}{l:Nat}{s:ByteArray}{st p wd:Nat}{A:Option Addr}{n c:Nat}(h:GF w l s st p wd A n c) :
 Calls Tryz.prog 132 #[.pointer (some ⟨l,0,none⟩)] w λe w'=>e=.returned (.tuple #[])/\GF w' l s p p wd A n c/\w.grownBy w' (some l):=by
 obtain⟨c0,c1,c2,c3,c4⟩:=EK h
 have f1:=AB h 1
 have f2:=AB h 2
 have f3:=AB h 3
 have f4:=AB h 4
 have HL:=Hd h
 clear h
 go_enter Tryz.func132,Tryz.ntmps132
 go_wp2_with fail
 go_end0
 exact⟨rfl,AH HL.out 1 _,BS (M6 _ _) ⟨l,1,none⟩ _ (.inr rfl)⟩
theorem GU{w w':World}{l:Nat}(h:Lib.Utf8Tabs 7 8 w)(hg:w.grownBy w' (some l))(h7:l≠7)(h8:l≠8):Lib.Utf8Tabs 7 8 w':=by
 have hc:∀(b o:Nat) (v:Value),b≠l->w.cell? ⟨b,o,none⟩=some v->w'.cell? ⟨b,o,none⟩=some v:=λb o v hb hv=>by have hlt:=World.block_lt_of_cell? w _ hv;exact(World.cell?_of_block (hg.block b hlt (by intro e;simp at e;omega))).trans hv
 exact⟨λc hcc=>hc _ _ _ Om (h.1 c hcc),λi hi=>⟨hc _ _ _ Om (h.2 i hi).1,hc _ _ _ Om (h.2 i hi).2⟩⟩
theorem ACw{w:World}{l:Nat}{s:ByteArray}{st p wd:Nat}{A:Option Addr}{n c:Nat}(h:GF w l s st p wd A n c)(hs:s.size<=100000)(hp:p<=s.size)(hU:Lib.Utf8Tabs 7 8 w)(hl7:l≠7)(hl8:l≠8) :
 Calls Tryz.prog 135 #[.pointer (some ⟨l,0,none⟩)] w λe w'=>e=.returned (.int .i32 (AP s p).1)/\GF w' l s st p (AP s p).2 A n c/\w.grownBy w' (some l):=by
 have HN:=Hd (P5 h hs hp hU hl7 hl8)
 have hle:=KJ s p hp
 clear h hU
 generalize hR:AP s p=R at *
 obtain⟨r,k⟩:=R
 have HR:=Hd hR
 simp only at hle
 clear hR
 go_enter Tryz.func135,Tryz.ntmps135
 go_wp2_with (first|(go_at_call 126;refine HN.out.mono ?_;rintro e w2 ⟨he,hl,hg⟩;rw[HR.out]at he hl;simp only at he hl;subst he;have HL:=Hd hl;have HG:=Hd hg;clear hl hg)|(go_at_call 128;refine(NL HL.out Om Om).mono ?_;rintro e w3 ⟨rfl,hl,hg⟩;have HL3:=Hd hl;have HG3:=Hd hg;clear hl hg))
 go_ret
 exact⟨rfl,by have h:=HL3.out;rw[Nat.add_sub_cancel]at h;exact h,EL HG.out HG3.out⟩
def AHa(s:ByteArray)(p:Nat)(v:ByteArray):Bool:=BT (AP s p).1 v
theorem XL(s:ByteArray)(p:Nat):RU (AP s p).1:=by
 unfold AP;split
 .rename_i h
  exact(J7 (s.extract p s.size) (by rw[AU _ _ Om];omega)).2.2
 exact .inl rfl
theorem Y5{w:World}{l:Nat}{s:ByteArray}{st p wd:Nat}{A:Option Addr}{n c:Nat}(h:GF w l s st p wd A n c)(hs:s.size<=100000)(hp:p<=s.size)(hU:Lib.Utf8Tabs 7 8 w)(hl7:l≠7)(hl8:l≠8)(v:ByteArray)(hv:v.size<=1000)(ha:∀i,i<v.size->AA v i<128) :
 Calls Tryz.prog 149 #[.pointer (some ⟨l,0,none⟩),.string v] w λe w'=>e=.returned (.bool (AHa s p v))/\GF w' l s st (if AHa s p v then p+(AP s p).2 else p) (AP s p).2 A n c/\w.grownBy w' (some l):=by
 have HN:=Hd (P5 h hs hp hU hl7 hl8)
 have hle:=KJ s p hp
 have hrk:=XL s p
 have HZ:=Hd (λ(W:World)=>JQ v hv ha (AP s p).1 hrk W)
 clear h hU ha hrk
 unfold AHa
 generalize hR:AP s p=R at *
 obtain⟨r,k⟩:=R
 have HR:=Hd hR
 simp only at hle HZ ⊢
 clear hR
 generalize BT r v=ab at *
 cases ab with
 |true=>
  go_enter Tryz.func149,Tryz.ntmps149
  go_wp2_with (first|(go_at_call 126;refine HN.out.mono ?_;rintro e w2 ⟨he,hl,hg⟩;rw[HR.out]at he hl;simp only at he hl;subst he;have HL:=Hd hl;have HG:=Hd hg;clear hl hg)|(go_at_call 151;refine(HZ.out _).mono ?_;rintro e w3 ⟨rfl,hb⟩;have HB:=Hd hb;clear hb))
  go_ret
  exact⟨rfl,(HB.out.block l (Array.getElem?_eq_some_iff.1 HL.out).1).trans HL.out,EL HG.out (DN _ HB.out)⟩
 |false=>
  go_enter Tryz.func149,Tryz.ntmps149
  go_wp2_with (first|(go_at_call 126;refine HN.out.mono ?_;rintro e w2 ⟨he,hl,hg⟩;rw[HR.out]at he hl;simp only at he hl;subst he;have HL:=Hd hl;have HG:=Hd hg;clear hl hg)|(go_at_call 151;refine(HZ.out _).mono ?_;rintro e w3 ⟨rfl,hb⟩;have HB:=Hd hb;have HL3:=Hd (show GF w3 l s st (p+k) k A n c from(hb.block l (Array.getElem?_eq_some_iff.1 HL.out).1).trans HL.out);clear hb)|(go_at_call 128;refine(NL HL3.out Om Om).mono ?_;rintro e w4 ⟨rfl,hl,hg⟩;have HL4:=Hd hl;have HG4:=Hd hg;clear hl hg))
  go_ret
  exact⟨rfl,by have h:=HL4.out;rw[Nat.add_sub_cancel]at h;exact h,EL HG.out (EL (DN _ HB.out) HG4.out)⟩
def FH(ts:List AW):List Value:=ts.flatMap λt=>[.int .u8 t.1,.string t.2]
theorem YQ(ts:List AW)(k:Nat)(x:ByteArray):FH (ts++[(k,x)])=FH ts++[.int .u8 k,.string x]:=by unfold FH;simp
theorem Tryz.info118:(Tryz.prog.info? 118).map (λi=>(i.zero,i.size,i.bytes))=some (some (.agg #[.int .u8 0,.string ⟨#[]⟩]),2,24):=Kr
def JI(w:World)(l:Nat)(s:ByteArray)(st p wd:Nat)(ts:List AW):Prop:=
 ∃(A:Option Addr) (n c:Nat),GF w l s st p wd A n c/\n=ts.length/\w.ownsRow (l+1) 118 2 (.slice A n c) n (FH ts)
theorem R0(w:World)(o:Obj):(w.drew.alloc o).heap.size=w.heap.size+1:=by
 have h:(w.drew.alloc o).heap.size=w.drew.heap.size+1:=by simp
 exact h
theorem ACn{w:World}{l:Nat}{s:ByteArray}{st p wd:Nat}{ts:List AW}(h:JI w l s st p wd ts)(k:Nat)(hk:k<=255)(hst:st<=p)(hp:p<=s.size)(hs:s.size<=100000)(hn:ts.length<=1000000) :
 Calls Tryz.prog 127 #[.pointer (some ⟨l,0,none⟩),.int .u8 k] w λe w'=>e=.returned (.tuple #[])/\JI w' l s p p wd (ts++[(k,s.extract st p)])/\Below l w w':=by
 obtain⟨i0,hi,hz0,hz1,hz2⟩:=info_parts Tryz.info118
 obtain⟨A,n,c,hl,hnl,hrow⟩:=h
 have hlt:l<w.heap.size:=(Array.getElem?_eq_some_iff.1 hl).1
 obtain⟨c0,c1,c2,c3,c4⟩:=EK hl
 have f4:=AB hl 4
 have hn6:n<=1000000:=Om
 have HL:=Hd hl
 have HN:=Hd hnl
 have hi0:(0:Int)<=(st:Int):=Om
 have hi1:(st:Int)<=(p:Int):=Om
 have hi2:(p:Int)<=(s.size:Int):=Om
 have HOD:=Hd (show (w.drew.alloc (.cells #[.int .u8 k,.string (s.extract st p)] 118)).ownsRow (l+1) 118 2 (.slice A n c) n (FH ts) from AD hrow (Bl.drew.alloc Nl _))
 have HNB:=Hd (heap_alloc_new w.drew (.cells #[.int .u8 k,.string (s.extract st p)] 118))
 have HBG:=Hd (show Below w.heap.size w (w.drew.alloc (.cells #[.int .u8 k,.string (s.extract st p)] 118)) from((Below.refl w.heap.size w).drew).alloc Nl _)
 have HSZ1:=Hd (R0 w (.cells #[.int .u8 k,.string (s.extract st p)] 118))
 have HSB:=Hd (show l+1<=(w.drew.alloc (.cells #[.int .u8 k,.string (s.extract st p)] 118)).heap.size by rw[HSZ1.out];omega)
 have y4d:(w.alloc (.cells #[.int .u8 k,.string (s.extract st p)] 118)).drew.cell? ⟨l,4,none⟩=some (.slice A n c):=(HBG.out.cell (p:=⟨l,4,none⟩) hlt).trans c4
 have HSK:=Hd (λ(W:World) (hW:W.heap[l]?=w.heap[l]?)=>(⟨(World.cell?_of_block (a:=⟨l,0,none⟩) hW).trans c0,(World.cell?_of_block (a:=⟨l,1,none⟩) hW).trans c1,(World.cell?_of_block (a:=⟨l,2,none⟩) hW).trans c2⟩:W.cell? ⟨l,0,none⟩=some (.string s)/\W.cell? ⟨l,1,none⟩=some (.int .i64 st)/\W.cell? ⟨l,2,none⟩=some (.int .i64 p)))
 clear hl hrow hnl
 go_enter Tryz.func127,Tryz.ntmps127
 go_upto_region 0 with fail
 go_region_law ((refine step_append_lies _ rfl _ _ 81 rfl (l+1) 118 i0 (.agg #[.int .u8 0,.string ⟨#[]⟩]) 2 24 Tryz.underlying81 hi hz0 hz1 hz2 rfl De _ _ _ rfl HOD.out ⟨w.heap.size,0,none⟩ 1 1 [.int .u8 k,.string (s.extract st p)] rfl rfl (World.news_of_block (cs:=#[.int .u8 k,.string (s.extract st p)]) (t:=118) (fr:=(0,0)) HNB.out) (by simp[Value.oneCell']) De (by unfold maxLen;omega) Om HSB.out (w.heap.size+1) HSZ1.out ?_;intro gg cap w3 hown3 hg3 hat hlt3;have HK3:=Hd (show w3.heap[l]?=w.heap[l]? from(hg3.block l HSB.out (λe=>by have:=AG HOD.out l e.symm;omega)).trans (HBG.out.block l hlt));have HO3:=Hd hown3;have HG3:=Hd hg3;have d4:=(World.cell?_of_block (a:=⟨l,4,none⟩) HK3.out).trans c4;have g4:w3.frozen? ⟨l,4,none⟩=false:=AB (HK3.out.trans HL.out) 4;have HC3:=Hd (AH (HK3.out.trans HL.out) 4 (.slice (some ⟨gg,0,none⟩) (n+1) cap));clear hown3 hg3 hat hlt3))
 all_goals
  have hC:GF (w3.setCell ⟨l,4,none⟩ (.slice (some ⟨gg,0,none⟩) (n+1) cap)) l s st p wd (some ⟨gg,0,none⟩) (n+1) cap:=HC3.out;have hR4:(w3.setCell ⟨l,4,none⟩ (.slice (some ⟨gg,0,none⟩) (n+1) cap)).ownsRow (l+1) 118 2 (.slice (some ⟨gg,0,none⟩) (n+1) cap) (n+1) (FH ts++[.int .u8 k,.string (s.extract st p)]):=AR HO3.out λg hg _=>heap_set _ _ _ (by have:=AG HO3.out g hg;show g≠l;omega);have hB4:Below l w (w3.setCell ⟨l,4,none⟩ (.slice (some ⟨gg,0,none⟩) (n+1) cap)):=((HBG.out.mono Om).grown HG3.out (Nat.le_of_succ_le HSB.out) (λb hb=>by have:=AG HOD.out b hb;omega)).setCell (p:=⟨l,4,none⟩) Nl _;have HC4:=Hd hC;have HR4:=Hd hR4;have HB4:=Hd hB4;clear hC hR4 hB4 HC3 HO3 HG3 HK3 HOD HNB HBG HSZ1 HSB y4d HSK c0 c1 c2 c3 c4 f4 d4 g4;generalize w3.setCell ⟨l,4,none⟩ (.slice (some ⟨gg,0,none⟩) (n+1) cap)=w4 at *;obtain⟨c0,c1,c2,c3,c4⟩:=EK HC4.out;have f1:=AB HC4.out 1;go_wp2_with fail;go_end0;refine⟨rfl,⟨some ⟨gg,0,none⟩,n+1,cap,AH HC4.out 1 _,by rw[HN.out];simp,?_⟩,HB4.out.setCell (p:=⟨l,1,none⟩) Nl _⟩;rw[YQ];exact AR HR4.out λg hg _=>heap_set _ _ _ (by have:=AG HR4.out g hg;show g≠l;omega)
theorem AN{s:ByteArray}{p:Nat}(hp:p<s.size)(h:AA s p<128):AP s p=(AA s p,1):=by unfold AP;rw[if_pos hp];have hz:(s.extract p s.size).size=s.size-p:=AU _ _ Om;have hd:=(J7 (s.extract p s.size) Om).1;rw[BC,Nat.add_zero]at hd;obtain⟨h1,h2⟩:=hd h;rw[h1,h2]
theorem F8{s:ByteArray}{p:Nat}(hp:p<s.size)(h:128<=AA s p):128<=(AP s p).1/\1<=(AP s p).2/\p+(AP s p).2<=s.size/\∀i,p<=i->i<p+(AP s p).2->128<=AA s i:=by unfold AP;rw[if_pos hp];have hz:(s.extract p s.size).size=s.size-p:=AU _ _ Om;have hd:=(J7 (s.extract p s.size) Om).2.1;rw[BC,Nat.add_zero]at hd;obtain⟨h1,h2,h3,h4⟩:=hd h;refine⟨by simp only;omega,h2,by simp only;omega,λi hi1 hi2=>?_⟩;have:=h4 (i-p) (by simp only at hi2;omega);rw[BC,show p+(i-p)=i by omega]at this;exact this
theorem KS{s:ByteArray}{p:Nat}(hp:¬p<s.size):AP s p=(-1,0):=by unfold AP;rw[if_neg hp]
theorem ABc{s:ByteArray}{p:Nat}(hp:p<s.size):0<=(AP s p).1/\1<=(AP s p).2:=by
 by_cases h:AA s p<128
 .rw[AN hp h];have:=CJ s p;exact⟨this.1,Nl⟩
 have:=F8 hp Om;omega
theorem L6{s:ByteArray}{q:Int}(hq:q<128)(a:Nat):∀(m:Nat),(∀i,a<=i->i<a+m->128<=AA s i)->a+m<=s.size->CV s q a=CV s q (a+m)
 |0,_,_=>rfl
 |m+1,h,hs=>by rw[L6 hq a m (λi h1 h2=>h i h1 Om) Om];have:=h (a+m) Om Om;exact DU Om Om Om
theorem F4{l:Nat}{w w':World}(h:w.grownBy w' (some l))(hl:l<w.heap.size):Below l w w':=⟨h.os,h.tape,h.output,h.size,λk hk=>h.block k Om (by intro e;simp at e;omega)⟩
theorem MT{w:World}{l:Nat}{s:ByteArray}{st p wd:Nat}{ts:List AW}(h:JI w l s st p wd ts):l<w.heap.size:=by obtain⟨A,n,c,hl,_⟩:=h;exact(Array.getElem?_eq_some_iff.1 hl).1
def AAj(v:Value)(w:World)(l:Nat)(s:ByteArray)(st p wd:Nat)(ts:List AW)(e:Ending)(w':World):Prop:=e=.returned v/\JI w' l s st p wd ts/\Below l w w'/\Lib.Utf8Tabs 7 8 w'
theorem SB{w:World}{l:Nat}{s:ByteArray}{st p wd:Nat}{ts:List AW}(h:JI w l s st p wd ts)(hs:s.size<=100000)(hp:p<=s.size)(hU:Lib.Utf8Tabs 7 8 w)(hl8:8<l) :
 Calls Tryz.prog 126 #[.pointer (some ⟨l,0,none⟩)] w (AAj (.int .i32 (AP s p).1) w l s st (p+(AP s p).2) (AP s p).2 ts):=by
 have hlt:=MT h
 obtain⟨A,n,c,hl,hn,hr⟩:=h
 refine(P5 hl hs hp hU Om Om).mono ?_
 rintro e w' ⟨he,h1,hg⟩
 exact⟨he,⟨A,n,c,h1,hn,AR hr λg hg' hlt'=>hg.block g hlt' (by intro e;simp at e;have:=AG hr g hg';omega)⟩,F4 hg hlt,GU hU hg Om Om⟩
theorem L4{w w':World}{l:Nat}(h:Lib.Utf8Tabs 7 8 w)(hb:Below l w w')(hl:8<l):Lib.Utf8Tabs 7 8 w':=
 ⟨λc hc=>(World.cell?_of_block (hb.block 7 Om)).trans (h.1 c hc),λi hi=>⟨(World.cell?_of_block (hb.block 8 Om)).trans (h.2 i hi).1,(World.cell?_of_block (hb.block 8 Om)).trans (h.2 i hi).2⟩⟩
theorem OQ{w:World}{l:Nat}{s:ByteArray}{st p wd:Nat}{ts:List AW}(h:JI w l s st p wd ts)(k:Nat)(hk:k<=255)(hst:st<=p)(hp:p<=s.size)(hs:s.size<=100000)(hn:ts.length<=1000000)(hU:Lib.Utf8Tabs 7 8 w)(hl8:8<l) :
 Calls Tryz.prog 127 #[.pointer (some ⟨l,0,none⟩),.int .u8 k] w (AAj (.tuple #[]) w l s p p wd (ts++[(k,s.extract st p)])):=by
 refine(ACn h k hk hst hp hs hn).mono ?_
 rintro e w' ⟨he,h1,hb⟩
 exact⟨he,h1,hb,L4 hU hb hl8⟩
theorem TL{w:World}{l:Nat}{s:ByteArray}{st p wd:Nat}{ts:List AW}(h:JI w l s st p wd ts)(hs:s.size<=100000)(hst:st<=p)(hp:p<s.size)(hU:Lib.Utf8Tabs 7 8 w)(hl8:8<l)(hn:ts.length<=1000000)(q:Int)(hq:AA s p=q)(hq1:0<q)(hq2:q<128)(hq3:q≠92){e0:Nat}(hend:CV s q (p+1)=some e0) :
 Calls Tryz.prog 129 #[.pointer (some ⟨l,0,none⟩)] w λe w'=>∃wd',AAj (.func (.func 107) #[] #[]) w l s e0 e0 wd' (ts++[(3,s.extract st e0)]) e w':=by
 have HN:=Hd (λ(W:World) (p1 wd1:Nat) (h1:JI W l s st p1 wd1 ts) (hp1:p1<=s.size) (hU1:Lib.Utf8Tabs 7 8 W)=>SB h1 hs hp1 hU1 hl8)
 have HE:=Hd (λ(W:World) (p1 wd1:Nat) (h1:JI W l s st p1 wd1 ts) (hp1:p1<=s.size) (hst1:st<=p1) (hU1:Lib.Utf8Tabs 7 8 W)=>OQ h1 3 Om hst1 hp1 hs hn hU1 hl8)
 have HL:=Hd h
 have HU:=Hd hU
 have HEND:=Hd hend
 have HQ:=Hd hq
 clear h hU hend hn hq
 have hr0:=AN hp (by rw[HQ.out];exact hq2)
 rw[HQ.out]at hr0
 have HR0:=Hd hr0
 clear hr0
 go_enter Tryz.func129,Tryz.ntmps129
 go_wp2_with fail
 go_step3
 go_wp2_with (go_at_call 126;refine(HN.out _ _ _ HL.out Om HU.out).mono ?_;rintro e w2 ⟨he,hl,hb,hu⟩;rw[HR0.out]at he hl;subst he;have HL2:=Hd hl;have HB2:=Hd hb;have HU2:=Hd hu;clear hl hb hu)
 go_step3
 go_wp2_with fail
 have HHU:=Hd (⟨hq1,hq2,hq3⟩:0<q/\q<128/\q≠92)
 go_loopg [] (s.size-(p+1)) (λg wr=>∃p1 wd1:Nat,p1+g=s.size/\st<=p1/\Hid (JI wr l s st p1 wd1 ts)/\Hid (Below l w wr)/\Hid (Lib.Utf8Tabs 7 8 wr)/\Hid (CV s q p1=some e0))
 case atStart=>exact⟨p+1,1,Om,Om,HL2,HB2,HU2,HEND⟩
 obtain⟨p1,wd1,hg,hst1,HL1,HB1,HU1,HQ1⟩:=hrel
 have hp1:p1<s.size:=by
  rcases Nat.lt_or_ge p1 s.size with h|h
  .exact h
  have:=HQ1.out;rw[GM Om]at this;cases this
 by_cases h92:AA s p1=92
 .have hr:=AN hp1 Om
  rw[h92]at hr;have HR:=Hd hr;have hq':=HQ1.out;rw[EH hp1 h92]at hq';have hp2:p1+2<s.size:=by
   rcases Nat.lt_or_ge (p1+2) s.size with h|h
   .exact h
   rw[GM Om]at hq';cases hq'
  obtain⟨hr2,hk2⟩:=ABc (show p1+1<s.size by omega);have hle2:=KJ s (p1+1) Om;have hq2':CV s q (p1+1+(AP s (p1+1)).2)=some e0:=by
   by_cases hc:AA s (p1+1)<128
   .rw[AN Om hc];exact hq'
   obtain⟨_,g1,g2,g3⟩:=F8 (show p1+1<s.size by omega) Om;have:=L6 hq2 (p1+2) ((AP s (p1+1)).2-1) (λi i1 i2=>g3 i Om Om) Om;rw[show p1+2+((AP s (p1+1)).2-1)=p1+1+(AP s (p1+1)).2 by omega]at this;rw[<-this];exact hq'
  have HQ2:=Hd hq2';generalize hRA:AP s (p1+1)=RA at *;obtain⟨r2,k2⟩:=RA;have HRA:=Hd hRA;simp only at hr2 hk2 hle2 HQ2;have u1:(r2 != -1)=true:=by rw[bne_iff_ne];omega
  clear h92 hr hq' hq2' hRA hr2;go_wp2_with (first|(go_at_call 126;have hx:=HL3;refine(HN.out _ _ _ HL3.out Om HU3.out).mono ?_;rintro e w4 ⟨he,hl,hb,hu⟩;rw[HRA.out]at he hl;subst he;have HL4:=Hd hl;have HB4:=Hd hb;have HU4:=Hd hu;clear hl hb hu hx)|(go_at_call 126;refine(HN.out _ _ _ HL1.out Om HU1.out).mono ?_;rintro e w3 ⟨he,hl,hb,hu⟩;rw[HR.out]at he hl;subst he;have HL3:=Hd hl;have HB3:=Hd hb;have HU3:=Hd hu;clear hl hb hu));go_roundg (s.size-(p1+1+k2))
  case rel=>exact⟨p1+1+k2,k2,Om,Om,HL4,HB1.out.trans (HB3.out.trans HB4.out),HU4,HQ2⟩
  omega
 by_cases hqq:AA s p1=q
 .have hr:=AN hp1 Om
  rw[hqq]at hr;have HR:=Hd hr;have he0:e0=p1+1:=by have h:=HQ1.out;rw[FO hp1 h92 hqq]at h;injection h with h;omega
  subst he0;have v1:(q==92)=false:=by rw[Bn];exact hq3
  have v2:(q==-1)=false:=Bq;clear hr h92 hqq;go_wp2_with (first|(go_at_call 126;refine(HN.out _ _ _ HL1.out Om HU1.out).mono ?_;rintro e w3 ⟨he,hl,hb,hu⟩;rw[HR.out]at he hl;subst he;have HL3:=Hd hl;have HB3:=Hd hb;have HU3:=Hd hu;clear hl hb hu)|(go_at_call 127;refine(HE.out _ _ _ HL3.out Om Om HU3.out).mono ?_;rintro e w4 ⟨he,hl,hb,hu⟩;subst he;have HL4:=Hd hl;have HB4:=Hd hb;have HU4:=Hd hu;clear hl hb hu));rw[Exit.noGoto_ret];go_ret;exact⟨1,rfl,HL4.out,HB1.out.trans (HB3.out.trans HB4.out),HU4.out⟩
 have hC:(AP s p1).1≠92/\(AP s p1).1≠-1/\(AP s p1).1≠q/\1<=(AP s p1).2/\p1+(AP s p1).2<=s.size/\CV s q (p1+(AP s p1).2)=some e0:=by
  by_cases hc:AA s p1<128
  .rw[AN hp1 hc]
   have:=(CJ s p1).1;refine⟨h92,by simp only;omega,hqq,Nl,hp1,?_⟩;rw[<-DU hp1 h92 hqq];exact HQ1.out
  obtain⟨g0,g1,g2,g3⟩:=F8 hp1 Om;refine⟨Om,Om,Om,g1,g2,?_⟩;rw[<-L6 hq2 p1 _ (λi i1 i2=>g3 i i1 i2) g2];exact HQ1.out
 obtain⟨r1,r2,r3,r4,r5,r6⟩:=hC
 have HQ2:=Hd r6
 generalize hRA:AP s p1=RA at *
 obtain⟨r,k⟩:=RA
 have HRA:=Hd hRA
 simp only at r1 r2 r3 r4 r5 HQ2
 have v1:(r==92)=false:=by rw[Bn];exact r1
 have v2:(r==-1)=false:=by rw[Bn];exact r2
 have v3:(r==q)=false:=by rw[Bn];exact r3
 clear hRA r6 r1 r2 r3 h92 hqq
 go_wp2_with (go_at_call 126;refine(HN.out _ _ _ HL1.out Om HU1.out).mono ?_;rintro e w3 ⟨he,hl,hb,hu⟩;rw[HRA.out]at he hl;subst he;have HL3:=Hd hl;have HB3:=Hd hb;have HU3:=Hd hu;clear hl hb hu)
 go_roundg (s.size-(p1+k))
 case rel=>exact⟨p1+k,k,Om,Om,HL3,HB1.out.trans HB3.out,HU3,HQ2⟩
 omega
theorem V2{w:World}{l:Nat}{s:ByteArray}{st p wd:Nat}{ts:List AW}(h:JI w l s st p wd ts)(hs:s.size<=100000)(hst:st<=p)(hp:p<s.size)(hU:Lib.Utf8Tabs 7 8 w)(hl8:8<l)(hn:ts.length<=1000000)(q:Int)(hq:AA s p=q)(hq1:0<q)(hq2:q<128)(hq3:q≠92){e0:Nat}(hend:CV s q (p+1)=some e0) :
 Calls Tryz.prog 136 #[.pointer (some ⟨l,0,none⟩)] w λe w'=>∃wd',AAj (.func (.func 107) #[] #[]) w l s e0 e0 wd' (ts++[(14,s.extract st e0)]) e w':=by
 have HN:=Hd (λ(W:World) (p1 wd1:Nat) (h1:JI W l s st p1 wd1 ts) (hp1:p1<=s.size) (hU1:Lib.Utf8Tabs 7 8 W)=>SB h1 hs hp1 hU1 hl8)
 have HE:=Hd (λ(W:World) (p1 wd1:Nat) (h1:JI W l s st p1 wd1 ts) (hp1:p1<=s.size) (hst1:st<=p1) (hU1:Lib.Utf8Tabs 7 8 W)=>OQ h1 14 Om hst1 hp1 hs hn hU1 hl8)
 have HL:=Hd h
 have HU:=Hd hU
 have HEND:=Hd hend
 have HQ:=Hd hq
 clear h hU hend hn hq
 have hr0:=AN hp (by rw[HQ.out];exact hq2)
 rw[HQ.out]at hr0
 have HR0:=Hd hr0
 clear hr0
 go_enter Tryz.func136,Tryz.ntmps136
 go_wp2_with fail
 go_step3
 go_wp2_with (go_at_call 126;refine(HN.out _ _ _ HL.out Om HU.out).mono ?_;rintro e w2 ⟨he,hl,hb,hu⟩;rw[HR0.out]at he hl;subst he;have HL2:=Hd hl;have HB2:=Hd hb;have HU2:=Hd hu;clear hl hb hu)
 go_step3
 go_wp2_with fail
 have HHU:=Hd (⟨hq1,hq2,hq3⟩:0<q/\q<128/\q≠92)
 go_loopg [] (s.size-(p+1)) (λg wr=>∃p1 wd1:Nat,p1+g=s.size/\st<=p1/\Hid (JI wr l s st p1 wd1 ts)/\Hid (Below l w wr)/\Hid (Lib.Utf8Tabs 7 8 wr)/\Hid (CV s q p1=some e0))
 case atStart=>exact⟨p+1,1,Om,Om,HL2,HB2,HU2,HEND⟩
 obtain⟨p1,wd1,hg,hst1,HL1,HB1,HU1,HQ1⟩:=hrel
 have hp1:p1<s.size:=by
  rcases Nat.lt_or_ge p1 s.size with h|h
  .exact h
  have:=HQ1.out;rw[GM Om]at this;cases this
 by_cases h92:AA s p1=92
 .have hr:=AN hp1 Om
  rw[h92]at hr;have HR:=Hd hr;have hq':=HQ1.out;rw[EH hp1 h92]at hq';have hp2:p1+2<s.size:=by
   rcases Nat.lt_or_ge (p1+2) s.size with h|h
   .exact h
   rw[GM Om]at hq';cases hq'
  obtain⟨hr2,hk2⟩:=ABc (show p1+1<s.size by omega);have hle2:=KJ s (p1+1) Om;have hq2':CV s q (p1+1+(AP s (p1+1)).2)=some e0:=by
   by_cases hc:AA s (p1+1)<128
   .rw[AN Om hc];exact hq'
   obtain⟨_,g1,g2,g3⟩:=F8 (show p1+1<s.size by omega) Om;have:=L6 hq2 (p1+2) ((AP s (p1+1)).2-1) (λi i1 i2=>g3 i Om Om) Om;rw[show p1+2+((AP s (p1+1)).2-1)=p1+1+(AP s (p1+1)).2 by omega]at this;rw[<-this];exact hq'
  have HQ2:=Hd hq2';generalize hRA:AP s (p1+1)=RA at *;obtain⟨r2,k2⟩:=RA;have HRA:=Hd hRA;simp only at hr2 hk2 hle2 HQ2;have u1:(r2 != -1)=true:=by rw[bne_iff_ne];omega
  clear h92 hr hq' hq2' hRA hr2;go_wp2_with (first|(go_at_call 126;have hx:=HL3;refine(HN.out _ _ _ HL3.out Om HU3.out).mono ?_;rintro e w4 ⟨he,hl,hb,hu⟩;rw[HRA.out]at he hl;subst he;have HL4:=Hd hl;have HB4:=Hd hb;have HU4:=Hd hu;clear hl hb hu hx)|(go_at_call 126;refine(HN.out _ _ _ HL1.out Om HU1.out).mono ?_;rintro e w3 ⟨he,hl,hb,hu⟩;rw[HR.out]at he hl;subst he;have HL3:=Hd hl;have HB3:=Hd hb;have HU3:=Hd hu;clear hl hb hu));go_roundg (s.size-(p1+1+k2))
  case rel=>exact⟨p1+1+k2,k2,Om,Om,HL4,HB1.out.trans (HB3.out.trans HB4.out),HU4,HQ2⟩
  omega
 by_cases hqq:AA s p1=q
 .have hr:=AN hp1 Om
  rw[hqq]at hr;have HR:=Hd hr;have he0:e0=p1+1:=by have h:=HQ1.out;rw[FO hp1 h92 hqq]at h;injection h with h;omega
  subst he0;have v1:(q==92)=false:=by rw[Bn];exact hq3
  have v2:(q==-1)=false:=Bq;clear hr h92 hqq;go_wp2_with (first|(go_at_call 126;refine(HN.out _ _ _ HL1.out Om HU1.out).mono ?_;rintro e w3 ⟨he,hl,hb,hu⟩;rw[HR.out]at he hl;subst he;have HL3:=Hd hl;have HB3:=Hd hb;have HU3:=Hd hu;clear hl hb hu)|(go_at_call 127;refine(HE.out _ _ _ HL3.out Om Om HU3.out).mono ?_;rintro e w4 ⟨he,hl,hb,hu⟩;subst he;have HL4:=Hd hl;have HB4:=Hd hb;have HU4:=Hd hu;clear hl hb hu));rw[Exit.noGoto_ret];go_ret;exact⟨1,rfl,HL4.out,HB1.out.trans (HB3.out.trans HB4.out),HU4.out⟩
 have hC:(AP s p1).1≠92/\(AP s p1).1≠-1/\(AP s p1).1≠q/\1<=(AP s p1).2/\p1+(AP s p1).2<=s.size/\CV s q (p1+(AP s p1).2)=some e0:=by
  by_cases hc:AA s p1<128
  .rw[AN hp1 hc]
   have:=(CJ s p1).1;refine⟨h92,by simp only;omega,hqq,Nl,hp1,?_⟩;rw[<-DU hp1 h92 hqq];exact HQ1.out
  obtain⟨g0,g1,g2,g3⟩:=F8 hp1 Om;refine⟨Om,Om,Om,g1,g2,?_⟩;rw[<-L6 hq2 p1 _ (λi i1 i2=>g3 i i1 i2) g2];exact HQ1.out
 obtain⟨r1,r2,r3,r4,r5,r6⟩:=hC
 have HQ2:=Hd r6
 generalize hRA:AP s p1=RA at *
 obtain⟨r,k⟩:=RA
 have HRA:=Hd hRA
 simp only at r1 r2 r3 r4 r5 HQ2
 have v1:(r==92)=false:=by rw[Bn];exact r1
 have v2:(r==-1)=false:=by rw[Bn];exact r2
 have v3:(r==q)=false:=by rw[Bn];exact r3
 clear hRA r6 r1 r2 r3 h92 hqq
 go_wp2_with (go_at_call 126;refine(HN.out _ _ _ HL1.out Om HU1.out).mono ?_;rintro e w3 ⟨he,hl,hb,hu⟩;rw[HRA.out]at he hl;subst he;have HL3:=Hd hl;have HB3:=Hd hb;have HU3:=Hd hu;clear hl hb hu)
 go_roundg (s.size-(p1+k))
 case rel=>exact⟨p1+k,k,Om,Om,HL3,HB1.out.trans HB3.out,HU3,HQ2⟩
 omega
