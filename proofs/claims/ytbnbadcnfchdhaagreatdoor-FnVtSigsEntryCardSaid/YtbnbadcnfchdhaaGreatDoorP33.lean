/- Lemmas for FnVtSigsEntry; no conditions. -/
import Derived.Test.YtbnbadcnfchdhaaGreatDoorP32
set_option maxRecDepth 100000
set_option maxHeartbeats 16000000
set_option linter.all false
namespace Go.Proofs.YtbnbadcnfchdhaaGreatDoor
open Go.RowKit
def DY(sg:ByteArray)(t:ByteArray):Prop:=sg.size≠0/\t=sg
theorem ABy{G:World->Prop}{B:Nat}{w:World}{r n c i i':Nat}{A:Option Addr}{All:List AW}{Ss:List (ByteArray->Prop)}{sg ee:ByteArray}(hG:DC G B)(hB:B<=r)(hp:MM w r A n c All i)(hw:G w)(h:Els G B r A n c All i Ss i')(hsg:sg=⟨#[]⟩\/sg=ET ee)(hee:ee.size<=900)(hLen:Ss.length<=100000)(hS:∀S∈Ss,Few S 5000/\((∃s,S s)->S ee)) :
 Calls Tryz.prog 74 #[.pointer (some ⟨r,0,none⟩),.agg #[.string sg]] w (MkP w r A n c All i' (FP (DY sg) Ss)):=by
 have hmm:=@run_makeMap Tryz.prog
 obtain⟨i0,hi,hz0,hz1,hz2⟩:=info_parts Tryz.info77
 have hrl:=hp.lt
 have hb0:Below w.heap.size w (w.alloc (.cells #[.string sg] 115)):=Bl.alloc Nl _
 have hb1:Below w.heap.size w ((w.alloc (.cells #[.string sg] 115)).alloc (.cells #[.map none,.slice none 0 0] 160)):=hb0.alloc Sm _
 have hc1:((w.alloc (.cells #[.string sg] 115)).alloc (.cells #[.map none,.slice none 0 0] 160)).heap[w.heap.size]?=some (.cells #[.string sg] 115 (0,0)):=(Below.heap_alloc _ _ w.heap.size Sm).trans (heap_alloc_new _ _)
 have hn1:((w.alloc (.cells #[.string sg] 115)).alloc (.cells #[.map none,.slice none 0 0] 160)).heap[w.heap.size+1]?=some (.cells #[.map none,.slice none 0 0] 160 (0,0)):=by have:=heap_alloc_new (w.alloc (.cells #[.string sg] 115)) (.cells #[.map none,.slice none 0 0] 160);simpa using this
 have hs1:((w.alloc (.cells #[.string sg] 115)).alloc (.cells #[.map none,.slice none 0 0] 160)).heap.size=w.heap.size+2:=by simp
 have ha1:T5 G w ((w.alloc (.cells #[.string sg] 115)).alloc (.cells #[.map none,.slice none 0 0] 160)) r A n c All i (w.heap.size+1) (.map none) none 0 0 []:=
  ⟨hp.below hb1,hG _ _ hw (hb1.mono Om),⟨hb1.os,hb1.tape,hb1.output,hb1.size,λq hq _=>hb1.block q hq⟩,Om,hrl,hn1,.inl ⟨rfl,rfl⟩,[],⟨rfl,.inl ⟨rfl,rfl⟩⟩⟩
 have HE:=Hd h
 have HSS:=Hd hS
 clear hp hw h hS hb0 hb1 hn1
 go_enter Tryz.func74,Tryz.ntmps74
 go_wp2_with fail
 go_step3
 go_upto_region 2 with fail
 generalize (w.alloc (.cells #[.string sg] 115)).alloc (.cells #[.map none,.slice none 0 0] 160)=wb at *
 have x0:=BE hc1
 have HA1:=Hd ha1
 have HC1:=Hd hc1
 clear ha1 hc1
 rcases hsg with rfl|rfl
 .go_upto_region 4 with fail
  have hcut:∃(m:Value) (X:List ByteArray),Hid (T5 G w wb r A n c All i (w.heap.size+1) m none 0 0 X)/\Hid (∀t,t∈X↔DY ⟨#[]⟩ t)/\m=.map none:=⟨_,[],HA1,(λt=>by simp[DY];intro h _;exact absurd rfl h),rfl⟩;obtain⟨m0,X0,HA0,HX0,_⟩:=hcut;clear HA1 HC1 x0;have HXM:=Hd (show X0=[]\/ET ee∈X0 from .inl (by cases X0 with|nil=>rfl|cons q l=>have:=(HX0.out q).1 Sm;simp[DY]at this;exact absurd rfl this.1));have HXL:=Hd (show X0.length<=6000 by rcases HXM.out with h|h;rw[h];simp;exact absurd ((HX0.out _).1 h).1 De);obtain⟨k1,x1,l1,GR,hk1,hk2,hk3,hk4⟩:=HE.out.first;have ha0:=HA0.out;have hnew:=ha0.new;have hrb:=ha0.rb;have u6:((k1:Int)==6)=false:=Bq;have HD1:=Hd GR;clear GR ha0;go_upto_region 7 with(go_at_call 69;refine(AO HA0.out.P HD1.out).mono ?_;rintro e w5 ⟨rfl,hp5,hg5⟩);have ha5:=HA0.out.step hG hB hg5 hp5;have hb6:Below w5.heap.size w5 (w5.alloc (.cells #[.int .u8 k1,.string x1] 118)):=Bl.alloc Nl _;have HA6:=Hd (ha5.below hG hB hb6);clear ha5 hp5 hg5 hb6;generalize w5.alloc (.cells #[.int .u8 k1,.string x1] 118)=w6 at *;go_wp2_with (go_at_call 102;refine(EP HA6.out.P).mono ?_;rintro e w7 ⟨rfl,hp7,hg7⟩;have HA7:=Hd (HA6.out.step hG hB hg7 hp7);clear hp7 hg7);go_step3;go_wp2_with fail;clear u6 hk1 hk2 hk3 hk4 HD1 HA6;go_loopg [] Ss.length (λg wr=>∃(i1 nc cc:Nat) (m:Value) (Ac:Option Addr) (X:List ByteArray) (S1:List (ByteArray->Prop)),S1.length=g/\nc+S1.length=Ss.length/\Hid (T5 G w wr r A n c All i1 (w.heap.size+1) m Ac nc cc X)/\Hid (Els G B r A n c All i1 S1 i')/\Hid (FP (λt=>t∈X) S1=FP (DY ⟨#[]⟩) Ss)/\Hid (X=[]\/ET ee∈X)/\Hid (X.length<=6000)/\Hid (∀S∈S1,Few S 5000/\((∃s,S s)->S ee)))
  case atStart=>exact⟨i,0,0,m0,none,X0,Ss,rfl,Nat.zero_add _,HA7,HE,(by show _=_;rw[show (λt=>t∈X0)=DY ⟨#[]⟩ from funext λt=>propext (HX0.out t)]),HXM,HXL,HSS⟩
  obtain⟨i1,nc,cc,m,Ac,X,S1,hgl,hnc,HA,HEL,HF,HXM1,HXL1,HS1⟩:=hrel;obtain⟨S,S2,i2,y,rest,k,hS12,hmeet,⟨k1,x1,l1,GR,hk1,hk2,hk3,hk4⟩,hdk,hkk⟩:=HEL.out.inv;have HSE:=Hd hS12;have hlen:S2.length+1=S1.length:=by rw[hS12];simp
  have HD1:=Hd GR;have HME:=Hd hmeet;have HDK:=Hd hdk;have HKK:=Hd hkk;have u0:((k1:Int)==0)=false:=Bq;have u1:((k1:Int)==1)=false:=Bq;clear GR hmeet hdk hkk hk1 hk2 hk3 hk4 hS12;have hnew:=HA.out.new;have hrb:=HA.out.rb;go_upto_region 9 with(go_at_call 69;refine(AO HA.out.P HD1.out).mono ?_;rintro e w5 ⟨rfl,hp5,hg5⟩);have ha5:=HA.out.step hG hB hg5 hp5;have hb6:Below w5.heap.size w5 (w5.alloc (.cells #[.int .u8 k1,.string x1] 118)):=Bl.alloc Nl _;have HA6:=Hd (ha5.below hG hB hb6);have x6:=(AY (heap_alloc_new w5 (.cells #[.int .u8 k1,.string x1] 118))).1;obtain⟨q5,hq5⟩:∃q,w5.heap.size=q:=⟨_,rfl⟩;rw[hq5]at x6 ⊢;clear ha5 hp5 hg5 hb6 hq5;generalize w5.alloc (.cells #[.int .u8 k1,.string x1] 118)=w6 at *;go_upto_region 18 with(first
   |(go_at_call 102;refine(EP HA6.out.P).mono ?_;rintro e w7 ⟨rfl,hp7,hg7⟩;have HA7:=Hd (HA6.out.step hG hB hg7 hp7);clear hp7 hg7)
   |(go_at_call 45;refine(FD hG hB HA7.out.P HA7.out.G HME.out).mono ?_;rintro e w8 ⟨v,Xv,rfl,hnode,hX,hp8,hg8⟩;obtain⟨T,xv,f,rfl,hm,hcf,hc⟩:=hnode;have HA8:=Hd (HA7.out.step hG hB hg8 hp8);have HXV:=Hd hX;have HCC:=Hd hc;clear hp8 hg8 hX hc))
  go_wp2_with fail;refine(HCC.out _ (BZ.refl _)).mono ?_;rintro e w9 ⟨mY,Y,rfl,hsY,hY,hb9⟩;have HA9:=Hd (HA8.out.below hG hB hb9);have HYS:=Hd (show ∀t,t∈Y↔S t from λt=>(hY t).trans (HXV.out t));have HSY:=Hd hsY;have hS1:=HS1.out S (by rw[HSE.out];simp);have hYL:Y.length<=5000:=hS1.1.len hsY.nd HYS.out;have HFEW:=Hd hS1;clear hsY hY hb9 hm hcf HCC HXV HA6 HA7 u0 u1 x6 HD1 HME hS1;go_upto_if 56 with(go_at_call 103;refine(DH HSY.out Om).mono ?_;rintro e w10 ⟨rfl,rfl⟩);generalize hdy:decide (Y=[])=dY;have HDY:=Hd hdy;clear hdy
  cases dY with
  |true=>
   have hYe:Y=[]:=of_decide_eq_true HDY.out;have HA12:=HA9;have HF2:=Hd (show FP (λt=>t∈X) S2=FP (DY ⟨#[]⟩) Ss by rw[<-HF.out,HSE.out];show _=FP (GE (R4 S) _) S2;rw[RT (by rw[RM,JR HYS.out];exactλh=>h hYe)])
   go_upto_region 26 with fail;have HXM2:=HXM1;have HXL2:=HXL1;have ha:=HA12.out;obtain⟨xs,hrow⟩:=ha.row;have HROW:=Hd hrow;obtain⟨_,z1,_,_⟩:=ha.cells;have hfit:=ha.P.fit;have hsml:=ha.P.small;have hz:=ha.lt;have hzb:=(((Below.refl w9.heap.size w9).alloc Nl (.cells #[.iface T xv] 77)).cell (p:=⟨w.heap.size+1,1,none⟩) hz).trans z1;clear ha hrow;go_wp2_with (at_builtin;refine wpList_append_own _ rfl _ _ 158 rfl (w.heap.size+1+1) 77 i0 .nilIface 1 16 Tryz.underlying158 hi hz0 hz1 hz2 rfl De _ _ _ rfl (AD HROW.out (Bl.alloc Nl _)) ⟨w9.heap.size,0,none⟩ 1 1 [.iface T xv] rfl rfl ?c1 ?c2 ?c3 ?c4 ?c5 ?_)
   case c1=>exact cell_one_new _ _ _
   case c2=>intro u hu;obtain rfl:=(by simpa using hu);rfl
   case c3=>unfold maxLen;omega
   case c4=>omega
   case c5=>simp;omega
   intro v' w13 hown13 hgrow13 hnil;clear hnil;obtain⟨A13,c13,rfl,_⟩:=AF hown13;have ha13:=HA12.out.below hG hB (Bl.alloc Nl (.cells #[.iface T xv] 77));have HAC:=Hd (ha13.setC hG hB hgrow13 hown13);have hmid:=ha13.mid hgrow13;have y1:=(AY hmid).2;have f1:=AB hmid 1;clear hown13 hgrow13 ha13 z1 hzb hmid;go_upto_region 28 with(go_at_call 69;refine(AO HAC.out.P HDK.out).mono ?_;rintro e w14 ⟨rfl,hp14,hg14⟩);have ha14:=HAC.out.step hG hB hg14 hp14;have hb15:Below w14.heap.size w14 (w14.alloc (.cells #[.int .u8 k,.string y] 118)):=Bl.alloc Nl _;have HA15:=Hd (ha14.below hG hB hb15);have x15:=(AY (heap_alloc_new w14 (.cells #[.int .u8 k,.string y] 118))).1;obtain⟨q14,hq14⟩:∃q,w14.heap.size=q:=⟨_,rfl⟩;rw[hq14]at x15 ⊢;clear ha14 hp14 hg14 hb15 hq14 y1 f1;generalize w14.alloc (.cells #[.int .u8 k,.string y] 118)=w15 at *;rcases HKK.out with⟨rfl,hS2,hi2⟩|⟨rfl,hel⟩
   .obtain⟨c0,c1,_,_⟩:=HA15.out.cells
    have HS2:=Hd hS2;have HI2:=Hd hi2;clear hS2 hi2;go_wp2_with fail
    first|(rw[Exit.noGoto_ret];go_ret2)|go_ret2
    refine⟨_,_,rfl,JG _ _ _ HA15.out.set,λt=>?_,HI2.out▸HA15.out.P,HA15.out.g⟩;have h:=congrFun HF2.out t;rw[HS2.out]at h;exact iff_of_eq h
   have HEL2:=Hd hel;clear hel;go_wp2_with fail;go_roundg S2.length
   case rel=>exact⟨i2+1,_,_,_,_,_,S2,rfl,Om,HA15,HEL2,HF2,HXM2,HXL2,(λS hS=>HS1.out S (by rw[HSE.out];simp[hS]))⟩
   omega
  |false=>
   have hYe:Y≠[]:=of_decide_eq_false HDY.out;have hSe:S ee:=HFEW.out.2 ((JR HYS.out).2 hYe);have hsm:∀s∈Y,s.size<=1000:=λs hs=>by have:=HFEW.out.1.2 s ((HYS.out s).1 hs);omega
   have HSMY:=Hd hsm;obtain⟨z0,_,_,_⟩:=HA9.out.cells;have hXL:=HXL1.out;clear hsm;go_upto_if 59 with(go_at_call 103;refine(DH HA9.out.set Om).mono ?_;rintro e w10 ⟨rfl,rfl⟩);generalize hdx:decide (X=[])=dX;have HDX:=Hd hdx;clear hdx
   cases dX with
   |true=>
    have hXe:X=[]:=of_decide_eq_true HDX.out;go_upto_region 26 with(go_at_call 104;refine(JA HSY.out HSMY.out Om).mono ?_;rintro e w11 ⟨mZ,Z,rfl,hsZ,hZ,hb11⟩;obtain⟨oZ,rfl⟩:=hsZ.form;have ha11:=HA9.out.below hG hB hb11;obtain⟨q0,q1,q2,q3⟩:=ha11.cells;have HA11:=Hd ha11;have HSZ:=Hd hsZ;have HZ:=Hd hZ;clear ha11 hsZ hZ hb11);have HA12:=Hd (HA11.out.setM hG hB HSZ.out);have hZA:(λt=>t∈Z)=R4 S:=by funext t;apply propext;rw[HZ.out];exact⟨λ⟨s,h1,h2⟩=>⟨s,(HYS.out s).1 h1,h2⟩,λ⟨s,h1,h2⟩=>⟨s,(HYS.out s).2 h1,h2⟩⟩
    have HF2:=Hd (show FP (λt=>t∈Z) S2=FP (DY ⟨#[]⟩) Ss by rw[<-HF.out,HSE.out];show _=FP (GE (R4 S) _) S2;rw[PW (RM.2 ((JR HYS.out).2 hYe)) (by rw[hXe];simp),hZA])
    have HXM2:=Hd (show Z=[]\/ET ee∈Z from .inr ((HZ.out _).2 ⟨ee,(HYS.out ee).2 hSe,rfl⟩));have HXL2:=Hd (show Z.length<=6000 by have:=EY (L:=Y.map ET) HSZ.out.nd (λt ht=>by obtain⟨s,h1,h2⟩:=(HZ.out t).1 ht;exact List.mem_map.2 ⟨s,h1,h2.symm⟩);simp at this;omega);clear z0 q0 q1 q2 q3 hZA;generalize w11.setCell ⟨w.heap.size+1,0,none⟩ (.map oZ)=w12 at *;have ha:=HA12.out;obtain⟨xs,hrow⟩:=ha.row;have HROW:=Hd hrow;obtain⟨_,z1,_,_⟩:=ha.cells;have hfit:=ha.P.fit;have hsml:=ha.P.small;have hz:=ha.lt;have hzb:=(((Below.refl w12.heap.size w12).alloc Nl (.cells #[.iface T xv] 77)).cell (p:=⟨w.heap.size+1,1,none⟩) hz).trans z1;clear ha hrow;go_wp2_with (at_builtin;refine wpList_append_own _ rfl _ _ 158 rfl (w.heap.size+1+1) 77 i0 .nilIface 1 16 Tryz.underlying158 hi hz0 hz1 hz2 rfl De _ _ _ rfl (AD HROW.out (Bl.alloc Nl _)) ⟨w12.heap.size,0,none⟩ 1 1 [.iface T xv] rfl rfl ?c1 ?c2 ?c3 ?c4 ?c5 ?_)
    case c1=>exact cell_one_new _ _ _
    case c2=>intro u hu;obtain rfl:=(by simpa using hu);rfl
    case c3=>unfold maxLen;omega
    case c4=>omega
    case c5=>simp;omega
    intro v' w13 hown13 hgrow13 hnil;clear hnil;obtain⟨A13,c13,rfl,_⟩:=AF hown13;have ha13:=HA12.out.below hG hB (Bl.alloc Nl (.cells #[.iface T xv] 77));have HAC:=Hd (ha13.setC hG hB hgrow13 hown13);have hmid:=ha13.mid hgrow13;have y1:=(AY hmid).2;have f1:=AB hmid 1;clear hown13 hgrow13 ha13 z1 hzb hmid;go_upto_region 28 with(go_at_call 69;refine(AO HAC.out.P HDK.out).mono ?_;rintro e w14 ⟨rfl,hp14,hg14⟩);have ha14:=HAC.out.step hG hB hg14 hp14;have hb15:Below w14.heap.size w14 (w14.alloc (.cells #[.int .u8 k,.string y] 118)):=Bl.alloc Nl _;have HA15:=Hd (ha14.below hG hB hb15);have x15:=(AY (heap_alloc_new w14 (.cells #[.int .u8 k,.string y] 118))).1;obtain⟨q14,hq14⟩:∃q,w14.heap.size=q:=⟨_,rfl⟩;rw[hq14]at x15 ⊢;clear ha14 hp14 hg14 hb15 hq14 y1 f1;generalize w14.alloc (.cells #[.int .u8 k,.string y] 118)=w15 at *;rcases HKK.out with⟨rfl,hS2,hi2⟩|⟨rfl,hel⟩
    .obtain⟨c0,c1,_,_⟩:=HA15.out.cells
     have HS2:=Hd hS2;have HI2:=Hd hi2;clear hS2 hi2;go_wp2_with fail
     first|(rw[Exit.noGoto_ret];go_ret2)|go_ret2
     refine⟨_,_,rfl,JG _ _ _ HA15.out.set,λt=>?_,HI2.out▸HA15.out.P,HA15.out.g⟩;have h:=congrFun HF2.out t;rw[HS2.out]at h;exact iff_of_eq h
    have HEL2:=Hd hel;clear hel;go_wp2_with fail;go_roundg S2.length
    case rel=>exact⟨i2+1,_,_,_,_,_,S2,rfl,Om,HA15,HEL2,HF2,HXM2,HXL2,(λS hS=>HS1.out S (by rw[HSE.out];simp[hS]))⟩
    omega
   |false=>
    have hXe:X≠[]:=of_decide_eq_false HDX.out;obtain⟨b2,hmb,hset2⟩:∃b2,m=.map (some b2)/\CD w9 b2 X.length X:=by
     rcases HA9.out.set with⟨_,h⟩|h
     .exact absurd h hXe
     exact h
    subst hmb;have HB2:=Hd hset2;clear hset2;go_upto_region 22 with fail;go_region_held3 (λW=>W.cell? ⟨w.heap.size+1,0,none⟩=some (.map (some b2))) (first|exact z0|exact q1|exact q0) (first
     |(go_at_call 104;go_loud (refine(JA (show DX w9.drew mY Y from HSY.out) HSMY.out Om).mono ?_;rintro e w11 ⟨mZ,Z,rfl,hsZ,hZ,hb11⟩;have HPK:=Hd (show DX w11 mZ Z/\(∀t,t∈Z↔∃s∈Y,t=ET s)/\Below w9.heap.size w9 w11 from⟨hsZ,hZ,((Below.refl w9.heap.size w9).drew).trans hb11⟩);clear hsZ hZ hb11;have q0:=(HA9.out.below hG hB HPK.out.2.2).cells.1))
     |(go_at_call 105;go_loud (refine(GS HPK.out.1 (HB2.out.below HPK.out.2.2 HB2.out.lt) (AEw HPK.out.1 HPK.out.2.1 hYL)).mono ?_;rintro e w12 ⟨mV,V,rfl,hsV,hV,hb12⟩;have HPV:=Hd (⟨hsV,hV,hb12⟩:DX w12 mV V/\(∀t,t∈V↔t∈Z/\t∈X)/\Below w11.heap.size w11 w12);clear hsV hV hb12;have q1:=((HA9.out.below hG hB HPK.out.2.2).below hG hB HPV.out.2.2).cells.1)))
    obtain⟨hsV,hV,hb12⟩:=HPV.out;obtain⟨oV,rfl⟩:=hsV.form;have HA13:=Hd ((HA9.out.below hG hB HPK.out.2.2).below hG hB hb12);have HXe:ET ee∈X:=HXM1.out.resolve_left hXe;have hVee:ET ee∈V:=(hV _).2 ⟨(HPK.out.2.1 _).2 ⟨ee,(HYS.out ee).2 hSe,rfl⟩,HXe⟩;have hVne:V≠[]:=λh=>by rw[h]at hVee;simp at hVee
    have hdv:decide (V=[])=false:=decide_eq_false hVne;have hVl:V.length<=6000:=Nat.le_trans (EY hsV.nd (λt ht=>((hV t).1 ht).2)) hXL;have HSV:=Hd hsV;have HVV:=Hd hV;clear q0 q1 z0 hsV hV hb12;obtain⟨q0,q1,q2,q3⟩:=HA13.out.cells;go_upto_region 26 with(go_at_call 103;refine(DH HSV.out Om).mono ?_;rintro e w13 ⟨rfl,rfl⟩;rw[hdv]);have HA12:=Hd (HA13.out.setM hG hB HSV.out);have hVA:(λt=>t∈V)=λt=>R4 S t/\t∈X:=by funext t;apply propext;rw[HVV.out,HPK.out.2.1];exact⟨λ⟨⟨s,h1,h2⟩,h3⟩=>⟨⟨s,(HYS.out s).1 h1,h2⟩,h3⟩,λ⟨⟨s,h1,h2⟩,h3⟩=>⟨⟨s,(HYS.out s).2 h1,h2⟩,h3⟩⟩
    have HF2:=Hd (show FP (λt=>t∈V) S2=FP (DY ⟨#[]⟩) Ss by rw[<-HF.out,HSE.out];show _=FP (GE (R4 S) _) S2;rw[RJ (RM.2 ((JR HYS.out).2 hYe)) ⟨_,HXe⟩,hVA])
    have HXM2:=Hd (show V=[]\/ET ee∈V from .inr hVee);have HXL2:=Hd hVl;clear q0 q1 q2 q3 hVA hVee hVne hdv hVl HXe;generalize w12.setCell ⟨w.heap.size+1,0,none⟩ (.map oV)=w16 at *;have ha:=HA12.out;obtain⟨xs,hrow⟩:=ha.row;have HROW:=Hd hrow;obtain⟨_,z1,_,_⟩:=ha.cells;have hfit:=ha.P.fit;have hsml:=ha.P.small;have hz:=ha.lt;have hzb:=(((Below.refl w16.heap.size w16).alloc Nl (.cells #[.iface T xv] 77)).cell (p:=⟨w.heap.size+1,1,none⟩) hz).trans z1;clear ha hrow;go_wp2_with (at_builtin;refine wpList_append_own _ rfl _ _ 158 rfl (w.heap.size+1+1) 77 i0 .nilIface 1 16 Tryz.underlying158 hi hz0 hz1 hz2 rfl De _ _ _ rfl (AD HROW.out (Bl.alloc Nl _)) ⟨w16.heap.size,0,none⟩ 1 1 [.iface T xv] rfl rfl ?c1 ?c2 ?c3 ?c4 ?c5 ?_)
    case c1=>exact cell_one_new _ _ _
    case c2=>intro u hu;obtain rfl:=(by simpa using hu);rfl
    case c3=>unfold maxLen;omega
    case c4=>omega
    case c5=>simp;omega
    intro v' w13 hown13 hgrow13 hnil;clear hnil;obtain⟨A13,c13,rfl,_⟩:=AF hown13;have ha13:=HA12.out.below hG hB (Bl.alloc Nl (.cells #[.iface T xv] 77));have HAC:=Hd (ha13.setC hG hB hgrow13 hown13);have hmid:=ha13.mid hgrow13;have y1:=(AY hmid).2;have f1:=AB hmid 1;clear hown13 hgrow13 ha13 z1 hzb hmid;go_upto_region 28 with(go_at_call 69;refine(AO HAC.out.P HDK.out).mono ?_;rintro e w14 ⟨rfl,hp14,hg14⟩);have ha14:=HAC.out.step hG hB hg14 hp14;have hb15:Below w14.heap.size w14 (w14.alloc (.cells #[.int .u8 k,.string y] 118)):=Bl.alloc Nl _;have HA15:=Hd (ha14.below hG hB hb15);have x15:=(AY (heap_alloc_new w14 (.cells #[.int .u8 k,.string y] 118))).1;obtain⟨q14,hq14⟩:∃q,w14.heap.size=q:=⟨_,rfl⟩;rw[hq14]at x15 ⊢;clear ha14 hp14 hg14 hb15 hq14 y1 f1;generalize w14.alloc (.cells #[.int .u8 k,.string y] 118)=w15 at *;rcases HKK.out with⟨rfl,hS2,hi2⟩|⟨rfl,hel⟩
    .obtain⟨c0,c1,_,_⟩:=HA15.out.cells
     have HS2:=Hd hS2;have HI2:=Hd hi2;clear hS2 hi2;go_wp2_with fail
     first|(rw[Exit.noGoto_ret];go_ret2)|go_ret2
     refine⟨_,_,rfl,JG _ _ _ HA15.out.set,λt=>?_,HI2.out▸HA15.out.P,HA15.out.g⟩;have h:=congrFun HF2.out t;rw[HS2.out]at h;exact iff_of_eq h
    have HEL2:=Hd hel;clear hel;go_wp2_with fail;go_roundg S2.length
    case rel=>exact⟨i2+1,_,_,_,_,_,S2,rfl,Om,HA15,HEL2,HF2,HXM2,HXL2,(λS hS=>HS1.out S (by rw[HSE.out];simp[hS]))⟩
    omega
 have hne:¬(ET ee).size=0:=by rw[KD];omega
 have hie:=LS hne
 have hbm:Below wb.heap.size wb (wb.alloc (.map #[] 0)):=Bl.alloc Nl _
 have x0m:=(hbm.cell (p:=⟨w.heap.size,0,none⟩) (by show w.heap.size<_;omega)).trans x0
 have HBM:=Hd hbm
 have HSM:=Hd (show CD (wb.alloc (.map #[] 0)) (w.heap.size+2) 0 [] by rw[<-hs1];exact C6 wb)
 have hsz:(ET ee).size<=100000:=by rw[KD];omega
 clear hbm
 go_upto_region 4 with(refine EX _ rfl _ _ _ rfl (w.heap.size+2) 0 [] (ET ee) rfl rfl rfl HSM.out Om hsz ?_;intro w3 X3 hset hy hg3;have hmm3:Below wb.heap.size wb w3:=HBM.out.grown hg3 Sm (λk hk=>by cases hk;omega);have ha3:=HA1.out.below hG hB hmm3;obtain⟨z0,z1,z2,z3⟩:=ha3.cells;have HA3:=Hd ha3;clear ha3 hmm3)
 have hcut:∃(m:Value) (X:List ByteArray),Hid (T5 G w (w3.setCell ⟨w.heap.size+1,0,none⟩ (.map (some (w.heap.size+2)))) r A n c All i (w.heap.size+1) m none 0 0 X)/\Hid (∀t,t∈X↔DY (ET ee) t)/\m=.map (some (w.heap.size+2)):=⟨_,X3,HA3.out.setM hG hB (.inr ⟨_,rfl,hset.tight⟩),(λt=>by rw[hy];simp[DY,hne]),rfl⟩
 obtain⟨m0,X0,HA0,HX0,_⟩:=hcut
 clear HA1 HC1 x0 HA3 HBM HSM x0m z0 z1 z2 z3 hset hy hg3 hie
 generalize w3.setCell ⟨w.heap.size+1,0,none⟩ (.map (some (w.heap.size+2)))=w4 at *
 have HXM:=Hd (show X0=[]\/ET ee∈X0 from .inr ((HX0.out _).2 ⟨hne,rfl⟩))
 have HXL:=Hd (show X0.length<=6000 by have:=EY (L:=[ET ee]) HA0.out.set.nd (λt ht=>by rw[((HX0.out t).1 ht).2];simp);simp at this;omega)
 obtain⟨k1,x1,l1,GR,hk1,hk2,hk3,hk4⟩:=HE.out.first
 have ha0:=HA0.out
 have hnew:=ha0.new
 have hrb:=ha0.rb
 have u6:((k1:Int)==6)=false:=Bq
 have HD1:=Hd GR
 clear GR ha0
 go_upto_region 7 with(go_at_call 69;refine(AO HA0.out.P HD1.out).mono ?_;rintro e w5 ⟨rfl,hp5,hg5⟩)
 have ha5:=HA0.out.step hG hB hg5 hp5
 have hb6:Below w5.heap.size w5 (w5.alloc (.cells #[.int .u8 k1,.string x1] 118)):=Bl.alloc Nl _
 have HA6:=Hd (ha5.below hG hB hb6)
 clear ha5 hp5 hg5 hb6
 generalize w5.alloc (.cells #[.int .u8 k1,.string x1] 118)=w6 at *
 go_wp2_with (go_at_call 102;refine(EP HA6.out.P).mono ?_;rintro e w7 ⟨rfl,hp7,hg7⟩;have HA7:=Hd (HA6.out.step hG hB hg7 hp7);clear hp7 hg7)
 go_step3
 go_wp2_with fail
 clear u6 hk1 hk2 hk3 hk4 HD1 HA6
 go_loopg [] Ss.length (λg wr=>∃(i1 nc cc:Nat) (m:Value) (Ac:Option Addr) (X:List ByteArray) (S1:List (ByteArray->Prop)),S1.length=g/\nc+S1.length=Ss.length/\Hid (T5 G w wr r A n c All i1 (w.heap.size+1) m Ac nc cc X)/\Hid (Els G B r A n c All i1 S1 i')/\Hid (FP (λt=>t∈X) S1=FP (DY (ET ee)) Ss)/\Hid (X=[]\/ET ee∈X)/\Hid (X.length<=6000)/\Hid (∀S∈S1,Few S 5000/\((∃s,S s)->S ee)))
 case atStart=>exact⟨i,0,0,m0,none,X0,Ss,rfl,Nat.zero_add _,HA7,HE,(by show _=_;rw[show (λt=>t∈X0)=DY (ET ee) from funext λt=>propext (HX0.out t)]),HXM,HXL,HSS⟩
 obtain⟨i1,nc,cc,m,Ac,X,S1,hgl,hnc,HA,HEL,HF,HXM1,HXL1,HS1⟩:=hrel
 obtain⟨S,S2,i2,y,rest,k,hS12,hmeet,⟨k1,x1,l1,GR,hk1,hk2,hk3,hk4⟩,hdk,hkk⟩:=HEL.out.inv
 have HSE:=Hd hS12
 have hlen:S2.length+1=S1.length:=by rw[hS12];simp
 have HD1:=Hd GR
 have HME:=Hd hmeet
 have HDK:=Hd hdk
 have HKK:=Hd hkk
 have u0:((k1:Int)==0)=false:=Bq
 have u1:((k1:Int)==1)=false:=Bq
 clear GR hmeet hdk hkk hk1 hk2 hk3 hk4 hS12
 have hnew:=HA.out.new
 have hrb:=HA.out.rb
 go_upto_region 9 with(go_at_call 69;refine(AO HA.out.P HD1.out).mono ?_;rintro e w5 ⟨rfl,hp5,hg5⟩)
 have ha5:=HA.out.step hG hB hg5 hp5
 have hb6:Below w5.heap.size w5 (w5.alloc (.cells #[.int .u8 k1,.string x1] 118)):=Bl.alloc Nl _
 have HA6:=Hd (ha5.below hG hB hb6)
 have x6:=(AY (heap_alloc_new w5 (.cells #[.int .u8 k1,.string x1] 118))).1
 obtain⟨q5,hq5⟩:∃q,w5.heap.size=q:=⟨_,rfl⟩
 rw[hq5]at x6 ⊢
 clear ha5 hp5 hg5 hb6 hq5
 generalize w5.alloc (.cells #[.int .u8 k1,.string x1] 118)=w6 at *
 go_upto_region 18 with(first
  |(go_at_call 102;refine(EP HA6.out.P).mono ?_;rintro e w7 ⟨rfl,hp7,hg7⟩;have HA7:=Hd (HA6.out.step hG hB hg7 hp7);clear hp7 hg7)
  |(go_at_call 45;refine(FD hG hB HA7.out.P HA7.out.G HME.out).mono ?_;rintro e w8 ⟨v,Xv,rfl,hnode,hX,hp8,hg8⟩;obtain⟨T,xv,f,rfl,hm,hcf,hc⟩:=hnode;have HA8:=Hd (HA7.out.step hG hB hg8 hp8);have HXV:=Hd hX;have HCC:=Hd hc;clear hp8 hg8 hX hc))
 go_wp2_with fail
 refine(HCC.out _ (BZ.refl _)).mono ?_
 rintro e w9 ⟨mY,Y,rfl,hsY,hY,hb9⟩
 have HA9:=Hd (HA8.out.below hG hB hb9)
 have HYS:=Hd (show ∀t,t∈Y↔S t from λt=>(hY t).trans (HXV.out t))
 have HSY:=Hd hsY
 have hS1:=HS1.out S (by rw[HSE.out];simp)
 have hYL:Y.length<=5000:=hS1.1.len hsY.nd HYS.out
 have HFEW:=Hd hS1
 clear hsY hY hb9 hm hcf HCC HXV HA6 HA7 u0 u1 x6 HD1 HME hS1
 go_upto_if 56 with(go_at_call 103;refine(DH HSY.out Om).mono ?_;rintro e w10 ⟨rfl,rfl⟩)
 generalize hdy:decide (Y=[])=dY
 have HDY:=Hd hdy
 clear hdy
 cases dY with
 |true=>
  have hYe:Y=[]:=of_decide_eq_true HDY.out
  have HA12:=HA9
  have HF2:=Hd (show FP (λt=>t∈X) S2=FP (DY (ET ee)) Ss by rw[<-HF.out,HSE.out];show _=FP (GE (R4 S) _) S2;rw[RT (by rw[RM,JR HYS.out];exactλh=>h hYe)])
  go_upto_region 26 with fail
  have HXM2:=HXM1
  have HXL2:=HXL1
  have ha:=HA12.out
  obtain⟨xs,hrow⟩:=ha.row
  have HROW:=Hd hrow
  obtain⟨_,z1,_,_⟩:=ha.cells
  have hfit:=ha.P.fit
  have hsml:=ha.P.small
  have hz:=ha.lt
  have hzb:=(((Below.refl w9.heap.size w9).alloc Nl (.cells #[.iface T xv] 77)).cell (p:=⟨w.heap.size+1,1,none⟩) hz).trans z1
  clear ha hrow
  go_wp2_with (at_builtin;refine wpList_append_own _ rfl _ _ 158 rfl (w.heap.size+1+1) 77 i0 .nilIface 1 16 Tryz.underlying158 hi hz0 hz1 hz2 rfl De _ _ _ rfl (AD HROW.out (Bl.alloc Nl _)) ⟨w9.heap.size,0,none⟩ 1 1 [.iface T xv] rfl rfl ?c1 ?c2 ?c3 ?c4 ?c5 ?_)
  case c1=>exact cell_one_new _ _ _
  case c2=>intro u hu;obtain rfl:=(by simpa using hu);rfl
  case c3=>unfold maxLen;omega
  case c4=>omega
  case c5=>simp;omega
  intro v' w13 hown13 hgrow13 hnil
  clear hnil
  obtain⟨A13,c13,rfl,_⟩:=AF hown13
  have ha13:=HA12.out.below hG hB (Bl.alloc Nl (.cells #[.iface T xv] 77))
  have HAC:=Hd (ha13.setC hG hB hgrow13 hown13)
  have hmid:=ha13.mid hgrow13
  have y1:=(AY hmid).2
  have f1:=AB hmid 1
  clear hown13 hgrow13 ha13 z1 hzb hmid
  go_upto_region 28 with(go_at_call 69;refine(AO HAC.out.P HDK.out).mono ?_;rintro e w14 ⟨rfl,hp14,hg14⟩)
  have ha14:=HAC.out.step hG hB hg14 hp14
  have hb15:Below w14.heap.size w14 (w14.alloc (.cells #[.int .u8 k,.string y] 118)):=Bl.alloc Nl _
  have HA15:=Hd (ha14.below hG hB hb15)
  have x15:=(AY (heap_alloc_new w14 (.cells #[.int .u8 k,.string y] 118))).1
  obtain⟨q14,hq14⟩:∃q,w14.heap.size=q:=⟨_,rfl⟩
  rw[hq14]at x15 ⊢
  clear ha14 hp14 hg14 hb15 hq14 y1 f1
  generalize w14.alloc (.cells #[.int .u8 k,.string y] 118)=w15 at *
  rcases HKK.out with⟨rfl,hS2,hi2⟩|⟨rfl,hel⟩
  .obtain⟨c0,c1,_,_⟩:=HA15.out.cells
   have HS2:=Hd hS2;have HI2:=Hd hi2;clear hS2 hi2;go_wp2_with fail
   first|(rw[Exit.noGoto_ret];go_ret2)|go_ret2
   refine⟨_,_,rfl,JG _ _ _ HA15.out.set,λt=>?_,HI2.out▸HA15.out.P,HA15.out.g⟩;have h:=congrFun HF2.out t;rw[HS2.out]at h;exact iff_of_eq h
  have HEL2:=Hd hel
  clear hel
  go_wp2_with fail
  go_roundg S2.length
  case rel=>exact⟨i2+1,_,_,_,_,_,S2,rfl,Om,HA15,HEL2,HF2,HXM2,HXL2,(λS hS=>HS1.out S (by rw[HSE.out];simp[hS]))⟩
  omega
 |false=>
  have hYe:Y≠[]:=of_decide_eq_false HDY.out
  have hSe:S ee:=HFEW.out.2 ((JR HYS.out).2 hYe)
  have hsm:∀s∈Y,s.size<=1000:=λs hs=>by have:=HFEW.out.1.2 s ((HYS.out s).1 hs);omega
  have HSMY:=Hd hsm
  obtain⟨z0,_,_,_⟩:=HA9.out.cells
  have hXL:=HXL1.out
  clear hsm
  go_upto_if 59 with(go_at_call 103;refine(DH HA9.out.set Om).mono ?_;rintro e w10 ⟨rfl,rfl⟩)
  generalize hdx:decide (X=[])=dX
  have HDX:=Hd hdx
  clear hdx
  cases dX with
  |true=>
   have hXe:X=[]:=of_decide_eq_true HDX.out
   go_upto_region 26 with(go_at_call 104;refine(JA HSY.out HSMY.out Om).mono ?_;rintro e w11 ⟨mZ,Z,rfl,hsZ,hZ,hb11⟩;obtain⟨oZ,rfl⟩:=hsZ.form;have ha11:=HA9.out.below hG hB hb11;obtain⟨q0,q1,q2,q3⟩:=ha11.cells;have HA11:=Hd ha11;have HSZ:=Hd hsZ;have HZ:=Hd hZ;clear ha11 hsZ hZ hb11)
   have HA12:=Hd (HA11.out.setM hG hB HSZ.out)
   have hZA:(λt=>t∈Z)=R4 S:=by funext t;apply propext;rw[HZ.out];exact⟨λ⟨s,h1,h2⟩=>⟨s,(HYS.out s).1 h1,h2⟩,λ⟨s,h1,h2⟩=>⟨s,(HYS.out s).2 h1,h2⟩⟩
   have HF2:=Hd (show FP (λt=>t∈Z) S2=FP (DY (ET ee)) Ss by rw[<-HF.out,HSE.out];show _=FP (GE (R4 S) _) S2;rw[PW (RM.2 ((JR HYS.out).2 hYe)) (by rw[hXe];simp),hZA])
   have HXM2:=Hd (show Z=[]\/ET ee∈Z from .inr ((HZ.out _).2 ⟨ee,(HYS.out ee).2 hSe,rfl⟩))
   have HXL2:=Hd (show Z.length<=6000 by have:=EY (L:=Y.map ET) HSZ.out.nd (λt ht=>by obtain⟨s,h1,h2⟩:=(HZ.out t).1 ht;exact List.mem_map.2 ⟨s,h1,h2.symm⟩);simp at this;omega)
   clear z0 q0 q1 q2 q3 hZA
   generalize w11.setCell ⟨w.heap.size+1,0,none⟩ (.map oZ)=w12 at *
   have ha:=HA12.out
   obtain⟨xs,hrow⟩:=ha.row
   have HROW:=Hd hrow
   obtain⟨_,z1,_,_⟩:=ha.cells
   have hfit:=ha.P.fit
   have hsml:=ha.P.small
   have hz:=ha.lt
   have hzb:=(((Below.refl w12.heap.size w12).alloc Nl (.cells #[.iface T xv] 77)).cell (p:=⟨w.heap.size+1,1,none⟩) hz).trans z1
   clear ha hrow
   go_wp2_with (at_builtin;refine wpList_append_own _ rfl _ _ 158 rfl (w.heap.size+1+1) 77 i0 .nilIface 1 16 Tryz.underlying158 hi hz0 hz1 hz2 rfl De _ _ _ rfl (AD HROW.out (Bl.alloc Nl _)) ⟨w12.heap.size,0,none⟩ 1 1 [.iface T xv] rfl rfl ?c1 ?c2 ?c3 ?c4 ?c5 ?_)
   case c1=>exact cell_one_new _ _ _
   case c2=>intro u hu;obtain rfl:=(by simpa using hu);rfl
   case c3=>unfold maxLen;omega
   case c4=>omega
   case c5=>simp;omega
   intro v' w13 hown13 hgrow13 hnil
   clear hnil
   obtain⟨A13,c13,rfl,_⟩:=AF hown13
   have ha13:=HA12.out.below hG hB (Bl.alloc Nl (.cells #[.iface T xv] 77))
   have HAC:=Hd (ha13.setC hG hB hgrow13 hown13)
   have hmid:=ha13.mid hgrow13
   have y1:=(AY hmid).2
   have f1:=AB hmid 1
   clear hown13 hgrow13 ha13 z1 hzb hmid
   go_upto_region 28 with(go_at_call 69;refine(AO HAC.out.P HDK.out).mono ?_;rintro e w14 ⟨rfl,hp14,hg14⟩)
   have ha14:=HAC.out.step hG hB hg14 hp14
   have hb15:Below w14.heap.size w14 (w14.alloc (.cells #[.int .u8 k,.string y] 118)):=Bl.alloc Nl _
   have HA15:=Hd (ha14.below hG hB hb15)
   have x15:=(AY (heap_alloc_new w14 (.cells #[.int .u8 k,.string y] 118))).1
   obtain⟨q14,hq14⟩:∃q,w14.heap.size=q:=⟨_,rfl⟩
   rw[hq14]at x15 ⊢
   clear ha14 hp14 hg14 hb15 hq14 y1 f1
   generalize w14.alloc (.cells #[.int .u8 k,.string y] 118)=w15 at *
   rcases HKK.out with⟨rfl,hS2,hi2⟩|⟨rfl,hel⟩
   .obtain⟨c0,c1,_,_⟩:=HA15.out.cells
    have HS2:=Hd hS2;have HI2:=Hd hi2;clear hS2 hi2;go_wp2_with fail
    first|(rw[Exit.noGoto_ret];go_ret2)|go_ret2
    refine⟨_,_,rfl,JG _ _ _ HA15.out.set,λt=>?_,HI2.out▸HA15.out.P,HA15.out.g⟩;have h:=congrFun HF2.out t;rw[HS2.out]at h;exact iff_of_eq h
   have HEL2:=Hd hel
   clear hel
   go_wp2_with fail
   go_roundg S2.length
   case rel=>exact⟨i2+1,_,_,_,_,_,S2,rfl,Om,HA15,HEL2,HF2,HXM2,HXL2,(λS hS=>HS1.out S (by rw[HSE.out];simp[hS]))⟩
   omega
  |false=>
   have hXe:X≠[]:=of_decide_eq_false HDX.out
   obtain⟨b2,hmb,hset2⟩:∃b2,m=.map (some b2)/\CD w9 b2 X.length X:=by
    rcases HA9.out.set with⟨_,h⟩|h
    .exact absurd h hXe
    exact h
   subst hmb
   have HB2:=Hd hset2
   clear hset2
   go_upto_region 22 with fail
   go_region_held3 (λW=>W.cell? ⟨w.heap.size+1,0,none⟩=some (.map (some b2))) (first|exact z0|exact q1|exact q0) (first
    |(go_at_call 104;go_loud (refine(JA (show DX w9.drew mY Y from HSY.out) HSMY.out Om).mono ?_;rintro e w11 ⟨mZ,Z,rfl,hsZ,hZ,hb11⟩;have HPK:=Hd (show DX w11 mZ Z/\(∀t,t∈Z↔∃s∈Y,t=ET s)/\Below w9.heap.size w9 w11 from⟨hsZ,hZ,((Below.refl w9.heap.size w9).drew).trans hb11⟩);clear hsZ hZ hb11;have q0:=(HA9.out.below hG hB HPK.out.2.2).cells.1))
    |(go_at_call 105;go_loud (refine(GS HPK.out.1 (HB2.out.below HPK.out.2.2 HB2.out.lt) (AEw HPK.out.1 HPK.out.2.1 hYL)).mono ?_;rintro e w12 ⟨mV,V,rfl,hsV,hV,hb12⟩;have HPV:=Hd (⟨hsV,hV,hb12⟩:DX w12 mV V/\(∀t,t∈V↔t∈Z/\t∈X)/\Below w11.heap.size w11 w12);clear hsV hV hb12;have q1:=((HA9.out.below hG hB HPK.out.2.2).below hG hB HPV.out.2.2).cells.1)))
   obtain⟨hsV,hV,hb12⟩:=HPV.out
   obtain⟨oV,rfl⟩:=hsV.form
   have HA13:=Hd ((HA9.out.below hG hB HPK.out.2.2).below hG hB hb12)
   have HXe:ET ee∈X:=HXM1.out.resolve_left hXe
   have hVee:ET ee∈V:=(hV _).2 ⟨(HPK.out.2.1 _).2 ⟨ee,(HYS.out ee).2 hSe,rfl⟩,HXe⟩
   have hVne:V≠[]:=λh=>by rw[h]at hVee;simp at hVee
   have hdv:decide (V=[])=false:=decide_eq_false hVne
   have hVl:V.length<=6000:=Nat.le_trans (EY hsV.nd (λt ht=>((hV t).1 ht).2)) hXL
   have HSV:=Hd hsV
   have HVV:=Hd hV
   clear q0 q1 z0 hsV hV hb12
   obtain⟨q0,q1,q2,q3⟩:=HA13.out.cells
   go_upto_region 26 with(go_at_call 103;refine(DH HSV.out Om).mono ?_;rintro e w13 ⟨rfl,rfl⟩;rw[hdv])
   have HA12:=Hd (HA13.out.setM hG hB HSV.out)
   have hVA:(λt=>t∈V)=λt=>R4 S t/\t∈X:=by funext t;apply propext;rw[HVV.out,HPK.out.2.1];exact⟨λ⟨⟨s,h1,h2⟩,h3⟩=>⟨⟨s,(HYS.out s).1 h1,h2⟩,h3⟩,λ⟨⟨s,h1,h2⟩,h3⟩=>⟨⟨s,(HYS.out s).2 h1,h2⟩,h3⟩⟩
   have HF2:=Hd (show FP (λt=>t∈V) S2=FP (DY (ET ee)) Ss by rw[<-HF.out,HSE.out];show _=FP (GE (R4 S) _) S2;rw[RJ (RM.2 ((JR HYS.out).2 hYe)) ⟨_,HXe⟩,hVA])
   have HXM2:=Hd (show V=[]\/ET ee∈V from .inr hVee)
   have HXL2:=Hd hVl
   clear q0 q1 q2 q3 hVA hVee hVne hdv hVl HXe
   generalize w12.setCell ⟨w.heap.size+1,0,none⟩ (.map oV)=w16 at *
   have ha:=HA12.out
   obtain⟨xs,hrow⟩:=ha.row
   have HROW:=Hd hrow
   obtain⟨_,z1,_,_⟩:=ha.cells
   have hfit:=ha.P.fit
   have hsml:=ha.P.small
   have hz:=ha.lt
   have hzb:=(((Below.refl w16.heap.size w16).alloc Nl (.cells #[.iface T xv] 77)).cell (p:=⟨w.heap.size+1,1,none⟩) hz).trans z1
   clear ha hrow
   go_wp2_with (at_builtin;refine wpList_append_own _ rfl _ _ 158 rfl (w.heap.size+1+1) 77 i0 .nilIface 1 16 Tryz.underlying158 hi hz0 hz1 hz2 rfl De _ _ _ rfl (AD HROW.out (Bl.alloc Nl _)) ⟨w16.heap.size,0,none⟩ 1 1 [.iface T xv] rfl rfl ?c1 ?c2 ?c3 ?c4 ?c5 ?_)
   case c1=>exact cell_one_new _ _ _
   case c2=>intro u hu;obtain rfl:=(by simpa using hu);rfl
   case c3=>unfold maxLen;omega
   case c4=>omega
   case c5=>simp;omega
   intro v' w13 hown13 hgrow13 hnil
   clear hnil
   obtain⟨A13,c13,rfl,_⟩:=AF hown13
   have ha13:=HA12.out.below hG hB (Bl.alloc Nl (.cells #[.iface T xv] 77))
   have HAC:=Hd (ha13.setC hG hB hgrow13 hown13)
   have hmid:=ha13.mid hgrow13
   have y1:=(AY hmid).2
   have f1:=AB hmid 1
   clear hown13 hgrow13 ha13 z1 hzb hmid
   go_upto_region 28 with(go_at_call 69;refine(AO HAC.out.P HDK.out).mono ?_;rintro e w14 ⟨rfl,hp14,hg14⟩)
   have ha14:=HAC.out.step hG hB hg14 hp14
   have hb15:Below w14.heap.size w14 (w14.alloc (.cells #[.int .u8 k,.string y] 118)):=Bl.alloc Nl _
   have HA15:=Hd (ha14.below hG hB hb15)
   have x15:=(AY (heap_alloc_new w14 (.cells #[.int .u8 k,.string y] 118))).1
   obtain⟨q14,hq14⟩:∃q,w14.heap.size=q:=⟨_,rfl⟩
   rw[hq14]at x15 ⊢
   clear ha14 hp14 hg14 hb15 hq14 y1 f1
   generalize w14.alloc (.cells #[.int .u8 k,.string y] 118)=w15 at *
   rcases HKK.out with⟨rfl,hS2,hi2⟩|⟨rfl,hel⟩
   .obtain⟨c0,c1,_,_⟩:=HA15.out.cells
    have HS2:=Hd hS2;have HI2:=Hd hi2;clear hS2 hi2;go_wp2_with fail
    first|(rw[Exit.noGoto_ret];go_ret2)|go_ret2
    refine⟨_,_,rfl,JG _ _ _ HA15.out.set,λt=>?_,HI2.out▸HA15.out.P,HA15.out.g⟩;have h:=congrFun HF2.out t;rw[HS2.out]at h;exact iff_of_eq h
   have HEL2:=Hd hel
   clear hel
   go_wp2_with fail
   go_roundg S2.length
   case rel=>exact⟨i2+1,_,_,_,_,_,S2,rfl,Om,HA15,HEL2,HF2,HXM2,HXL2,(λS hS=>HS1.out S (by rw[HSE.out];simp[hS]))⟩
   omega
theorem VM{G:World->Prop}{B:Nat}{w:World}{r n c i:Nat}{A:Option Addr}{All:List AW}{sg y:ByteArray}{rest:List AW}(hG:DC G B)(hB:B<=r)(hp:MM w r A n c All i)(hw:G w)(hd:All.drop i=(6,y)::rest)(hsg:sg.size<=1000) :
 Calls Tryz.prog 74 #[.pointer (some ⟨r,0,none⟩),.agg #[.string sg]] w (MkP w r A n c All (i+1) (DY sg)):=by
 have hmm:=@run_makeMap Tryz.prog
 have hrl:=hp.lt
 have hb0:Below w.heap.size w (w.alloc (.cells #[.string sg] 115)):=Bl.alloc Nl _
 have hb1:Below w.heap.size w ((w.alloc (.cells #[.string sg] 115)).alloc (.cells #[.map none,.slice none 0 0] 160)):=hb0.alloc Sm _
 have hc1:((w.alloc (.cells #[.string sg] 115)).alloc (.cells #[.map none,.slice none 0 0] 160)).heap[w.heap.size]?=some (.cells #[.string sg] 115 (0,0)):=(Below.heap_alloc _ _ w.heap.size Sm).trans (heap_alloc_new _ _)
 have hn1:((w.alloc (.cells #[.string sg] 115)).alloc (.cells #[.map none,.slice none 0 0] 160)).heap[w.heap.size+1]?=some (.cells #[.map none,.slice none 0 0] 160 (0,0)):=by have:=heap_alloc_new (w.alloc (.cells #[.string sg] 115)) (.cells #[.map none,.slice none 0 0] 160);simpa using this
 have hs1:((w.alloc (.cells #[.string sg] 115)).alloc (.cells #[.map none,.slice none 0 0] 160)).heap.size=w.heap.size+2:=by simp
 have ha1:T5 G w ((w.alloc (.cells #[.string sg] 115)).alloc (.cells #[.map none,.slice none 0 0] 160)) r A n c All i (w.heap.size+1) (.map none) none 0 0 []:=
  ⟨hp.below hb1,hG _ _ hw (hb1.mono Om),⟨hb1.os,hb1.tape,hb1.output,hb1.size,λq hq _=>hb1.block q hq⟩,Om,hrl,hn1,.inl ⟨rfl,rfl⟩,[],⟨rfl,.inl ⟨rfl,rfl⟩⟩⟩
 have HD1:=Hd hd
 clear hp hw hd hb0 hb1 hn1
 go_enter Tryz.func74,Tryz.ntmps74
 go_wp2_with fail
 go_step3
 go_upto_region 2 with fail
 generalize (w.alloc (.cells #[.string sg] 115)).alloc (.cells #[.map none,.slice none 0 0] 160)=wb at *
 have x0:=BE hc1
 have HA1:=Hd ha1
 have HC1:=Hd hc1
 clear ha1 hc1
 by_cases hz:sg.size=0
 .obtain rfl:=O6 hz
  go_upto_region 4 with fail;have HA0:=HA1;have HX0:=Hd (show ∀t,t∈([]:List ByteArray)↔DY ⟨#[]⟩ t from λt=>by simp[DY];intro h _;exact absurd rfl h);clear HA1 HC1 x0;have hnew:=HA0.out.new;have hrb:=HA0.out.rb;go_upto_region 5 with(go_at_call 69;refine(AO HA0.out.P HD1.out).mono ?_;rintro e w5 ⟨rfl,hp5,hg5⟩);have ha5:=HA0.out.step hG hB hg5 hp5;have hb6:Below w5.heap.size w5 (w5.alloc (.cells #[.int .u8 6,.string y] 118)):=Bl.alloc Nl _;have HA6:=Hd (ha5.below hG hB hb6);have x6:=(AY (heap_alloc_new w5 (.cells #[.int .u8 6,.string y] 118))).1;obtain⟨q5,hq5⟩:∃q,w5.heap.size=q:=⟨_,rfl⟩;rw[hq5]at x6 ⊢;clear ha5 hp5 hg5 hb6 hq5;generalize w5.alloc (.cells #[.int .u8 6,.string y] 118)=w6 at *;obtain⟨c0,c1,_,_⟩:=HA6.out.cells;go_wp2_with fail
  first|(rw[Exit.noGoto_ret];go_ret2)|go_ret2
  exact⟨_,_,rfl,JG _ _ _ HA6.out.set,HX0.out,HA6.out.P,HA6.out.g⟩
 have hie:=LS hz
 have hbm:Below wb.heap.size wb (wb.alloc (.map #[] 0)):=Bl.alloc Nl _
 have x0m:=(hbm.cell (p:=⟨w.heap.size,0,none⟩) (by show w.heap.size<_;omega)).trans x0
 have HBM:=Hd hbm
 have HSM:=Hd (show CD (wb.alloc (.map #[] 0)) (w.heap.size+2) 0 [] by rw[<-hs1];exact C6 wb)
 clear hbm
 go_upto_region 4 with(refine EX _ rfl _ _ _ rfl (w.heap.size+2) 0 [] sg rfl rfl rfl HSM.out Om Om ?_;intro w3 X3 hset hy hg3;have hmm3:Below wb.heap.size wb w3:=HBM.out.grown hg3 Sm (λk hk=>by cases hk;omega);have ha3:=HA1.out.below hG hB hmm3;obtain⟨z0,z1,z2,z3⟩:=ha3.cells;have HA3:=Hd ha3;clear ha3 hmm3)
 have HA0:=Hd (HA3.out.setM hG hB (.inr ⟨_,rfl,hset.tight⟩))
 have HX0:=Hd (show ∀t,t∈X3↔DY sg t from λt=>by rw[hy];simp[DY,hz])
 clear HA1 HC1 x0 HA3 HBM HSM x0m z0 z1 z2 z3 hset hy hg3 hie
 generalize w3.setCell ⟨w.heap.size+1,0,none⟩ (.map (some (w.heap.size+2)))=w4 at *
 have hnew:=HA0.out.new
 have hrb:=HA0.out.rb
 go_upto_region 5 with(go_at_call 69;refine(AO HA0.out.P HD1.out).mono ?_;rintro e w5 ⟨rfl,hp5,hg5⟩)
 have ha5:=HA0.out.step hG hB hg5 hp5
 have hb6:Below w5.heap.size w5 (w5.alloc (.cells #[.int .u8 6,.string y] 118)):=Bl.alloc Nl _
 have HA6:=Hd (ha5.below hG hB hb6)
 have x6:=(AY (heap_alloc_new w5 (.cells #[.int .u8 6,.string y] 118))).1
 obtain⟨q5,hq5⟩:∃q,w5.heap.size=q:=⟨_,rfl⟩
 rw[hq5]at x6 ⊢
 clear ha5 hp5 hg5 hb6 hq5
 generalize w5.alloc (.cells #[.int .u8 6,.string y] 118)=w6 at *
 obtain⟨c0,c1,_,_⟩:=HA6.out.cells
 go_wp2_with fail
 first|(rw[Exit.noGoto_ret];go_ret2)|go_ret2
 exact⟨_,_,rfl,JG _ _ _ HA6.out.set,HX0.out,HA6.out.P,HA6.out.g⟩
