/- Lemmas for FnVtSigsEntry; no conditions. -/
import Derived.Test.YtbnbadcnfchdhaaGreatDoorP31
import Derived.Shelf.Wr.WriteRune
import Derived.Lib.BufferOld
set_option maxRecDepth 100000
set_option maxHeartbeats 16000000
set_option linter.all false
namespace Go.Proofs.YtbnbadcnfchdhaaGreatDoor
open Go.RowKit
def Tryz.laysWr5_ren:Go.Shelf.Ren:=⟨fun|5=>124|7=>144|8=>145|9=>146|10=>147|11=>167|12=>168|13=>169|14=>170|15=>187|n=>n,fun|0=>0|3=>3|4=>4|5=>5|9=>9|20=>20|21=>21|22=>109|24=>190|26=>192|28=>59|31=>164|34=>188|35=>142|37=>93|43=>91|n=>n,fun|0=>9|n=>n⟩
theorem Tryz.laysWr5:Go.Proofs.LaysWr.n5 Tryz.prog Tryz.laysWr5_ren:={
 mixed:=Kr
 f5:=Tryz.func124.trans (congrArg some Kr)
 f7:=Tryz.func144.trans (congrArg some Kr)
 f8:=Tryz.func145.trans (congrArg some Kr)
 f9:=Tryz.func146.trans (congrArg some Kr)
 f10:=Tryz.func147.trans (congrArg some Kr)
 f11:=Tryz.func167.trans (congrArg some Kr)
 f12:=Tryz.func168.trans (congrArg some Kr)
 f13:=Tryz.func169.trans (congrArg some Kr)
 f14:=Tryz.func170.trans (congrArg some Kr)
 f15:=Tryz.func187.trans (congrArg some Kr)
 t0:=Tryz.underlying0
 a0:=Tryz.isAgg0
 z0:=Tryz.sizeOf0
 v0:=Tryz.zeroValue0
 i0:=Kr
 t3:=Tryz.underlying3
 a3:=Tryz.isAgg3
 z3:=Tryz.sizeOf3
 v3:=Tryz.zeroValue3
 i3:=Kr
 t4:=Tryz.underlying4
 a4:=Tryz.isAgg4
 z4:=Tryz.sizeOf4
 v4:=Tryz.zeroValue4
 i4:=Kr
 t5:=Tryz.underlying5
 a5:=Tryz.isAgg5
 z5:=Tryz.sizeOf5
 v5:=Tryz.zeroValue5
 i5:=Kr
 t9:=Tryz.underlying9
 a9:=Tryz.isAgg9
 z9:=Tryz.sizeOf9
 v9:=Tryz.zeroValue9
 i9:=Kr
 t20:=Tryz.underlying20
 a20:=Tryz.isAgg20
 z20:=Tryz.sizeOf20
 v20:=Tryz.zeroValue20
 i20:=Kr
 t21:=Tryz.underlying21
 a21:=Tryz.isAgg21
 z21:=Tryz.sizeOf21
 v21:=Tryz.zeroValue21
 i21:=Kr
 t22:=Tryz.underlying109
 a22:=Tryz.isAgg109
 z22:=Tryz.sizeOf109
 v22:=Tryz.zeroValue109
 i22:=Kr
 t24:=Tryz.underlying190
 a24:=Tryz.isAgg190
 z24:=Tryz.sizeOf190
 v24:=Tryz.zeroValue190
 i24:=Kr
 t26:=Tryz.underlying192
 a26:=Tryz.isAgg192
 z26:=Tryz.sizeOf192
 v26:=Tryz.zeroValue192
 i26:=Kr
 t28:=Tryz.underlying59
 a28:=Tryz.isAgg59
 z28:=Tryz.sizeOf59
 v28:=Tryz.zeroValue59
 i28:=Kr
 t31:=Tryz.underlying164
 a31:=Tryz.isAgg164
 z31:=Tryz.sizeOf164
 v31:=Tryz.zeroValue164
 i31:=Kr
 t34:=Tryz.underlying188
 a34:=Tryz.isAgg188
 z34:=Tryz.sizeOf188
 v34:=Tryz.zeroValue188
 i34:=Kr
 t35:=Tryz.underlying142
 a35:=Tryz.isAgg142
 z35:=Tryz.sizeOf142
 v35:=Tryz.zeroValue142
 i35:=Kr
 t37:=Tryz.underlying93
 a37:=Tryz.isAgg93
 z37:=Tryz.sizeOf93
 v37:=Tryz.zeroValue93
 i37:=Kr
 t43:=Tryz.underlying91
 a43:=Tryz.isAgg91
 z43:=Tryz.sizeOf91
 v43:=Tryz.zeroValue91
 i43:=Kr
 g0:=Kr
 m0:=by kernel_rfl }
theorem CN(B b:Nat)(l:List UInt8)(r:Int)(hr0:-2147483648<=r)(hr1:r<=2147483647)(w:World)(h:Lib.IsBuffer 192 5 B b (Lib.byteCells l) w)(hBw:B<=w.heap.size)(hlim:l.length<=10000000) :
 Calls Tryz.prog 124 #[.pointer (some ⟨b,0,none⟩),.int .i32 r] w λe w'=>∃(n:Int) (l':List UInt8),e=.returned (.tuple #[.int .i64 n,.nilIface])/\Lib.IsBuffer 192 5 B b (Lib.byteCells l') w'/\l'.length<=l.length+4/\RowKit.Below B w w':=by
 refine(Any.Buffer_WriteRune_k Tryz.laysWr5 B b _ r hr0 hr1 w h hBw (Lib.byteCells_one l) (by rw[Lib.byteCells_length];omega)).mono ?_
 rintro e w' ⟨rfl,h1,h2,_⟩
 refine⟨_,l++Lib.encodeRune r,rfl,?_,?_,h2⟩
 .rw[Lib.byteCells_append,Lib.byteCells_encodeRune];exact h1
 have:=(Lib.runeCells_le r).2
 rw[Lib.runeCells_length]at this
 simp;omega
def ADa(x:ByteArray):Prop:=(AA x 0=48->AA x 1=120->x.size=3\/AA x 2≠48)/\(AA x 0=43\/AA x 0=45->AA x 1=48->x.size=2\/AA x 2=46)
def D9(x:ByteArray):Nat×ByteArray:=
 if AA x 0=48 then if 3<=x.size/\AA x 1=120 then(16,x.extract 2 x.size) else if x.size=1 then(10,x) else(8,x.extract 1 x.size) else(10,x)
theorem AJk{l:List UInt8}(h:l.length=1):l=[l.getD 0 0]:=by obtain⟨a,rfl⟩:=List.length_eq_one_iff.1 h;rfl
theorem ACp{x:ByteArray}(h1:1<=x.size)(k:Nat):CZ x k=BQ (D9 x).1 (IQ k) (D9 x).2.data.toList 0:=by
 unfold CZ;rw[if_neg Om];unfold ZB D9;split
 .rename_i h0
  split
  .rfl
  by_cases hs:x.size=1
  .rw[if_pos hs]
   have hl:x.data.toList.length=1:=hs;have h2:=AJk hl;have h3:(x.data.toList.getD 0 0).toNat=48:=by unfold AA at h0;omega
   have he:(x.extract 1 x.size).data.toList=[]:=by rw[B6,List.drop_take,hs];simp
   show BQ 8 (IQ k) (x.extract 1 x.size).data.toList 0=BQ 10 (IQ k) x.data.toList 0;rw[he,h2];unfold BQ;rw[h3];rfl
  rw[if_neg hs]
 rfl
theorem AH9{x:ByteArray}(h:EO x):1<=(D9 x).2.size/\(D9 x).2.size<=100000/\((D9 x).1=16\/(D9 x).1=8\/(D9 x).1=10)/\∀i,i<(D9 x).2.size->AA (D9 x).2 i≠95:=by
 obtain⟨hs,h1⟩:=FG h;have hu:=IL h;have hext:∀a,a<=x.size->∀i,i<(x.extract a x.size).size->AA (x.extract a x.size) i≠95:=λa ha i hi=>by rw[AU _ _ ha]at hi;rw[BC];exact hu _ Om
 unfold D9;split
 .split
  .rename_i h2
   exact⟨by rw[AU _ _ Om];omega,by rw[AU _ _ Om];omega,.inl rfl,hext 2 Om⟩
  split
  .exact⟨h1,hs,.inr (.inr rfl),hu⟩
  exact⟨by rw[AU _ _ Om];omega,by rw[AU _ _ Om];omega,.inr (.inl rfl),hext 1 Om⟩
 exact⟨h1,hs,.inr (.inr rfl),hu⟩
theorem UJ(b:Nat)(t:ByteArray)(hb:b=16\/b=8\/b=10)(h1:1<=t.size)(hs:t.size<=100000)(hu:∀i,i<t.size->AA t i≠95)(k:Nat)(hk:8<=k)(hk2:k<=64)(w:World) :
 Calls Tryz.prog 98 #[.string t,.int .i64 b,.int .i64 k] w λe w'=>e=.returned (.tuple #[.int .u64 (BQ b (IQ k) t.data.toList 0).1,CY (BQ b (IQ k) t.data.toList 0).2])/\Below w.heap.size w w':=by
 have hu2:∀i,i<t.size->(t.data.toList.getD i 0).toNat≠95:=λi hi=>by have:=hu i hi;unfold AA at this;omega
 rcases hb with rfl|rfl|rfl
 .exact APy t hs Om hu2 k hk hk2 w
 .exact AQs t hs Om hu2 k hk hk2 w
 exact AQm t hs Om hu2 k hk hk2 w
theorem AJ5{x:ByteArray}(h:EO x)(k:Nat)(hk:8<=k)(hk2:k<=64)(h0:(CZ x k).2=0)(w:World)(hE:FN w) :
 Calls Tryz.prog 65 #[.string (D9 x).2,.int .i64 (D9 x).1,.int .i64 k] w λe w'=>∃n:Int,e=.returned (.tuple #[.int .u64 n,.nilIface])/\Below w.heap.size w w':=by
 obtain⟨a1,a2,a3,a4⟩:=AH9 h
 have he:=ACp (FG h).2 k
 refine(AEk (D9 x).2 a2 _ k w hE 0 De ?_).mono ?_
 .refine(UJ _ _ a3 a1 a2 a4 k hk hk2 w).mono ?_
  rintro e w' ⟨rfl,hb⟩;rw[he]at h0;exact⟨_,by rw[h0],hb⟩
 rintro e w' ⟨n,v,rfl,hn,hb⟩
 unfold CQ at hn
 simp at hn
 subst hn
 exact⟨n,rfl,hb⟩
theorem O0{x:ByteArray}(h:AA x 0≠48):D9 x=(10,x):=by unfold D9;rw[if_neg h]
theorem AMb{x:ByteArray}(h:EO x)(hr:ADa x)(k:Nat)(hk:8<=k)(hk2:k<=64)(h0:K6 x k=0)(w:World)(hE:FN w) :
 Calls Tryz.prog 64 #[.string (D9 x).2,.int .i64 (D9 x).1,.int .i64 k] w λe w'=>∃n:Int,e=.returned (.tuple #[.int .i64 n,.nilIface])/\Below w.heap.size w w':=by
 obtain⟨a1,a2,a3,a4⟩:=AH9 h
 obtain⟨hs,h1⟩:=FG h
 suffices hc:Calls Tryz.prog 97 #[.string (D9 x).2,.int .i64 (D9 x).1,.int .i64 k] w λe w'=>∃n:Int,e=.returned (.tuple #[.int .i64 n,CY 0])/\Below w.heap.size w w' by refine(AQk (D9 x).2 a2 _ k w hE 0 De hc).mono ?_;rintro e w' ⟨n,v,rfl,hn,hb⟩;unfold CQ at hn;simp at hn;subst hn;exact⟨n,rfl,hb⟩
 by_cases hsg:AA x 0=43\/AA x 0=45
 .rw[O0 Om]at *
  have h2:2<=x.size:=by
   rcases h with h|⟨i0,i1,i2,neg,eneg,h⟩
   .have:=h.zero;omega
   have:=h.sign;have:=h.some;have:=h.fits;omega
  have e1:=AU x 1 Om;have hu:∀i,i<(x.extract 1 x.size).size->AA (x.extract 1 x.size) i≠95:=λi hi=>by rw[e1]at hi;rw[BC];exact IL h _ Om
  have hp:∀neg,BP neg k (CZ (x.extract 1 x.size) k)=0->BP neg k (BQ 10 (IQ k) (x.extract 1 x.size).data.toList 0)=0:=by
   intro neg hz;rw[ACp Om]at hz;by_cases h48:AA x 1=48
   .rcases hr.2 hsg h48 with h3|h3
    .have:D9 (x.extract 1 x.size)=(10,x.extract 1 x.size):=by
      unfold D9;rw[if_pos (by rw[BC];exact h48),if_neg Om,if_pos Om]
     rw[this]at hz;exact hz
    exfalso;have h4:¬x.size=2:=by
     intro e;have:AA x 2=0:=by unfold AA;rw[List.getD_eq_getElem?_getD,List.getElem?_eq_none (by show x.size<=2;omega)];rfl
     omega
    have:D9 (x.extract 1 x.size)=(8,(x.extract 1 x.size).extract 1 (x.extract 1 x.size).size):=by unfold D9;rw[if_pos (by rw[BC];exact h48),if_neg (by rintro ⟨_,e⟩;rw[BC]at e;have e':AA x 2=120:=e;omega),if_neg Om]
    rw[this]at hz;have e2:((x.extract 1 x.size).extract 1 (x.extract 1 x.size).size).data.toList=x.data.toList.drop 2:=by rw[B6,B6];rw[List.take_of_length_le (by simp[ByteArray.size_extract]),List.take_of_length_le Sm];simp
    have e3:∃c l,x.data.toList.drop 2=c::l/\c.toNat=46:=by
     have hl:2<x.data.toList.length:=by show 2<x.size;omega
     refine⟨_,_,List.drop_eq_getElem_cons hl,?_⟩;unfold AA at h3;rw[List.getD_eq_getElem?_getD,List.getElem?_eq_getElem hl]at h3;have h5:((x.data.toList[2]).toNat:Int)=46:=h3;omega
    obtain⟨c,l,e3,e4⟩:=e3;simp only[e2,e3]at hz;unfold BQ at hz;rw[e4]at hz;simp[E7,BP]at hz
   rw[O0 (by rw[BC];exact h48)]at hz;exact hz
  have hcall:∀W,Calls Tryz.prog 98 #[.string (x.extract 1 x.size),.int .i64 10,.int .i64 k] W λe w'=>e=.returned (.tuple #[.int .u64 (BQ 10 (IQ k) (x.extract 1 x.size).data.toList 0).1,CY (BQ 10 (IQ k) (x.extract 1 x.size).data.toList 0).2])/\Below W.heap.size W w':=λW=>UJ 10 _ (.inr (.inr rfl)) Om Om hu k hk hk2 W;have hle:=(NJ (b:=10) (M:=IQ k) (x.extract 1 x.size).data.toList 0 (Nat.zero_le _)).2;unfold K6 at h0;rcases hsg with h43|h45
  .rw[if_pos h43]at h0
   have:=RW x _ false hs Om (.inr (.inl ⟨h43,rfl,rfl⟩)) 10 k hk hk2 _ hle hcall w;rw[hp false h0]at this;exact this
  rw[if_neg Om,if_pos h45]at h0;have:=RW x _ true hs Om (.inr (.inr ⟨h45,rfl,rfl⟩)) 10 k hk hk2 _ hle hcall w;rw[hp true h0]at this;exact this
 have hn:AA x 0≠43/\AA x 0≠45:=Om
 unfold K6 at h0
 rw[if_neg hn.1,if_neg hn.2,ACp h1]at h0
 have hns:AA (D9 x).2 0≠43/\AA (D9 x).2 0≠45:=by
  unfold D9;split
  .rename_i e0
   split
   .rename_i e1
    show AA (x.extract 2 x.size) 0≠43/\AA (x.extract 2 x.size) 0≠45;rw[BC];rcases h with h|⟨i0,i1,i2,neg,eneg,h⟩
    .have:=h.digit 2 Om Om;show AA x 2≠43/\AA x 2≠45;omega
    have:=h.sign;have e:i0=0:=Om;have:=(O5 h _ rfl).1;rw[e]at this;exact absurd e1.2 this
   split
   .exact hn
   rename_i e1 e2;show AA (x.extract 1 x.size) 0≠43/\AA (x.extract 1 x.size) 0≠45;rw[BC];rcases h with h|⟨i0,i1,i2,neg,eneg,h⟩
   .exact absurd ⟨h.three,h.x⟩ e1
   have hsi:=h.sign;have e:i0=0:=Om;subst e;show AA x 1≠43/\AA x 1≠45;by_cases hm:1<i1
   .have:=h.mant 1 Om hm;omega
   have:=h.some;have e3:i1=1:=Om;rcases h.tail with ht|⟨ht,_⟩
   .omega
   rw[e3]at ht;omega
  exact hn
 have hle:=(NJ (b:=(D9 x).1) (M:=IQ k) (D9 x).2.data.toList 0 (Nat.zero_le _)).2
 have:=RW (D9 x).2 (D9 x).2 false a2 Om (.inl ⟨hns.1,hns.2,rfl,rfl⟩) (D9 x).1 k hk hk2 _ hle (λW=>UJ _ _ a3 a1 a2 a4 k hk hk2 W) w
 rw[h0]at this
 exact this
def dR(t:ByteArray):Int:=((Lib.decodeGo t).1:Int)
def dK(t:ByteArray):Nat:=(Lib.decodeGo t).2
def TM(t:ByteArray):Prop:=dR t=65533/\dK t=1
def rest(t:ByteArray)(k:Nat):ByteArray:=t.extract k t.size
def AGx(m:Nat)(t:ByteArray):Prop:=m<=t.size/\∀i,i<m->DD (AA t i)=true
inductive TX:ByteArray->Prop
 |nil {t:ByteArray} (h:t.size=0):TX t
 |plain {t:ByteArray} (h:0<t.size) (hb:¬TM t) (hr:dR t≠92) (hg:TX (rest t (dK t))):TX t
 |esc {t:ByteArray} (h:0<t.size) (hr:dR t=92) (hb:¬TM (rest t (dK t))) (hn:dR (rest t (dK t))≠117/\dR (rest t (dK t))≠85) (hg:TX (rest (rest t (dK t)) (dK (rest t (dK t))))):TX t
 |hex {t:ByteArray} (m:Nat) (h:0<t.size) (hr:dR t=92) (hn:dR (rest t (dK t))=117/\m=4\/dR (rest t (dK t))=85/\m=8) (hx:AGx m (rest (rest t (dK t)) (dK (rest t (dK t))))) (hg:TX (rest (rest (rest t (dK t)) (dK (rest t (dK t)))) m)):TX t
theorem AJh{t:ByteArray}(h:0<t.size):1<=dK t/\dK t<=t.size:=by
 obtain⟨h1,h2,_⟩:=J7 t h;unfold dK;by_cases hc:AA t 0<128
 .have:=(h1 hc).2;omega
 have:=h2 Om;omega
theorem ADr{t:ByteArray}(h:t.size=0):dK t=0:=by unfold dK Lib.decodeGo;rw[if_pos h]
theorem APv(t:ByteArray):dK t<=t.size:=by
 by_cases h:0<t.size
 .exact(AJh h).2
 rw[ADr Om];omega
theorem DK(t:ByteArray)(k:Nat)(h:k<=t.size):(rest t k).size=t.size-k:=AU t k h
theorem AM9(t:ByteArray):0<=dR t/\dR t<=1114111:=by
 by_cases h:0<t.size
 .have:=(J7 t h).2.2
  unfold RU at this;unfold dR;omega
 unfold dR Lib.decodeGo;rw[if_pos Om];decide
theorem AMf{c:UInt8}(h:DD (c.toNat:Int)=true):∃d,E7 c.toNat=some d/\d<16:=by
 have:=JL h;unfold E7;by_cases h1:48<=c.toNat/\c.toNat<=57
 .exact⟨_,if_pos h1,Om⟩
 rw[if_neg h1];by_cases h2:97<=c.toNat/\c.toNat<=122
 .exact⟨_,if_pos h2,Om⟩
 rw[if_neg h2,if_pos Om];exact⟨_,rfl,Om⟩
theorem AH1(M:Nat):∀(l:List UInt8) (n:Nat),(∀c∈l,DD (c.toNat:Int)=true)->(n+1)*16^l.length<=M+1->(BQ 16 M l n).2=0
 |[],n,_,_=>rfl
 |c::l,n,h,hM=>by
  obtain⟨d,h1,h2⟩:=AMf (h c Sm);unfold BQ;rw[h1];have hp:1<=16^l.length:=Nat.pow_pos De;have e:16^(c::l).length=16*16^l.length:=by rw[List.length_cons,Nat.pow_succ,Nat.mul_comm]
  rw[e]at hM;have hm:(n*16+d+1)*16^l.length<=M+1:=by refine Nat.le_trans (Nat.mul_le_mul_right _ (show n*16+d+1<=(n+1)*16 by omega)) ?_;rw[Nat.mul_assoc];exact hM
  have hq:n*16+d+1<=(n*16+d+1)*16^l.length:=Nat.le_mul_of_pos_right _ hp;show (if 16<=d then(0,2) else if M<n*16+d then(M,1) else BQ 16 M l (n*16+d)).2=0;rw[if_neg Om,if_neg Om];exact AH1 M l _ (λc hc=>h c (by simp[hc])) hm
theorem AFy{m:Nat}{t:ByteArray}(h:AGx m t):(t.extract 0 m).data.toList.length=m/\∀c∈(t.extract 0 m).data.toList,DD (c.toNat:Int)=true:=by have hl:(t.extract 0 m).data.toList.length=m:=D6 h.1;refine⟨hl,λc hc=>?_⟩;obtain⟨i,hi,rfl⟩:=List.getElem_of_mem hc;have:=h.2 i Om;rw[<-BU t m i Om]at this;unfold AA at this;rw[List.getD_eq_getElem?_getD,List.getElem?_eq_getElem hi]at this;exact this
theorem VE{m k:Nat}{t:ByteArray}(h:AGx m t)(hm:1<=m)(hk:8<=k)(hk2:k<=64)(hmk:4*m<=k)(w:World)(hE:FN w) :
 Calls Tryz.prog 65 #[.string (t.extract 0 m),.int .i64 16,.int .i64 k] w λe w'=>∃n:Int,e=.returned (.tuple #[.int .u64 n,.nilIface])/\Below w.heap.size w w':=by
 obtain⟨hl,hh⟩:=AFy h
 have hs:(t.extract 0 m).size=m:=D6 h.1
 refine(AEk (t.extract 0 m) Om _ k w hE 0 De ?_).mono ?_
 .refine(UJ 16 _ (.inl rfl) Om Om (λi hi=>?_) k hk hk2 w).mono ?_
  .have:=h.2 i Om
   rw[BU t m i Om];have:=JL this;omega
  rintro e w' ⟨rfl,hb⟩;have hz:(BQ 16 (IQ k) (t.extract 0 m).data.toList 0).2=0:=by
   refine AH1 _ _ 0 hh ?_;rw[hl];unfold IQ;have:16^m<=2^k:=by rw[show (16:Nat)=2^4 by decide,<-Nat.pow_mul];exact Nat.pow_le_pow_right De hmk
   have h1:1<=2^k:=Nat.one_le_two_pow;omega
  exact⟨_,by rw[hz],hb⟩
 rintro e w' ⟨n,v,rfl,hn,hb⟩
 unfold CQ at hn
 simp at hn
 subst hn
 exact⟨n,rfl,hb⟩
theorem PA(z:Int):-2147483648<=wrap32 z/\wrap32 z<=2147483647:=by unfold wrap32;omega
theorem QA{x:ByteArray}(hx:2<=x.size)(hs:x.size<=100000)(hg:TX (x.extract 1 (x.size-1)))(W:World)(hU:Lib.Utf8Tabs 7 8 W)(h8:8<W.heap.size)(hE:FN W) :
 Calls Tryz.prog 100 #[.string x] W λe w'=>∃t,e=.returned (.tuple #[.string t,.nilIface])/\Below W.heap.size W w':=by
 have hI0:=Lib.fresh_isBuffer 192 5 W
 have hb0:Below W.heap.size W (W.alloc (.cells #[.slice none 0 0,.int .i64 0,.int .i8 0] 192)):=Bl.alloc Nl _
 have HI0:=Hd hI0
 have HB0:=Hd hb0
 have HT:=Hd (λ(w':World) (hb:Below W.heap.size W w')=>(⟨L4 hU hb h8,BH hE hb⟩:Lib.Utf8Tabs 7 8 w'/\FN w'))
 have HG:=Hd hg
 have h1:(1:Int)<=(x.size:Int)-1:=Om
 have h2:(1:Int)<=(x.size:Int):=Om
 have h3:((x.size:Int)-1).toNat=x.size-1:=Om
 have HZ:=Hd (show (x.extract 1 (x.size-1)).size+2=x.size by simp[ByteArray.size_extract];omega)
 clear hI0 hb0 hU hE hg
 go_enter Tryz.func100,Tryz.ntmps100
 go_upto_block 0 with fail
 generalize W.alloc (.cells #[.slice none 0 0,.int .i64 0,.int .i8 0] 192)=w0 at *
 generalize x.extract 1 (x.size-1)=t0 at *
 clear h1 h2 h3
 go_wp2_with fail
 go_loopg [0] t0.size (λg v0 wr=>∃(t:ByteArray) (l:List UInt8),v0=.string t/\t.size=g/\t.size<=t0.size/\Hid (l.length<=4*(t0.size-t.size))/\Hid (TX t)/\Hid (Lib.IsBuffer 192 5 W.heap.size W.heap.size (Lib.byteCells l) wr)/\Hid (Below W.heap.size W wr))
 case atStart=>exact⟨t0,[],rfl,rfl,Nl,(by show _<=_;simp),HG,HI0,HB0⟩
 obtain⟨t,l,rfl,hgt,hle,HL,HS,HI,HB⟩:=hrel
 have HT1:=Hd (HT.out wr HB.out)
 by_cases h0:t.size=0
 .have e0:((t.size:Int)!=0)=false:=by rw[h0];rfl
  clear HT1 hgt;go_wp2_with (go_at_call 125;refine(Tryz.Buffer_String _ _ l _ HI.out).mono ?_;rintro e w2 ⟨rfl,nn,rfl⟩)
  first|(rw[Exit.noGoto_ret];go_ret2)|go_ret2
  exact⟨_,rfl,F5 HB.out nn⟩
 have e0:((t.size:Int)!=0)=true:=by rw[bne_iff_ne];omega
 have HGT:=Hd hgt
 clear hgt
 have hk:=AJh (show 0<t.size by omega)
 have hr:=AM9 t
 have hc:¬TM t:=by
  cases HS.out with
  |nil h=>omega
  |plain h hb hr hg=>exact hb
  |esc h hr hb hn hg=>exactλe=>by have:=e.1;omega
  |hex m h hr hn hx hg=>exactλe=>by have:=e.1;omega
 have HS2:=HS
 go_upto_region 5 with(go_at_call 123;refine(Tryz.utf8_DecodeRuneInString t _ HT1.out.1).mono ?_;rintro e w2 ⟨rfl,hb2⟩;have HI2:=Hd (HI.out.old hb2);have HB2:=Hd (HB.out.trans (hb2.mono HB.out.size));clear hb2)
 obtain⟨r,hr'⟩:∃r,dR t=r:=⟨_,rfl⟩
 obtain⟨k,hk'⟩:∃k,dK t=k:=⟨_,rfl⟩
 have e1:((Lib.decodeGo t).1:Int)=r:=hr'
 have e2:(Lib.decodeGo t).2=k:=hk'
 rw[e1,e2]
 rw[hk']at hk
 rw[hr']at hr
 have HRK:=Hd (⟨hr',hk'⟩:dR t=r/\dK t=k)
 have HC:=Hd (show ¬(r=65533/\k=1) by unfold TM at hc;rw[hr',hk']at hc;exact hc)
 clear hr' hk' e1 e2 hc HI HB HT1
 go_cut [30] from 25 to 30 (λv30 wx=>v30=.bool false/\wx=w2)
 case first=>
  cases e65:(r==65533) with
  |false=>go_wp2_with fail;go_meet;exact⟨rfl,rfl⟩
  |true=>
   have ek:((k:Int)==1)=false:=by rw[Bn];have:=HC.out;have:=eq_of_beq e65;omega
   go_wp2_with fail;go_meet;exact⟨rfl,rfl⟩
 obtain⟨rfl,rfl⟩:=hcut
 have hk0:(0:Int)<=(k:Int):=Om
 have hkn:(k:Int)<=(t.size:Int):=Om
 go_upto_if 36 with fail
 obtain⟨t1,ht1⟩:∃t1,t.extract k t.size=t1:=⟨_,rfl⟩
 have HT1:=Hd (show rest t (dK t)=t1 by rw[HRK.out.2];exact ht1)
 have hz1:t1.size=t.size-k:=by rw[<-ht1];exact DK t k Om
 rw[ht1]
 have HZ1:=Hd hz1
 clear ht1 hz1
 by_cases h92:r=92
 .subst h92
  have hS:(¬TM t1/\(dR t1≠117/\dR t1≠85)/\TX (rest t1 (dK t1)))\/∃m,(dR t1=117/\m=4\/dR t1=85/\m=8)/\AGx m (rest t1 (dK t1))/\TX (rest (rest t1 (dK t1)) m):=by
   cases HS.out with
   |nil h=>omega
   |plain h hb hr hg=>exact absurd HRK.out.1 hr
   |esc h hr hb hn hg=>rw[HT1.out]at hb hn hg;exact .inl ⟨hb,hn,hg⟩
   |hex m h hr hn hx hg=>rw[HT1.out]at hn hx hg;exact .inr ⟨m,hn,hx,hg⟩
  have HS1:=Hd hS;have hc1:¬TM t1:=by
   rcases hS with⟨h,_⟩|⟨m,h,_⟩
   .exact h
   intro e;have:=e.1;omega
  have hr1:=AM9 t1;have hk1:=APv t1;have HT2:=Hd (HT.out wc HB2.out);clear hS HRK HC HT1 hr HS hk0 hkn;go_upto_region 11 with(go_at_call 123;refine(Tryz.utf8_DecodeRuneInString t1 _ HT2.out.1).mono ?_;rintro e w3 ⟨rfl,hb2⟩;have HI3:=Hd (HI2.out.old hb2);have HB3:=Hd (HB2.out.trans (hb2.mono HB2.out.size));clear hb2);obtain⟨r1,hr'⟩:∃r,dR t1=r:=⟨_,rfl⟩;obtain⟨k1,hk'⟩:∃k,dK t1=k:=⟨_,rfl⟩;have e1:((Lib.decodeGo t1).1:Int)=r1:=hr';have e2:(Lib.decodeGo t1).2=k1:=hk';rw[e1,e2];rw[hk']at hk1;rw[hr']at hr1;have HRK:=Hd (⟨hr',hk'⟩:dR t1=r1/\dK t1=k1);have HC:=Hd (show ¬(r1=65533/\k1=1) by unfold TM at hc1;rw[hr',hk']at hc1;exact hc1);clear hr' hk' e1 e2 hc1 HI2 HT2;go_cut [50] from 45 to 50 (λv50 wx=>v50=.bool false/\wx=w3)
  case first=>
   cases e65:(r1==65533) with
   |false=>go_wp2_with fail;go_meet;exact⟨rfl,rfl⟩
   |true=>
    have ek:((k1:Int)==1)=false:=by rw[Bn];have:=HC.out;have:=eq_of_beq e65;omega
    go_wp2_with fail;go_meet;exact⟨rfl,rfl⟩
  obtain⟨rfl,rfl⟩:=hcut;have hk0:(0:Int)<=(k1:Int):=Om;have hkn:(k1:Int)<=(t1.size:Int):=Om;go_upto_block 2 with fail;obtain⟨t2,ht2⟩:∃t2,t1.extract k1 t1.size=t2:=⟨_,rfl⟩;have HT2:=Hd (show rest t1 (dK t1)=t2 by rw[HRK.out.2];exact ht2);have hz2:t2.size=t1.size-k1:=by rw[<-ht2];exact DK t1 k1 Om
  rw[ht2];have HSO:=Hd (show (r1≠117/\r1≠85/\TX t2)\/∃m,(r1=117/\m=4\/r1=85/\m=8)/\AGx m t2/\TX (rest t2 m) by
   have h:=HS1.out;rw[HT2.out,HRK.out.1]at h;rcases h with⟨_,h1,h2⟩|h
   .exact .inl ⟨h1.1,h1.2,h2⟩
   exact .inr h)
  have HLC:=Hd (show l.length<=10000000 by have:=HL.out;have:=HZ.out;omega);have hzt:t2.size+1<=t.size:=by have:=HZ1.out;omega
  clear ht2 hz2 HS1 HT2 HRK HC hk0 hkn;rcases HSO.out with⟨h117,h85,hg2⟩|⟨m,hm,hxx,hg2⟩
  .have HS2:=Hd hg2
   clear hg2;by_cases e97:r1=97
   .subst e97
    go_wp2_with (go_at_call 124;refine(CN _ _ l 7 De De _ HI3.out HB3.out.size HLC.out).mono ?_;rintro e w4 ⟨nn,l',rfl,hI4,hl4,hb4⟩;have HI4:=Hd hI4;have HB4:=Hd (HB3.out.trans hb4);have HL4:=Hd hl4;clear hI4 hb4 hl4);go_roundg t2.size
    case rel=>exact⟨t2,l',rfl,rfl,Om,(by have:=HL.out;have:=HL4.out;show _<=_;omega),HS2,HI4,HB4⟩
    have:=HGT.out;omega
   have u97:(r1==97)=false:=Bn.2 e97;by_cases e98:r1=98
   .subst e98
    go_wp2_with (go_at_call 124;refine(CN _ _ l 8 De De _ HI3.out HB3.out.size HLC.out).mono ?_;rintro e w4 ⟨nn,l',rfl,hI4,hl4,hb4⟩;have HI4:=Hd hI4;have HB4:=Hd (HB3.out.trans hb4);have HL4:=Hd hl4;clear hI4 hb4 hl4);go_roundg t2.size
    case rel=>exact⟨t2,l',rfl,rfl,Om,(by have:=HL.out;have:=HL4.out;show _<=_;omega),HS2,HI4,HB4⟩
    have:=HGT.out;omega
   have u98:(r1==98)=false:=Bn.2 e98;by_cases e102:r1=102
   .subst e102
    go_wp2_with (go_at_call 124;refine(CN _ _ l 12 De De _ HI3.out HB3.out.size HLC.out).mono ?_;rintro e w4 ⟨nn,l',rfl,hI4,hl4,hb4⟩;have HI4:=Hd hI4;have HB4:=Hd (HB3.out.trans hb4);have HL4:=Hd hl4;clear hI4 hb4 hl4);go_roundg t2.size
    case rel=>exact⟨t2,l',rfl,rfl,Om,(by have:=HL.out;have:=HL4.out;show _<=_;omega),HS2,HI4,HB4⟩
    have:=HGT.out;omega
   have u102:(r1==102)=false:=Bn.2 e102;by_cases e110:r1=110
   .subst e110
    go_wp2_with (go_at_call 124;refine(CN _ _ l 10 De De _ HI3.out HB3.out.size HLC.out).mono ?_;rintro e w4 ⟨nn,l',rfl,hI4,hl4,hb4⟩;have HI4:=Hd hI4;have HB4:=Hd (HB3.out.trans hb4);have HL4:=Hd hl4;clear hI4 hb4 hl4);go_roundg t2.size
    case rel=>exact⟨t2,l',rfl,rfl,Om,(by have:=HL.out;have:=HL4.out;show _<=_;omega),HS2,HI4,HB4⟩
    have:=HGT.out;omega
   have u110:(r1==110)=false:=Bn.2 e110;by_cases e114:r1=114
   .subst e114
    go_wp2_with (go_at_call 124;refine(CN _ _ l 13 De De _ HI3.out HB3.out.size HLC.out).mono ?_;rintro e w4 ⟨nn,l',rfl,hI4,hl4,hb4⟩;have HI4:=Hd hI4;have HB4:=Hd (HB3.out.trans hb4);have HL4:=Hd hl4;clear hI4 hb4 hl4);go_roundg t2.size
    case rel=>exact⟨t2,l',rfl,rfl,Om,(by have:=HL.out;have:=HL4.out;show _<=_;omega),HS2,HI4,HB4⟩
    have:=HGT.out;omega
   have u114:(r1==114)=false:=Bn.2 e114;by_cases e116:r1=116
   .subst e116
    go_wp2_with (go_at_call 124;refine(CN _ _ l 9 De De _ HI3.out HB3.out.size HLC.out).mono ?_;rintro e w4 ⟨nn,l',rfl,hI4,hl4,hb4⟩;have HI4:=Hd hI4;have HB4:=Hd (HB3.out.trans hb4);have HL4:=Hd hl4;clear hI4 hb4 hl4);go_roundg t2.size
    case rel=>exact⟨t2,l',rfl,rfl,Om,(by have:=HL.out;have:=HL4.out;show _<=_;omega),HS2,HI4,HB4⟩
    have:=HGT.out;omega
   have u116:(r1==116)=false:=Bn.2 e116;by_cases e10:r1=10
   .subst e10
    go_wp2_with fail;go_roundg t2.size
    case rel=>exact⟨t2,l,rfl,rfl,Om,(by have:=HL.out;show _<=_;omega),HS2,HI3,HB3⟩
    have:=HGT.out;omega
   have u10:(r1==10)=false:=Bn.2 e10;have u117:(r1==117)=false:=Bn.2 h117;have u85:(r1==85)=false:=Bn.2 h85;go_wp2_with (go_at_call 124;refine(CN _ _ l r1 Om Om _ HI3.out HB3.out.size HLC.out).mono ?_;rintro e w4 ⟨nn,l',rfl,hI4,hl4,hb4⟩;have HI4:=Hd hI4;have HB4:=Hd (HB3.out.trans hb4);have HL4:=Hd hl4;clear hI4 hb4 hl4);go_roundg t2.size
   case rel=>exact⟨t2,l',rfl,rfl,Om,(by have:=HL.out;have:=HL4.out;show _<=_;omega),HS2,HI4,HB4⟩
   have:=HGT.out;omega
  have HS2:=Hd hg2;have HX2:=Hd hxx;have hm2:=hxx.1;clear hg2 hxx;rcases hm with⟨rfl,rfl⟩|⟨rfl,rfl⟩
  .have hlt:¬(t2.size:Int)<4:=Om
   have hle4:(4:Int)<=(t2.size:Int):=Om;have HT3:=Hd (HT.out wc HB3.out);go_wp2_with (first|(go_at_call 65;refine(VE HX2.out De De De De _ HT3.out.2).mono ?_;rintro e w4 ⟨nv,rfl,hb4⟩;have HI4:=Hd (HI3.out.old hb4);have HB4:=Hd (HB3.out.trans (hb4.mono HB3.out.size));clear hb4)|(go_at_call 124;refine(CN _ _ l _ (PA _).1 (PA _).2 _ HI4.out HB4.out.size HLC.out).mono ?_;rintro e w5 ⟨nn,l',rfl,hI5,hl5,hb5⟩;have HI5:=Hd hI5;have HB5:=Hd (HB4.out.trans hb5);have HL5:=Hd hl5;clear hI5 hb5 hl5));have hz3:(t2.extract 4 t2.size).size=t2.size-4:=DK t2 4 Om;have HS3:Hid (TX (t2.extract 4 t2.size)):=HS2;clear HS2;generalize t2.extract 4 t2.size=t3 at *;go_roundg t3.size
   case rel=>exact⟨t3,l',rfl,rfl,Om,(by have:=HL.out;have:=HL5.out;show _<=_;omega),HS3,HI5,HB5⟩
   have:=HGT.out;omega
  have hlt:¬(t2.size:Int)<8:=Om;have hle4:(8:Int)<=(t2.size:Int):=Om;have HT3:=Hd (HT.out wc HB3.out);go_wp2_with (first|(go_at_call 65;refine(VE HX2.out De De De De _ HT3.out.2).mono ?_;rintro e w4 ⟨nv,rfl,hb4⟩;have HI4:=Hd (HI3.out.old hb4);have HB4:=Hd (HB3.out.trans (hb4.mono HB3.out.size));clear hb4)|(go_at_call 124;refine(CN _ _ l _ (PA _).1 (PA _).2 _ HI4.out HB4.out.size HLC.out).mono ?_;rintro e w5 ⟨nn,l',rfl,hI5,hl5,hb5⟩;have HI5:=Hd hI5;have HB5:=Hd (HB4.out.trans hb5);have HL5:=Hd hl5;clear hI5 hb5 hl5));have hz3:(t2.extract 8 t2.size).size=t2.size-8:=DK t2 8 Om;have HS3:Hid (TX (t2.extract 8 t2.size)):=HS2;clear HS2;generalize t2.extract 8 t2.size=t3 at *;go_roundg t3.size
  case rel=>exact⟨t3,l',rfl,rfl,Om,(by have:=HL.out;have:=HL5.out;show _<=_;omega),HS3,HI5,HB5⟩
  have:=HGT.out;omega
 have hS:TX t1:=by
  cases HS.out with
  |nil h=>omega
  |plain h hb hr hg=>rw[HT1.out]at hg;exact hg
  |esc h hr hb hn hg=>exact absurd (HRK.out.1.symm.trans hr) h92
  |hex m h hr hn hx hg=>exact absurd (HRK.out.1.symm.trans hr) h92
 have HS1:=Hd hS
 have hn92:(r !=92)=true:=by rw[bne_iff_ne];exact h92
 have HLC:=Hd (show l.length<=10000000 by have:=HL.out;have:=HZ.out;omega)
 clear hS
 go_wp2_with (go_at_call 124;refine(CN _ _ l r Om Om _ HI2.out HB2.out.size HLC.out).mono ?_;rintro e w4 ⟨nn,l',rfl,hI4,hl4,hb4⟩;have HI4:=Hd hI4;have HB4:=Hd (HB2.out.trans hb4);have HL4:=Hd hl4;clear hI4 hb4 hl4)
 go_roundg t1.size
 case rel=>exact⟨t1,l',rfl,rfl,by have:=HZ1.out;omega,(by have:=HL.out;have:=HL4.out;have:=HZ1.out;show _<=_;omega),HS1,HI4,HB4⟩
 have:=HGT.out;have:=HZ1.out;omega
theorem W8(s:ByteArray)(a k:Nat):∀(m j:Nat) (acc:Int),E8 (s.extract a s.size) k m j acc=E8 s (a+k) m j acc
 |0,_,_=>rfl
 |m+1,j,acc=>by
  unfold E8;rw[BC,<-Nat.add_assoc];split
  .exact W8 s a k m (j+1) _
  rfl
theorem W7(s:ByteArray)(a k:Nat)(ha:a<=s.size):BN (s.extract a s.size) k=BN s (a+k):=by
 unfold BN;rw[BC,AU _ _ ha];split
 .rfl
 split
 .rfl
 rename_i more least c0 hL;rw[W8];by_cases h:s.size<=a+k+more
 .rw[if_pos h,if_pos Om]
 rw[if_neg h,if_neg Om]
theorem PB(s:ByteArray)(a:Nat)(ha:a<=s.size):∀(N k:Nat),s.size-(a+k)<=N->EW (s.extract a s.size) k=EW s (a+k)
 |0,k,hN=>by rw[IX (s:=s) Om,IX (s:=s.extract a s.size) (by rw[AU _ _ ha];omega)]
 |N+1,k,hN=>by
  by_cases hk:a+k<s.size
  .have hk2:k<(s.extract a s.size).size:=by rw[AU _ _ ha];omega
   have he:=W7 s a k ha
   cases hc:(BN s (a+k)).2.2 with
   |false=>rw[I6 hk hc,I6 hk2 (by rw[he];exact hc)]
   |true=>
    have hp:=GX s (a+k);rw[FK hk hc,FK hk2 (by rw[he];exact hc),he]
    .
     have:=PB s a ha N (k+(BN s (a+k)).2.1) Om;rw[this,Nat.add_assoc]
  rw[IX hk,IX (by rw[AU _ _ ha];omega)]
theorem SL{s:ByteArray}{a:Nat}:∀{m k:Nat} {acc v:Int},E8 s a m k acc=some v->∀j,k<=j->j<k+m->128<=AA s (a+j)/\AA s (a+j)<=191
 |0,k,_,_,_,j,h1,h2=>Om
 |m+1,k,acc,v,h,j,h1,h2=>by
  unfold E8 at h;split at h
  .rename_i hc
   by_cases e:j=k
   .rw[e];exact hc
   exact SL h j Om Om
  cases h
theorem PZ{s:ByteArray}{a:Nat}(h:(BN s a).2.2=true)(h1:128<=AA s a):∃(more:Nat) (least c0 v:Int),QF (AA s a)=some (more,least,c0)/\a+more<s.size/\E8 s a more 1 c0=some v/\least<=v/\v<=1114111/\AC9 v=false/\BN s a=(v,more+1,true):=by
 unfold BN at h ⊢;rw[if_neg Om]at h ⊢;split at h
 .simp at h
 rename_i more least c0 hL;rw[hL];split at h
 .simp at h
 rename_i h2;rw[if_neg h2];unfold O2 at h ⊢;split at h
 .simp at h
 rename_i v hv;split at h
 .simp at h
 rename_i h3;refine⟨more,least,c0,v,rfl,Om,hv,Om,Om,?_,by first|(simp only;rw[if_neg h3])|rw[if_neg h3]⟩
 cases hs:AC9 v with
 |false=>rfl
 |true=>exact absurd (.inr (.inr hs)) h3
theorem O8{s:ByteArray}{a:Nat}(h:(BN s a).2.2=true)(h1:128<=AA s a):∀j,j<(BN s a).2.1->128<=AA s (a+j):=by
 obtain⟨more,least,c0,v,_,_,hc,_,_,_,he⟩:=PZ h h1;intro j hj;rw[he]at hj;by_cases e:j=0
 .rw[e];exact h1
 exact(SL hc j Om (by have:j<more+1:=hj;omega)).1
theorem MJ{s:ByteArray}{a:Nat}(h1:AA s a<128):BN s a=(AA s a,1,true):=by unfold BN;rw[if_pos h1]
theorem Y8{s:ByteArray}:∀(N a:Nat),s.size-a<=N->EW s a=true->∀i,a<=i->i<s.size->AA s i<128->EW s i=true
 |0,a,hN,h,i,hi,hs,hc=>by clear h hc;omega
 |N+1,a,hN,h,i,hi,hs,hc=>by
  by_cases e:a=i
  .rw[<-e];exact h
  have ha:a<s.size:=Om;have hp:=GX s a
  cases hk:(BN s a).2.2 with
  |false=>rw[I6 ha hk]at h;cases h
  |true=>
   rw[FK ha hk]at h
   .
    refine Y8 N _ Om h i ?_ hs hc;rcases Nat.lt_or_ge i (a+(BN s a).2.1) with hlt|hge
    .exfalso
     by_cases h1:AA s a<128
     .rw[MJ h1]at hlt
      have:i<a+1:=hlt;omega
     have:=O8 hk Om (i-a) Om;rw[show a+(i-a)=i by omega]at this;omega
    exact hge
theorem KI{s:ByteArray}{i:Nat}(h:EW s i=true)(hs:i<s.size)(hc:AA s i<128):EW s (i+1)=true:=by have he:=MJ hc;rw[FK hs (by rw[he]),he]at h;exact h
theorem UF(s:ByteArray)(e a:Nat):∀(m k:Nat) (acc:Int),a+k+m<=e->E8 (s.extract 0 e) a m k acc=E8 s a m k acc
 |0,_,_,_=>rfl
 |m+1,k,acc,h=>by
  unfold E8;rw[BU s e (a+k) Om];split
  .exact UF s e a m (k+1) _ Om
  rfl
theorem AD2{s:ByteArray}{e a:Nat}(he:e<=s.size)(h:(BN s a).2.2=true)(hl:a+(BN s a).2.1<=e):BN (s.extract 0 e) a=BN s a:=by
 have hp:=GX s a;have hst:=BU s e a Om;by_cases h1:AA s a<128
 .rw[MJ h1,MJ (by rw[hst];exact h1),hst]
 obtain⟨more,least,c0,v,h2,h3,hc,h4,h5,h6,hv⟩:=PZ h Om;rw[hv]at hl ⊢;have hl':a+(more+1)<=e:=hl;unfold BN;rw[hst,if_neg h1,h2];simp only;rw[D6 he,if_neg Om,UF s e a more 1 c0 Om,hc];unfold O2;simp only;rw[if_neg (by rw[h6];simp;omega)]
theorem XN{s:ByteArray}{e:Nat}(he:e<=s.size)(hc:e<s.size->AA s e<128):∀(N a:Nat),s.size-a<=N->a<=e->EW s a=true->EW (s.extract 0 e) a=true
 |0,a,hN,hae,h=>IX (by rw[D6 he];omega)
 |N+1,a,hN,hae,h=>by
  by_cases ha:a<e
  .cases hk:(BN s a).2.2 with
   |false=>rw[I6 Om hk]at h;cases h
   |true=>
    have hp:=GX s a;rw[FK Om hk]at h;have hle:=QK s a Om hk;have hfit:a+(BN s a).2.1<=e:=by
     rcases Nat.lt_or_ge e (a+(BN s a).2.1) with hlt|hge
     .exfalso
      have h128:=hc Om;by_cases h1:AA s a<128
      .rw[MJ h1]at hlt
       have:e<a+1:=hlt;omega
      have:=O8 hk Om (e-a) Om;rw[show a+(e-a)=e by omega]at this;omega
     exact hge
    have hct:=AD2 he hk hfit;rw[FK (by rw[D6 he];exact ha) (by rw[hct];exact hk),hct];exact XN he hc N _ Om hfit h
  exact IX (by rw[D6 he];exact ha)
theorem AKw{t:ByteArray}(h0:0<t.size)(h:(BN t 0).2.2=true):dK t=(BN t 0).2.1/\¬TM t:=by
 by_cases h1:AA t 0<128
 .obtain⟨k1,k2⟩:=(J7 t h0).1 h1
  rw[MJ h1];exact⟨k2,λhb=>by have:=hb.1;unfold dR at this;omega⟩
 obtain⟨more,least,c0,v,h2,h3,hc,h4,h5,h6,hv⟩:=PZ h Om;rw[hv];have hh:=SL hc;unfold TM dR dK Lib.decodeGo;rw[if_neg Om,Lib.decode_at,Nat.sub_zero];simp only[Nat.zero_add]at *;have g0:=K9 t 0 h0;have k1:1<t.size->((t.get! 1).toNat:Int)=AA t 1:=λh=>K9 t 1 h;have k2:2<t.size->((t.get! 2).toNat:Int)=AA t 2:=λh=>K9 t 2 h;have k3:3<t.size->((t.get! 3).toNat:Int)=AA t 3:=λh=>K9 t 3 h;generalize (t.get! 0).toNat=b0 at *;generalize (t.get! 1).toNat=b1 at *;generalize (t.get! 2).toNat=b2 at *;generalize (t.get! 3).toNat=b3 at *;have hsur:v<55296\/57343<v:=by unfold AC9 at h6;simp at h6;omega
 unfold Lib.decodeN;rw[if_neg Om];unfold QF at h2;split at h2
 .rename_i hl
  simp only[Option.some.injEq,Prod.mk.injEq]at h2;obtain⟨rfl,rfl,rfl⟩:=h2;have:=k1 h3;have:=hh 1 Om Om;unfold E8 at hc;rw[if_pos (hh 1 Om Om)]at hc;unfold E8 at hc;simp only[Option.some.injEq,Nat.zero_add,Nat.reduceAdd]at hc;rw[if_pos ⟨Om,h3,Om⟩,if_pos Om];exact⟨rfl,λhb=>by have:(2:Nat)=1:=hb.2;omega⟩
 split at h2
 .rename_i hl
  simp only[Option.some.injEq,Prod.mk.injEq]at h2;obtain⟨rfl,rfl,rfl⟩:=h2;have:=k1 Om;have:=k2 Om;have:=hh 1 Om Om;have:=hh 2 Om Om;unfold E8 at hc;rw[if_pos (hh 1 Om Om)]at hc;unfold E8 at hc;rw[if_pos (hh 2 Om Om)]at hc;unfold E8 at hc;simp only[Option.some.injEq,Nat.zero_add,Nat.reduceAdd]at hc;rw[if_neg Om,if_pos ⟨Om,⟨Om,Om⟩,Om,Om⟩,if_pos Om];exact⟨rfl,λhb=>by have:(3:Nat)=1:=hb.2;omega⟩
 split at h2
 .rename_i hl
  simp only[Option.some.injEq,Prod.mk.injEq]at h2;obtain⟨rfl,rfl,rfl⟩:=h2;have:=k1 Om;have:=k2 Om;have:=k3 Om;have:=hh 1 Om Om;have:=hh 2 Om Om;have:=hh 3 Om Om;unfold E8 at hc;rw[if_pos (hh 1 Om Om)]at hc;unfold E8 at hc;rw[if_pos (hh 2 Om Om)]at hc;unfold E8 at hc;rw[if_pos (hh 3 Om Om)]at hc;unfold E8 at hc;simp only[Option.some.injEq,Nat.zero_add,Nat.reduceAdd]at hc;rw[if_neg Om,if_neg Om,if_pos ⟨Om,⟨Om,Om⟩,⟨Om,Om⟩,Om,Om⟩,if_pos Om];exact⟨rfl,λhb=>by have:(4:Nat)=1:=hb.2;omega⟩
 cases h2
theorem R8{x:ByteArray}:∀(n k:Nat),(∀j,j<n->k+j+1<x.size/\AA x (k+j)≠92)->GN x k=GN x (k+n)
 |0,_,_=>rfl
 |n+1,k,h=>by have:=h 0 Om;rw[P3 this.1 this.2,R8 n (k+1) (λj hj=>by have:=h (j+1) Om;rw[show k+1+j=k+(j+1) by omega];exact this),show k+1+n=k+(n+1) by omega]
theorem VI{x:ByteArray}:∀(m j:Nat),F0 x m j=true->∀i,i<m->j+i+1<x.size/\DD (AA x (j+i))=true
 |0,_,_,i,hi=>Om
 |m+1,j,h,i,hi=>by
  unfold F0 at h;simp only[Bool.and_eq_true,decide_eq_true_eq]at h;by_cases e:i=0
  .rw[e];exact⟨h.1,h.2.1⟩
  have:=VI m (j+1) h.2.2 (i-1) Om;rw[show j+1+(i-1)=j+i by omega]at this;exact this
theorem BR(t:ByteArray)(k n:Nat):rest (rest t k) n=rest t (k+n):=M3 t k n
theorem L7{t:ByteArray}{k:Nat}(h:t.size<=k):(rest t k).size=0:=by unfold rest;simp[ByteArray.size_extract];omega
theorem AMs(x:ByteArray)(k:Nat)(h:k+2<x.size):AA (x.extract 1 (x.size-1)) k=AA x (k+1):=by
 have e:x.extract 1 (x.size-1)=(x.extract 0 (x.size-1)).extract 1 (x.extract 0 (x.size-1)).size:=by apply B8;rw[B6,B6,B6];rw[D6 Om,List.drop_zero,List.take_take,Nat.min_self]
 rw[e,BC,BU _ _ _ Om,Nat.add_comm]
theorem AAc(x:ByteArray):(x.extract 1 (x.size-1)).size=x.size-2:=by simp[ByteArray.size_extract];omega
theorem AJs{t:ByteArray}{k:Nat}(hk:k<t.size)(hc:AA t k<128):dR (rest t k)=AA t k/\dK (rest t k)=1/\¬TM (rest t k):=by
 have h0:0<(rest t k).size:=by rw[DK _ _ Om];omega
 have e:AA (rest t k) 0=AA t k:=BC t k 0;obtain⟨k1,k2⟩:=(J7 (rest t k) h0).1 (by rw[e];exact hc);unfold dR dK TM dR;rw[k1,e];exact⟨rfl,k2,λhb=>Om⟩
theorem AE7{t:ByteArray}{k:Nat}(hk:k<t.size)(hc:128<=AA t k)(h:(BN t k).2.2=true):dR (rest t k)≠92/\dR (rest t k)≠117/\dR (rest t k)≠85/\dK (rest t k)=(BN t k).2.1/\¬TM (rest t k):=by
 have h0:0<(rest t k).size:=by rw[DK _ _ Om];omega
 have e:AA (rest t k) 0=AA t k:=BC t k 0;have k1:=((J7 (rest t k) h0).2.1 (by rw[e];exact hc)).1;have he:BN (rest t k) 0=BN t k:=W7 t k 0 Om;have:=AKw h0 (by rw[he];exact h);rw[he]at this;refine⟨?_,?_,?_,this.1,this.2⟩<;>(unfold dR;omega)
theorem ZZ{x:ByteArray}(hx:2<=x.size):∀(N k:Nat),x.size-2-k<=N->k<=x.size-2->EW (x.extract 1 (x.size-1)) k=true->GN x (k+1)=true->TX (rest (x.extract 1 (x.size-1)) k)
 |0,k,hN,hk,hu,hq=>.nil (L7 (by rw[AAc];omega))
 |N+1,k,hN,hk,hu,hq=>by
  have hms:=AAc x;have hsm:∀j,j+2<x.size->AA (x.extract 1 (x.size-1)) j=AA x (j+1):=AMs x;generalize ht:x.extract 1 (x.size-1)=t at *;by_cases he:k<t.size
  .have hz:(rest t k).size=t.size-k:=DK _ _ Om
   .
    have IH:=ZZ hx N;rw[ht]at IH;by_cases hc:AA t k<128
    .obtain⟨d1,d2,d3⟩:=AJs he hc
     have hu1:=KI hu he hc;by_cases h92:AA t k=92
     .have hx92:AA x (k+1)=92:=by rw[<-hsm k Om];exact h92
      by_cases he1:k+1<t.size
      .by_cases hc1:AA t (k+1)<128
       .obtain⟨e1,e2,e3⟩:=AJs he1 hc1
        have hu2:=KI hu1 he1 hc1;by_cases hm:∃m,AA t (k+1)=117/\m=4\/AA t (k+1)=85/\m=8
        .obtain⟨m,hm⟩:=hm
         have hm':AA x (k+1+1)=117/\m=4\/AA x (k+1+1)=85/\m=8:=by rw[<-hsm (k+1) Om];exact hm
         rw[AB7 Om hx92 hm']at hq;split at hq
         .rename_i hh
          have hg:=VI m _ hh;have hm1:1<=m/\m<=8:=Om;have hfit:k+2+m<=t.size:=by have:=(hg (m-1) Om).1;omega
          have hhx:∀i,i<m->DD (AA t (k+2+i))=true:=λi hi=>by rw[hsm _ Om];have:=(hg i hi).2;rw[show k+2+i+1=k+1+2+i by omega];exact this
          refine TX.hex m Om (by rw[d1];exact h92) ?_ ?_ ?_
          .rw[d2,BR t k 1,e1];exact hm
          .rw[d2,BR t k 1,e2,BR t (k+1) 1]
           refine⟨by rw[DK _ _ Om];omega,λi hi=>?_⟩;show DD (AA (t.extract _ t.size) i)=true;rw[BC];exact hhx i hi
          rw[d2,BR t k 1,e2,BR t (k+1) 1,BR t (k+1+1) m];have hlast:=JL (hhx (m-1) Om);have hu3:=Y8 _ _ Nl hu2 (k+2+(m-1)) Om Om Om;have hu4:=KI hu3 Om Om;exact IH _ Om Om (by rw[show k+1+1+m=k+2+(m-1)+1 by omega];exact hu4) (by rw[show k+1+1+m+1=k+1+2+m by omega];exact hq)
         cases hq
        have hn:AA t (k+1)≠117/\AA t (k+1)≠85:=⟨λe=>hm ⟨4,.inl ⟨e,rfl⟩⟩,λe=>hm ⟨8,.inr ⟨e,rfl⟩⟩⟩;rw[PV Om hx92 (by rw[<-hsm (k+1) Om];exact hn.1) (by rw[<-hsm (k+1) Om];exact hn.2)]at hq;refine TX.esc Om (by rw[d1];exact h92) ?_ ?_ ?_
        .rw[d2,BR t k 1];exact e3
        .rw[d2,BR t k 1,e1];exact hn
        rw[d2,BR t k 1,e2,BR t (k+1) 1];exact IH _ Om Om hu2 hq
       cases hcp:(BN t (k+1)).2.2 with
       |false=>rw[I6 he1 hcp]at hu1;cases hu1
       |true=>
        obtain⟨e0,e1,e2,e3,e4⟩:=AE7 he1 Om hcp;have hh:=O8 hcp Om;have hle:=QK t (k+1) he1 hcp;have hpos:=GX t (k+1);rw[FK he1 hcp]at hu1;have hxx:AA x (k+1+1)=AA t (k+1):=(hsm (k+1) Om).symm;rw[PV Om hx92 Om Om]at hq;rw[R8 ((BN t (k+1)).2.1-1) (k+1+2) (λj hj=>by have h1:=hh (j+1) Om;rw[hsm _ Om]at h1;rw[show k+1+2+j=k+1+(j+1)+1 by omega];omega)]at hq
        refine TX.esc Om (by rw[d1];exact h92) ?_ ?_ ?_
        .rw[d2,BR t k 1];exact e4
        .rw[d2,BR t k 1];exact⟨e1,e2⟩
        rw[d2,BR t k 1,e3,BR t (k+1) _];exact IH _ Om Om hu1 (by rw[show k+1+(BN t (k+1)).2.1+1=k+1+2+((BN t (k+1)).2.1-1) by omega];exact hq)
      have hnil:=L7 (t:=t) (k:=k+1) Om;refine TX.esc Om (by rw[d1];exact h92) ?_ ?_ ?_
      .rw[d2,BR t k 1];exactλhb=>by have:=hb.2;rw[ADr hnil]at this;omega
      .rw[d2,BR t k 1]
       have:dR (rest t (k+1))=65533:=by unfold dR Lib.decodeGo;rw[if_pos hnil];rfl
       omega
      rw[d2,BR t k 1,ADr hnil,BR t (k+1) 0];exact .nil (L7 Om)
     rw[P3 Om (by rw[<-hsm k Om];exact h92)]at hq;refine TX.plain Om d3 (by rw[d1];exact h92) ?_;rw[d2,BR t k 1];exact IH _ Om Om hu1 hq
    cases hcp:(BN t k).2.2 with
    |false=>rw[I6 he hcp]at hu;cases hu
    |true=>
     obtain⟨e0,e1,e2,e3,e4⟩:=AE7 he Om hcp;have hh:=O8 hcp Om;have hle:=QK t k he hcp;have hpos:=GX t k;rw[FK he hcp]at hu;rw[R8 (BN t k).2.1 (k+1) (λj hj=>by have h1:=hh j hj;rw[hsm _ Om]at h1;rw[show k+1+j=k+j+1 by omega];omega)]at hq
     refine TX.plain Om e4 e0 ?_;rw[e3,BR];exact IH _ Om Om hu (by rw[show k+(BN t k).2.1+1=k+1+(BN t k).2.1 by omega];exact hq)
  exact .nil (L7 Om)
def ACd(x:ByteArray):Prop:=2<=x.size/\EW (x.extract 1 (x.size-1)) 0=true
theorem AOt{x:ByteArray}(h:ACd x)(hq:Y0 x=true):TX (x.extract 1 (x.size-1)):=by have:=ZZ h.1 _ 0 Nl Om h.2 hq;unfold rest at this;rw[JK]at this;exact this
