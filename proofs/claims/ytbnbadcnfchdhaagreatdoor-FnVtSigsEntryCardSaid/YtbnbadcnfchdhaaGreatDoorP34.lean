/- Lemmas for FnVtSigsEntry; no conditions. -/
import Derived.Test.YtbnbadcnfchdhaaGreatDoorP33
set_option maxRecDepth 100000
set_option maxHeartbeats 16000000
set_option linter.all false
namespace Go.Proofs.YtbnbadcnfchdhaaGreatDoor
open Go.RowKit
section
theorem Tryz.info169:(Tryz.prog.info? 169).map (λi=>(i.zero,i.size,i.bytes))=some (some (.agg #[.nilIface,.nilIface]),2,32):=Kr
structure PL(G:World->Prop)(w wr:World)(r:Nat)(A:Option Addr)(n c:Nat)(All:List AW)(i b:Nat)(m1 m2:Value)(Ac:Option Addr)(nc cc:Nat)(X1 X2:List ByteArray):Prop where
 P:MM wr r A n c All i
 G:G wr
 g:w.grownBy wr (some r)
 new:w.heap.size<b
 rb:r<w.heap.size
 blk:wr.heap[b]?=some (.cells #[m1,m2,.slice Ac nc cc] 167 (0,0))
 set1:DX wr m1 X1
 set2:DX wr m2 X2
 row:∃xs,wr.ownsRow (b+1) 169 2 (.slice Ac nc cc) nc xs
section
variable{G:World->Prop}{B:Nat}{w wr W:World}{r n c i b nc cc:Nat}{A Ac:Option Addr}{All:List AW}{m1 m2:Value}{X1 X2:List ByteArray}
theorem PL.lt(h:PL G w wr r A n c All i b m1 m2 Ac nc cc X1 X2):b<wr.heap.size:=(Array.getElem?_eq_some_iff.1 h.blk).1
theorem PL.step(hG:DC G B)(hB:B<=r)(h:PL G w wr r A n c All i b m1 m2 Ac nc cc X1 X2)(hg:wr.grownBy W (some r)){j:Nat}(hp:MM W r A n c All j):PL G w W r A n c All j b m1 m2 Ac nc cc X1 X2:=by
 have hlt:=h.lt;have hnew:=h.new;have hrb:=h.rb;obtain⟨xs,hrow⟩:=h.row;exact⟨hp,hG _ _ h.G ⟨hg.os,hg.tape,hg.output,hg.size,λq hq=>hg.block q (by have:=h.P.lt;omega) (by simp;omega)⟩,h.g.andThen hg (λj hj=>.inr hj),h.new,h.rb,
  (hg.block b hlt (by simp;omega)).trans h.blk,h.set1.maps (h.P.maps hg),h.set2.maps (h.P.maps hg),xs,AR hrow λg hg2 hl=>hg.block g hl (by have:=AG hrow g hg2;simp;omega)⟩
theorem PL.below(hG:DC G B)(hB:B<=r)(h:PL G w wr r A n c All i b m1 m2 Ac nc cc X1 X2)(hb:Below wr.heap.size wr W):PL G w W r A n c All i b m1 m2 Ac nc cc X1 X2:=
 h.step hG hB ⟨hb.os,hb.tape,hb.output,hb.size,λq hq _=>hb.block q hq⟩ (h.P.below hb)
theorem PL.cells(h:PL G w wr r A n c All i b m1 m2 Ac nc cc X1 X2):wr.cell? ⟨b,0,none⟩=some m1/\wr.cell? ⟨b,1,none⟩=some m2/\wr.cell? ⟨b,2,none⟩=some (.slice Ac nc cc)/\wr.frozen? ⟨b,0,none⟩=false/\wr.frozen? ⟨b,1,none⟩=false/\wr.frozen? ⟨b,2,none⟩=false:=by obtain⟨h0,h1,h2⟩:=DT h.blk;exact⟨h0,h1,h2,AB h.blk 0,AB h.blk 1,AB h.blk 2⟩
theorem PL.off(h:PL G w wr r A n c All i b m1 m2 Ac nc cc X1 X2):(∀g,(Value.slice A n c).ownBlock=some g->g≠b)/\r≠b:=by
 refine⟨λg hg2=>?_,by have:=h.new;have:=h.rb;omega⟩;rintro rfl;rcases h.P.row.2 with⟨h1,_⟩|⟨g',cap,cur,h1,_,h3,_⟩
 .rw[h1]at hg2;cases hg2
 rw[h1]at hg2;simp only[Value.ownBlock,Option.some.injEq]at hg2;subst hg2;rw[h.blk]at h3;cases h3
theorem PL.base(hG:DC G B)(hB:B<=r)(h:PL G w wr r A n c All i b m1 m2 Ac nc cc X1 X2)(o:Nat)(v:Value):MM (wr.setCell ⟨b,o,none⟩ v) r A n c All i/\G (wr.setCell ⟨b,o,none⟩ v)/\w.grownBy (wr.setCell ⟨b,o,none⟩ v) (some r)/\BZ wr (wr.setCell ⟨b,o,none⟩ v)/\∀xs,wr.ownsRow (b+1) 169 2 (.slice Ac nc cc) nc xs->(wr.setCell ⟨b,o,none⟩ v).ownsRow (b+1) 169 2 (.slice Ac nc cc) nc xs:=by have hnew:=h.new;have hrb:=h.rb;have hgs:=C9 wr b o v;obtain⟨ho,hor⟩:=h.off;exact⟨⟨(heap_set _ _ _ (by show r≠b;omega)).trans h.P.blk,AR h.P.row λg hg2 hl=>heap_set _ _ _ (ho g hg2),h.P.len,h.P.ne,h.P.fit,h.P.small⟩,hG _ _ h.G ⟨hgs.os,hgs.tape,hgs.output,hgs.size,λq hq=>heap_set _ _ _ (by show q≠b;omega)⟩,h.g.andThen hgs (λj hj=>.inl (by cases hj;omega)),BZ.grown hgs (λq hq=>by cases hq;exact⟨_,_,_,h.blk⟩),λxs hrow=>AR hrow λg hg2 hl=>heap_set _ _ _ (by have:=AG hrow g hg2;show g≠b;omega)⟩
theorem PL.setK(hG:DC G B)(hB:B<=r)(h:PL G w wr r A n c All i b m1 m2 Ac nc cc X1 X2){m':Value}{X':List ByteArray}(hs:DX wr m' X'):PL G w (wr.setCell ⟨b,0,none⟩ m') r A n c All i b m' m2 Ac nc cc X' X2:=by obtain⟨h1,h2,h3,h4,h5⟩:=h.base hG hB 0 m';obtain⟨xs,hrow⟩:=h.row;exact⟨h1,h2,h3,h.new,h.rb,AH h.blk 0 m',hs.maps h4,h.set2.maps h4,xs,h5 xs hrow⟩
theorem PL.setW(hG:DC G B)(hB:B<=r)(h:PL G w wr r A n c All i b m1 m2 Ac nc cc X1 X2){m':Value}{X':List ByteArray}(hs:DX wr m' X'):PL G w (wr.setCell ⟨b,1,none⟩ m') r A n c All i b m1 m' Ac nc cc X1 X':=by obtain⟨h1,h2,h3,h4,h5⟩:=h.base hG hB 1 m';obtain⟨xs,hrow⟩:=h.row;exact⟨h1,h2,h3,h.new,h.rb,AH h.blk 1 m',h.set1.maps h4,hs.maps h4,xs,h5 xs hrow⟩
theorem PL.mid(hG:DC G B)(hB:B<=r)(h:PL G w wr r A n c All i b m1 m2 Ac nc cc X1 X2)(hg:wr.grownBy W (Value.slice Ac nc cc).ownBlock):MM W r A n c All i/\G W/\w.grownBy W (some r)/\BZ wr W/\W.heap[b]?=some (.cells #[m1,m2,.slice Ac nc cc] 167 (0,0)):=by
 have hnew:=h.new;have hrb:=h.rb;have hlt:=h.lt;obtain⟨xs0,hrow0⟩:=h.row;have hob:=AG hrow0;refine⟨⟨(hg.block r h.P.lt (λe=>by have:=hob r e.symm;omega)).trans h.P.blk,AR h.P.row λg hg2 hl=>hg.block g hl (λe=>?_),h.P.len,h.P.ne,h.P.fit,h.P.small⟩,hG _ _ h.G ⟨hg.os,hg.tape,hg.output,hg.size,λq hq=>hg.block q Om (λe=>by have:=hob q e.symm;omega)⟩,h.g.andThen hg (λj hj=>.inl (by have:=hob j hj;omega)),BZ.grown hg (λq hq=>?_),(hg.block b hlt (λe=>by have:=hob b e.symm;omega)).trans h.blk⟩
 .rcases hrow0.2 with⟨h1,_⟩|⟨g',cap,cur,h1,_,h3,_⟩
  .rw[h1]at e;cases e
  rw[h1]at e;simp only[Value.ownBlock,Option.some.injEq]at e;subst e;rcases h.P.row.2 with⟨k1,_⟩|⟨g2,cap2,cur2,k1,_,k3,_⟩
  .rw[k1]at hg2;cases hg2
  rw[k1]at hg2;simp only[Value.ownBlock,Option.some.injEq]at hg2;subst hg2;rw[h3]at k3;cases k3
 rcases hrow0.2 with⟨h1,_⟩|⟨g',cap,cur,h1,_,h3,_⟩
 .rw[h1]at hq;cases hq
 rw[h1]at hq;simp only[Value.ownBlock,Option.some.injEq]at hq;subst hq;exact⟨_,_,_,h3⟩
theorem PL.setC{nc' cc':Nat}{Ac':Option Addr}(hG:DC G B)(hB:B<=r)(h:PL G w wr r A n c All i b m1 m2 Ac nc cc X1 X2)(hg:wr.grownBy W (Value.slice Ac nc cc).ownBlock){xs:List Value}(hrow:W.ownsRow (b+1) 169 2 (.slice Ac' nc' cc') nc' xs):PL G w (W.setCell ⟨b,2,none⟩ (.slice Ac' nc' cc')) r A n c All i b m1 m2 Ac' nc' cc' X1 X2:=by have hnew:=h.new;have hrb:=h.rb;obtain⟨h1,h2,h3,h4,h5⟩:=h.mid hG hB hg;have hgs:=C9 W b 2 (.slice Ac' nc' cc');obtain⟨ho,hor⟩:=h.off;have hmk2:BZ W (W.setCell ⟨b,2,none⟩ (.slice Ac' nc' cc')):=BZ.grown hgs (λq hq=>by cases hq;exact⟨_,_,_,h5⟩);exact⟨⟨(heap_set _ _ _ (by show r≠b;omega)).trans h1.blk,AR h1.row λg hg2 hl=>heap_set _ _ _ (ho g hg2),h1.len,h1.ne,h1.fit,h1.small⟩,hG _ _ h2 ⟨hgs.os,hgs.tape,hgs.output,hgs.size,λq hq=>heap_set _ _ _ (by show q≠b;omega)⟩,h3.andThen hgs (λj hj=>.inl (by cases hj;omega)),h.new,h.rb,AH h5 2 (.slice Ac' nc' cc'),(h.set1.maps h4).maps hmk2,(h.set2.maps h4).maps hmk2,xs,AR hrow λg hg2 hl=>heap_set _ _ _ (by have:=AG hrow g hg2;show g≠b;omega)⟩
end
inductive V6(G:World->Prop)(B r:Nat)(A:Option Addr)(n c:Nat)(All:List AW):Nat->List ((ByteArray->Prop)×(ByteArray->Prop))->Nat->Prop
 |one {i i1 i2:Nat} {S1 S2:ByteArray->Prop} {y1 y2:ByteArray} {rest1 rest2:List AW} (h1:KP G B r A n c All i i1 S1) (hn1:∃k x l,All.drop i=(k,x)::l/\2<=k/\k<=14/\k≠6/\k≠8) (GR:All.drop i1=(12,y1)::rest1)
  (h2:KP G B r A n c All (i1+1) i2 S2) (hn2:∃k x l,All.drop (i1+1)=(k,x)::l/\2<=k/\k<=14/\k≠6/\k≠8) (hd2:All.drop i2=(8,y2)::rest2):V6 G B r A n c All i [(S1,S2)] (i2+1)
 |cons {i i1 i2 i':Nat} {S1 S2:ByteArray->Prop} {Ss:List ((ByteArray->Prop)×(ByteArray->Prop))} {y1 y2:ByteArray} {rest1 rest2:List AW} (h1:KP G B r A n c All i i1 S1) (hn1:∃k x l,All.drop i=(k,x)::l/\2<=k/\k<=14/\k≠6/\k≠8) (GR:All.drop i1=(12,y1)::rest1)
  (h2:KP G B r A n c All (i1+1) i2 S2) (hn2:∃k x l,All.drop (i1+1)=(k,x)::l/\2<=k/\k<=14/\k≠6/\k≠8) (hd2:All.drop i2=(11,y2)::rest2) (hr:V6 G B r A n c All (i2+1) Ss i'):V6 G B r A n c All i ((S1,S2)::Ss) i'
theorem V6.inv{G:World->Prop}{B r:Nat}{A:Option Addr}{n c:Nat}{All:List AW}{i i':Nat}{Ss:List ((ByteArray->Prop)×(ByteArray->Prop))}(h:V6 G B r A n c All i Ss i'):∃S1 S2 Ss' i1 i2 k y1 y2 rest1 rest2,Ss=(S1,S2)::Ss'/\KP G B r A n c All i i1 S1/\(∃k x l,All.drop i=(k,x)::l/\2<=k/\k<=14/\k≠6/\k≠8)/\All.drop i1=(12,y1)::rest1/\KP G B r A n c All (i1+1) i2 S2/\(∃k x l,All.drop (i1+1)=(k,x)::l/\2<=k/\k<=14/\k≠6/\k≠8)/\All.drop i2=(k,y2)::rest2/\(k=8/\Ss'=[]/\i'=i2+1\/k=11/\V6 G B r A n c All (i2+1) Ss' i'):=by
 cases h with
 |one h1 hn1 GR h2 hn2 hd2=>exact⟨_,_,_,_,_,8,_,_,_,_,rfl,h1,hn1,GR,h2,hn2,hd2,.inl ⟨rfl,rfl,rfl⟩⟩
 |cons h1 hn1 GR h2 hn2 hd2 hr=>exact⟨_,_,_,_,_,11,_,_,_,_,rfl,h1,hn1,GR,h2,hn2,hd2,.inr ⟨rfl,hr⟩⟩
theorem V6.first{G:World->Prop}{B r:Nat}{A:Option Addr}{n c:Nat}{All:List AW}{i i':Nat}{Ss:List ((ByteArray->Prop)×(ByteArray->Prop))}(h:V6 G B r A n c All i Ss i'):∃k x l,All.drop i=(k,x)::l/\2<=k/\k<=14/\k≠6/\k≠8:=by
 cases h with
 |one _ hn _ _ _ _=>exact hn
 |cons _ hn _ _ _ _ _=>exact hn
def PI(acc:ByteArray->Prop)(Ss:List ((ByteArray->Prop)×(ByteArray->Prop))):ByteArray->Prop:=Ss.foldl (λa S=>GE S.1 a) acc
def PN(acc:ByteArray->Prop)(Ss:List ((ByteArray->Prop)×(ByteArray->Prop))):ByteArray->Prop:=Ss.foldl (λa S=>GE S.2 a) acc
end
section
theorem PL.tok{G:World->Prop}{B:Nat}{w wr:World}{r n c i b nc cc q i0:Nat}{A Ac:Option Addr}{All:List AW}{m1 m2:Value}{X1 X2:List ByteArray}(hG:DC G B)(hB:B<=r)(hp0:MM w r A n c All i0)(h:PL G w wr r A n c All i b m1 m2 Ac nc cc X1 X2){v0 v1:Value}(hq:wr.heap[q]?=some (.cells #[v0,v1] 118 (0,0)))(hqn:w.heap.size<=q)(o:Nat)(v:Value):PL G w (wr.setCell ⟨q,o,none⟩ v) r A n c All i b m1 m2 Ac nc cc X1 X2:=by
 have hnew:=h.new;have hrb:=h.rb;have hgs:=C9 wr q o v;obtain⟨xs,hrow⟩:=h.row;have hmk:BZ wr (wr.setCell ⟨q,o,none⟩ v):=BZ.grown hgs (λj hj=>by cases hj;exact⟨_,_,_,hq⟩);have hqb:b≠q:=by rintro rfl;have:=h.blk;rw[hq]at this;simp at this
 refine⟨⟨(heap_set _ _ _ (by show r≠q;omega)).trans h.P.blk,AR h.P.row λg hg2 hl=>heap_set _ _ _ ?_,h.P.len,h.P.ne,h.P.fit,h.P.small⟩,hG _ _ h.G ⟨hgs.os,hgs.tape,hgs.output,hgs.size,λj hj=>heap_set _ _ _ (by show j≠q;omega)⟩,h.g.andThen hgs (λj hj=>.inl (by cases hj;omega)),h.new,h.rb,(heap_set _ _ _ hqb).trans h.blk,h.set1.maps hmk,h.set2.maps hmk,xs,AR hrow λg hg2 hl=>heap_set _ _ _ ?_⟩
 .show g≠q
  rcases hp0.row.2 with⟨h1,_⟩|⟨g',cap,cur,h1,_,h3,_⟩
  .rw[h1]at hg2;cases hg2
  rw[h1]at hg2;simp only[Value.ownBlock,Option.some.injEq]at hg2;subst hg2;have:=(Array.getElem?_eq_some_iff.1 h3).1;omega
 show g≠q;rintro rfl;rcases hrow.2 with⟨h1,_⟩|⟨g',cap,cur,h1,_,h3,_⟩
 .rw[h1]at hg2;cases hg2
 rw[h1]at hg2;simp only[Value.ownBlock,Option.some.injEq]at hg2;subst hg2;rw[hq]at h3;simp at h3
def PX(X:List ByteArray)(e:ByteArray)(m:Nat):Prop:=(X=[]\/e∈X)/\X.length<=m/\∀s,s∈X->s.size<=900
theorem PX.first{Y:List ByteArray}{S:ByteArray->Prop}{e:ByteArray}{m:Nat}(hy:∀t,t∈Y↔S t)(hn:Y.Nodup)(hf:Few S m)(he:(∃s,S s)->S e)(hne:Y≠[]):PX Y e m:=
 ⟨.inr ((hy e).2 (he ((JR hy).2 hne))),hf.len hn hy,λs hs=>hf.2 s ((hy s).1 hs)⟩
theorem PX.both{X V Y:List ByteArray}{e:ByteArray}{m m':Nat}(h:PX X e m)(hx:X≠[])(hY:PX Y e m')(hy:Y≠[])(hv:∀t,t∈V↔t∈Y/\t∈X)(hn:V.Nodup):PX V e m/\V≠[]:=by have hm:e∈V:=(hv e).2 ⟨hY.1.resolve_left hy,h.1.resolve_left hx⟩;exact⟨⟨.inr hm,Nat.le_trans (EY hn λt ht=>((hv t).1 ht).2) h.2.1,λs hs=>h.2.2 s ((hv s).1 hs).2⟩,λe=>by rw[e]at hm;simp at hm⟩
theorem ANa{X Y:List ByteArray}{S:ByteArray->Prop}(hy:∀t,t∈Y↔S t)(h:Y=[]):(λt=>t∈X)=GE S (λt=>t∈X):=(RT (by rw[JR hy];exactλk=>k h)).symm
theorem AHs{X Y:List ByteArray}{S:ByteArray->Prop}(hy:∀t,t∈Y↔S t)(h:Y≠[])(hx:X=[]):(λt=>t∈Y)=GE S (λt=>t∈X):=by rw[PW ((JR hy).2 h) (by rw[hx];simp)];funext t;exact propext (hy t)
theorem ANc{X Y V:List ByteArray}{S:ByteArray->Prop}(hy:∀t,t∈Y↔S t)(h:Y≠[])(hx:X≠[])(hv:∀t,t∈V↔t∈Y/\t∈X):(λt=>t∈V)=GE S (λt=>t∈X):=by rw[RJ ((JR hy).2 h) (by cases X with|nil=>exact absurd rfl hx|cons q l=>exact⟨q,by simp⟩)];funext t;apply propext;rw[hv,hy]
theorem AEy{w:World}{v:Value}{X:List ByteArray}(h:DX w v X)(hx:X≠[]):∃b,v=.map (some b)/\CD w b X.length X:=by
 rcases h with⟨_,h⟩|h
 .exact absurd h hx
 exact h
theorem AHw{z:Int}(h0:0<=z)(h:z<128):Utf8.encode z=⟨#[UInt8.ofNat z.toNat]⟩:=by
 have hv:Utf8.valid z=true:=by unfold Utf8.valid;simp;omega
 unfold Utf8.encode;simp only[hv,if_true];rw[if_pos Om]
theorem J5{s:ByteArray}{i:Nat}(h:i<s.size):s.extract i (i+1)=⟨#[UInt8.ofNat (AA s i).toNat]⟩:=by
 apply B8;rw[B6];have hl:i<s.data.toList.length:=by simpa using h
 rw[List.take_add_one,List.drop_append_of_le_length (by simp;omega),List.getElem?_eq_getElem hl];unfold AA;have h2:i<s.data.size:=by simpa using hl
 simp;rw[Array.getElem?_eq_getElem h2];rfl
theorem ZY{X:List ByteArray}{a:ByteArray}(h:∀t,t∈X↔DY a t)(hn:X.Nodup)(h1:1<=a.size)(h9:a.size<=900):PX X a 5000:=
 ⟨.inr ((h a).2 ⟨Om,rfl⟩),by have:=EY (L:=[a]) hn (λt ht=>by rw[((h t).1 ht).2];simp);simp at this;omega,λs hs=>by rw[((h s).1 hs).2];exact h9⟩
theorem AEv{X:List ByteArray}{a:ByteArray}(h:∀t,t∈X↔DY a t)(hn:X.Nodup):X.length<=10:=by have:=EY (L:=[a]) hn (λt ht=>by rw[((h t).1 ht).2];simp);simp at this;omega
theorem AOu{S:ByteArray->Prop}{m k:Nat}(h:Few S m)(hk:m<=k):Few S k:=⟨by obtain⟨L,h1,h2⟩:=h.1;exact⟨L,Nat.le_trans h1 hk,h2⟩,h.2⟩
theorem AId{sg k v:ByteArray}(hk:k.size=1)(hz:AA k 0<128)(h:sg=D5 k v):Utf8.encode (AA sg 2)=k:=by
 obtain⟨⟨x⟩⟩:=k;obtain⟨z,rfl⟩:∃z,x=[z]:=List.length_eq_one_iff.1 (by simpa[ByteArray.size] using hk);have hl:(D5 ⟨⟨[z]⟩⟩ v).data.toList=97::123::z::(v.data.toList++[125]):=by unfold D5;simp only[ByteArray.data_append,Array.toList_append];rfl
 have hs:AA sg 2=(z.toNat:Int):=by rw[h];unfold AA;rw[hl];rfl
 have hz2:AA ⟨⟨[z]⟩⟩ 0=(z.toNat:Int):=by unfold AA;simp
 rw[hz2]at hz;rw[hs,AHw Om hz];simp
theorem AHx{sg k v:ByteArray}(hk:k.size=1)(h:sg=D5 k v):sg.extract 3 (sg.size-1)=v:=by
 have hs:sg.size=1+v.size+3:=by rw[h,I3];omega
 obtain⟨⟨x⟩⟩:=k;obtain⟨z,rfl⟩:∃z,x=[z]:=List.length_eq_one_iff.1 (by simpa[ByteArray.size] using hk);apply B8;rw[B6,hs,h];have hl:v.data.toList.length=v.size:=rfl;unfold D5;simp;rw[Nat.add_comm,List.take_succ_cons,List.tail_cons,<-hl,List.take_left]
def EOk(Ss:List ((ByteArray->Prop)×(ByteArray->Prop)))(kk vv:ByteArray):Prop:=∀S∈Ss,(Few S.1 10/\((∃s,S.1 s)->S.1 kk))/\(Few S.2 5000/\((∃s,S.2 s)->S.2 vv))
structure DQ(G:World->Prop)(w wr:World)(r:Nat)(A:Option Addr)(n c:Nat)(All:List AW)(i b:Nat)(m1 m2:Value)(Ac:Option Addr)(nc cc:Nat)(X1 X2:List ByteArray)(q:Nat)(v0 v1:Value):Prop where
 D:PL G w wr r A n c All i b m1 m2 Ac nc cc X1 X2
 qb:wr.heap[q]?=some (.cells #[v0,v1] 118 (0,0))
 qn:w.heap.size<=q
section
variable{G:World->Prop}{B:Nat}{w wr W:World}{r n c i b nc cc q:Nat}{A Ac:Option Addr}{All:List AW}{m1 m2:Value}{X1 X2:List ByteArray}{v0 v1:Value}
theorem DQ.lt(h:DQ G w wr r A n c All i b m1 m2 Ac nc cc X1 X2 q v0 v1):q<wr.heap.size:=(Array.getElem?_eq_some_iff.1 h.qb).1
theorem DQ.nb(h:DQ G w wr r A n c All i b m1 m2 Ac nc cc X1 X2 q v0 v1):q≠b:=by rintro rfl;have:=h.D.blk;rw[h.qb]at this;simp at this
theorem DQ.step(hG:DC G B)(hB:B<=r)(h:DQ G w wr r A n c All i b m1 m2 Ac nc cc X1 X2 q v0 v1)(hg:wr.grownBy W (some r)){j:Nat}(hp:MM W r A n c All j):DQ G w W r A n c All j b m1 m2 Ac nc cc X1 X2 q v0 v1:=
 ⟨h.D.step hG hB hg hp,(hg.block q h.lt (by have:=h.D.rb;have:=h.qn;simp;omega)).trans h.qb,h.qn⟩
theorem DQ.below(hG:DC G B)(hB:B<=r)(h:DQ G w wr r A n c All i b m1 m2 Ac nc cc X1 X2 q v0 v1)(hb:Below wr.heap.size wr W):DQ G w W r A n c All i b m1 m2 Ac nc cc X1 X2 q v0 v1:=
 ⟨h.D.below hG hB hb,(hb.block q h.lt).trans h.qb,h.qn⟩
theorem DQ.setK(hG:DC G B)(hB:B<=r)(h:DQ G w wr r A n c All i b m1 m2 Ac nc cc X1 X2 q v0 v1){m':Value}{X':List ByteArray}(hs:DX wr m' X'):DQ G w (wr.setCell ⟨b,0,none⟩ m') r A n c All i b m' m2 Ac nc cc X' X2 q v0 v1:=
 ⟨h.D.setK hG hB hs,(heap_set _ _ _ h.nb).trans h.qb,h.qn⟩
theorem DQ.setW(hG:DC G B)(hB:B<=r)(h:DQ G w wr r A n c All i b m1 m2 Ac nc cc X1 X2 q v0 v1){m':Value}{X':List ByteArray}(hs:DX wr m' X'):DQ G w (wr.setCell ⟨b,1,none⟩ m') r A n c All i b m1 m' Ac nc cc X1 X' q v0 v1:=
 ⟨h.D.setW hG hB hs,(heap_set _ _ _ h.nb).trans h.qb,h.qn⟩
theorem DQ.midq(h:DQ G w wr r A n c All i b m1 m2 Ac nc cc X1 X2 q v0 v1)(hg:wr.grownBy W (Value.slice Ac nc cc).ownBlock):W.heap[q]?=some (.cells #[v0,v1] 118 (0,0)):=by
 obtain⟨xs,hrow⟩:=h.D.row;refine(hg.block q h.lt λe=>?_).trans h.qb;rcases hrow.2 with⟨h1,_⟩|⟨g',cap,cur,h1,_,h3,_⟩
 .rw[h1]at e;cases e
 rw[h1]at e;simp only[Value.ownBlock,Option.some.injEq]at e;subst e;have:=h.qb;rw[h3]at this;simp at this
theorem DQ.setC{nc' cc':Nat}{Ac':Option Addr}(hG:DC G B)(hB:B<=r)(h:DQ G w wr r A n c All i b m1 m2 Ac nc cc X1 X2 q v0 v1)(hg:wr.grownBy W (Value.slice Ac nc cc).ownBlock){xs:List Value}(hrow:W.ownsRow (b+1) 169 2 (.slice Ac' nc' cc') nc' xs):DQ G w (W.setCell ⟨b,2,none⟩ (.slice Ac' nc' cc')) r A n c All i b m1 m2 Ac' nc' cc' X1 X2 q v0 v1:=
 ⟨h.D.setC hG hB hg hrow,(heap_set _ _ _ h.nb).trans (h.midq hg),h.qn⟩
theorem DQ.tok{i0:Nat}(hG:DC G B)(hB:B<=r)(hp0:MM w r A n c All i0)(h:DQ G w wr r A n c All i b m1 m2 Ac nc cc X1 X2 q v0 v1)(u0 u1:Value):DQ G w ((wr.setCell ⟨q,0,none⟩ u0).setCell ⟨q,1,none⟩ u1) r A n c All i b m1 m2 Ac nc cc X1 X2 q u0 u1:=
 have h1:(wr.setCell ⟨q,0,none⟩ u0).heap[q]?=some (.cells #[u0,v1] 118 (0,0)):=AH h.qb 0 u0
 ⟨(h.D.tok hG hB hp0 h.qb h.qn 0 u0).tok hG hB hp0 h1 h.qn 1 u1,AH h1 1 u1,h.qn⟩
theorem DQ.qcells(h:DQ G w wr r A n c All i b m1 m2 Ac nc cc X1 X2 q v0 v1):wr.cell? ⟨q,0,none⟩=some v0/\wr.cell? ⟨q,1,none⟩=some v1/\wr.frozen? ⟨q,0,none⟩=false/\wr.frozen? ⟨q,1,none⟩=false:=
 ⟨(AY h.qb).1,(AY h.qb).2,AB h.qb 0,AB h.qb 1⟩
end
end
theorem J2{G:World->Prop}{B:Nat}{w:World}{r n c i i':Nat}{A:Option Addr}{All:List AW}{Ss:List ((ByteArray->Prop)×(ByteArray->Prop))}{sg kk vv a1 a2:ByteArray}(hG:DC G B)(hB:B<=r)(hp:MM w r A n c All i)(hw:G w)(h:V6 G B r A n c All i Ss i' \/Ss=[]/\∃y rest,All.drop i=(8,y)::rest/\i'=i+1)(hsg:(sg=⟨#[]⟩/\a1=⟨#[]⟩/\a2=⟨#[]⟩)\/(kk.size=1/\AA kk 0<128/\1<=vv.size/\vv.size<=900/\sg=D5 kk vv/\a1=kk/\a2=vv))(hLen:Ss.length<=100000)(hS:EOk Ss kk vv) :
 Calls Tryz.prog 76 #[.pointer (some ⟨r,0,none⟩),.agg #[.string sg]] w (MkP w r A n c All i' (P9 (PI (DY a1) Ss) (PN (DY a2) Ss))):=by
 have hmm:=@run_makeMap Tryz.prog
 obtain⟨i0,hi,hz0,hz1,hz2⟩:=info_parts Tryz.info169
 have hrl:=hp.lt
 have hb0:Below w.heap.size w (w.alloc (.cells #[.string sg] 115)):=Bl.alloc Nl _
 have hb1:Below w.heap.size w ((w.alloc (.cells #[.string sg] 115)).alloc (.cells #[.map none,.map none,.slice none 0 0] 167)):=hb0.alloc Sm _
 have hc1:((w.alloc (.cells #[.string sg] 115)).alloc (.cells #[.map none,.map none,.slice none 0 0] 167)).heap[w.heap.size]?=some (.cells #[.string sg] 115 (0,0)):=(Below.heap_alloc _ _ w.heap.size Sm).trans (heap_alloc_new _ _)
 have hn1:((w.alloc (.cells #[.string sg] 115)).alloc (.cells #[.map none,.map none,.slice none 0 0] 167)).heap[w.heap.size+1]?=some (.cells #[.map none,.map none,.slice none 0 0] 167 (0,0)):=by have:=heap_alloc_new (w.alloc (.cells #[.string sg] 115)) (.cells #[.map none,.map none,.slice none 0 0] 167);simpa using this
 have hs1:((w.alloc (.cells #[.string sg] 115)).alloc (.cells #[.map none,.map none,.slice none 0 0] 167)).heap.size=w.heap.size+2:=by simp
 have ha1:PL G w ((w.alloc (.cells #[.string sg] 115)).alloc (.cells #[.map none,.map none,.slice none 0 0] 167)) r A n c All i (w.heap.size+1) (.map none) (.map none) none 0 0 [] []:=
  ⟨hp.below hb1,hG _ _ hw (hb1.mono Om),⟨hb1.os,hb1.tape,hb1.output,hb1.size,λq hq _=>hb1.block q hq⟩,Om,hrl,hn1,.inl ⟨rfl,rfl⟩,.inl ⟨rfl,rfl⟩,[],⟨rfl,.inl ⟨rfl,rfl⟩⟩⟩
 have HP0:=Hd hp
 have HE:=Hd h
 have HSS:=Hd hS
 clear hp hw h hS hb0 hb1 hn1
 go_enter Tryz.func76,Tryz.ntmps76
 go_wp2_with fail
 go_step3
 go_upto_region 2 with fail
 generalize (w.alloc (.cells #[.string sg] 115)).alloc (.cells #[.map none,.map none,.slice none 0 0] 167)=wb at *
 have x0:=BE hc1
 have HA1:=Hd ha1
 have HC1:=Hd hc1
 clear ha1 hc1
 have HSG:=Hd hsg
 clear hsg
 go_upto_if 18 with fail
 obtain⟨be,hbe⟩:∃be,sg.toList.isEmpty=be:=⟨_,rfl⟩
 rw[hbe]
 go_cut [7,8] from 19 to 44 (λ_ _ wx=>∃(m1 m2:Value) (X1 X2:List ByteArray),Hid (PL G w wx r A n c All i (w.heap.size+1) m1 m2 none 0 0 X1 X2)/\Hid (∀t,t∈X1↔DY a1 t)/\Hid (∀t,t∈X2↔DY a2 t)/\Hid (PX X1 kk 5000)/\Hid (PX X2 vv 5000))
 case first=>
  rcases HSG.out with⟨rfl,rfl,rfl⟩|⟨hk1,hk2,hv1,hv2,hsg,rfl,rfl⟩
  .obtain rfl:be=true:=by rw[<-hbe,ByteArray.toList_eq];rfl
   go_wp2_with fail;go_meet;exact⟨_,_,[],[],HA1,(λt=>by simp[DY];intro h _;exact absurd rfl h),(λt=>by simp[DY];intro h _;exact absurd rfl h),⟨.inl rfl,by simp,λs h=>by simp at h⟩,⟨.inl rfl,by simp,λs h=>by simp at h⟩⟩
  have hsz:sg.size=1+a2.size+3:=by rw[hsg,I3];omega
  obtain rfl:be=false:=by rw[<-hbe];exact LS Om
  have HSD:=Hd hsg;have h5:¬(sg.size:Int)<5:=Om;have h52:2<sg.size:=Om;have em:=AJ h52;have HKS:=Hd (⟨hk1,hk2,hv1,hv2,hsz⟩:a1.size=1/\AA a1 0<128/\1<=a2.size/\a2.size<=900/\sg.size=1+a2.size+3);have hsL:sg.size<=1000:=Om;have hs4:(3:Int)<=(sg.size:Int)-1:=Om;have hs3:(3:Int)<=(sg.size:Int):=Om;have hsN:(((sg.size:Int)-1).toNat)=sg.size-1:=Om;clear hsg hbe hsz hk1 hk2 hv1 hv2;go_upto_region 6 with fail;rw[AId HKS.out.1 HKS.out.2.1 HSD.out];go_upto_region 7 with fail;rw[AHx HKS.out.1 HSD.out];clear h5 h52 em hs4 hs3 hsN hsL HSD;have hbd:Below wb.heap.size wb ((wb.alloc (.cells #[.string a1] 115)).alloc (.cells #[.string a2] 115)):=(Bl.alloc Nl _).alloc Sm _;have hx7:((wb.alloc (.cells #[.string a1] 115)).alloc (.cells #[.string a2] 115)).heap[w.heap.size+2]?=some (.cells #[.string a1] 115 (0,0)):=(Below.heap_alloc _ _ (w.heap.size+2) (by simp;omega)).trans (by rw[<-hs1];exact heap_alloc_new _ _);have hx8:((wb.alloc (.cells #[.string a1] 115)).alloc (.cells #[.string a2] 115)).heap[w.heap.size+2+1]?=some (.cells #[.string a2] 115 (0,0)):=by have:=heap_alloc_new (wb.alloc (.cells #[.string a1] 115)) (.cells #[.string a2] 115);rw[<-hs1];simpa using this
  have hsd:((wb.alloc (.cells #[.string a1] 115)).alloc (.cells #[.string a2] 115)).heap.size=w.heap.size+4:=by simp;omega
  have HAD:=Hd (HA1.out.below hG hB hbd);clear hbd;generalize (wb.alloc (.cells #[.string a1] 115)).alloc (.cells #[.string a2] 115)=wd at *;clear x0 HC1 HA1 hs1;have hbm:Below wd.heap.size wd (wd.alloc (.map #[] 0)):=Bl.alloc Nl _;have x7:=BE ((hbm.block (w.heap.size+2) Om).trans hx7);have HX8:=Hd hx8;have HBM:=Hd hbm;have HSM:=Hd (show CD (wd.alloc (.map #[] 0)) (w.heap.size+4) 0 [] by rw[<-hsd];exact C6 wd);have hka:a1.size<=1000:=by have:=HKS.out.1;omega
  have hva:a2.size<=1000:=by have:=HKS.out.2.2.2.1;omega
  clear hbm hx7 hx8;go_upto_region 8 with(refine EX _ rfl _ _ _ rfl (w.heap.size+4) 0 [] a1 rfl rfl rfl HSM.out Om Om ?_;intro w3 X3 hset hy hg3;have hmm3:Below wd.heap.size wd w3:=HBM.out.grown hg3 Sm (λk hk=>by cases hk;omega);have ha3:=HAD.out.below hG hB hmm3;obtain⟨z0,z1,z2,z3,z4,z5⟩:=ha3.cells;have HA3:=Hd ha3;have hx8:=(hmm3.block (w.heap.size+2+1) Om).trans HX8.out;have HX83:=Hd hx8;have HS3:=Hd hset;have HY3:=Hd hy;have HZ3:=Hd hmm3.size;clear ha3 hmm3 hx8 hset hy hg3);have hx8:=(heap_set w3 ⟨w.heap.size+1,0,none⟩ (.map (some (w.heap.size+4))) (b:=w.heap.size+2+1) (by show _≠w.heap.size+1;omega)).trans HX83.out;have HA4:=Hd (HA3.out.setK hG hB (.inr ⟨_,rfl,HS3.out.tight⟩));have hs4:w.heap.size+4<=(w3.setCell ⟨w.heap.size+1,0,none⟩ (.map (some (w.heap.size+4)))).heap.size:=by have:=HZ3.out;simp;omega
  clear z0 z1 z2 z3 z4 z5 x7 HA3 HX83 HAD HX8 HBM HSM HZ3 hsd;have HX1:=Hd (show ∀t,t∈X3↔DY a1 t from λt=>by rw[HY3.out];have:=HKS.out.1;exact⟨λh=>⟨Om,h.resolve_left Sm⟩,λh=>.inr h.2⟩);clear HS3 HY3;generalize w3.setCell ⟨w.heap.size+1,0,none⟩ (.map (some (w.heap.size+4)))=w4 at *;have hbm:Below w4.heap.size w4 (w4.alloc (.map #[] 0)):=Bl.alloc Nl _;have x8:=BE ((hbm.block (w.heap.size+2+1) Om).trans hx8);have HBM:=Hd hbm;have HSM:=Hd (C6 w4);clear hbm hx8;go_wp2_with (refine EX _ rfl _ _ _ rfl w4.heap.size 0 [] a2 rfl rfl rfl HSM.out Om Om ?_;intro w5 X5 hset hy hg5;have hmm5:Below w4.heap.size w4 w5:=HBM.out.grown hg5 Sm (λk hk=>by cases hk;exact Nl);have ha5:=HA4.out.below hG hB hmm5;obtain⟨z0,z1,z2,z3,z4,z5⟩:=ha5.cells;have HA5:=Hd ha5;have HS5:=Hd hset;have HY5:=Hd hy;clear ha5 hmm5 hset hy hg5);go_meet;have h2:∀t,t∈X5↔DY a2 t:=λt=>by rw[HY5.out];have:=HKS.out.2.2.1;exact⟨λh=>⟨Om,h.resolve_left Sm⟩,λh=>.inr h.2⟩
  exact⟨_,_,X3,X5,HA5.out.setW hG hB (.inr ⟨_,rfl,HS5.out.tight⟩),HX1,h2,
   ZY HX1.out HA5.out.set1.nd (by have:=HKS.out.1;omega) (by have:=HKS.out.1;omega),ZY h2 HS5.out.nd (by have:=HKS.out.2.2.1;omega) HKS.out.2.2.2.1⟩
 obtain⟨m10,m20,X10,X20,HA0,HX1,HX2,HI1,HI2⟩:=hcut
 clear HC1 x0 HA1 hs1 HSG
 rcases HE.out with he|⟨rfl,y,l1,GR,rfl⟩
 rotate_left
 .have ha0:=HA0.out
  have hnew:=ha0.new;have hrb:=ha0.rb;have HD1:=Hd GR;have HL0:=Hd (AEv HX1.out ha0.set1.nd);clear GR ha0;go_upto_if 49 with(go_at_call 69;refine(AO HA0.out.P HD1.out).mono ?_;rintro e w5 ⟨rfl,hp5,hg5⟩);have ha5:=HA0.out.step hG hB hg5 hp5;have hb6:Below w5.heap.size w5 (w5.alloc (.cells #[.int .u8 8,.string y] 118)):=Bl.alloc Nl _;have HA6:=Hd (ha5.below hG hB hb6);clear ha5 hp5 hg5 hb6;generalize w5.alloc (.cells #[.int .u8 8,.string y] 118)=w6 at *;obtain⟨z0,z1,z2,_⟩:=HA6.out.cells;go_wp2_with fail
  first|(rw[Exit.noGoto_ret];go_ret2)|go_ret2
  refine⟨_,_,rfl,XG _ _ _ X10 X20 HA6.out.set1 HA6.out.set2 (λs hs=>by have:=HI1.out.2.2 s hs;omega) (λs hs=>by have:=HI2.out.2.2 s hs;omega) (Nat.le_trans (Nat.mul_le_mul HL0.out HI2.out.2.1) De),λt=>?_,HA6.out.P,HA6.out.g⟩;rw[KF];exact⟨λ⟨a,ha,b,hb,e⟩=>⟨a,b,(HX1.out a).1 ha,(HX2.out b).1 hb,e⟩,λ⟨a,b,ha,hb,e⟩=>⟨a,(HX1.out a).2 ha,b,(HX2.out b).2 hb,e⟩⟩
 replace HE:=Hd he
 clear he
 obtain⟨k1,x1,l1,GR,hk1,hk2,hk3,hk4⟩:=HE.out.first
 have ha0:=HA0.out
 have hnew:=ha0.new
 have hrb:=ha0.rb
 have u8:((k1:Int)==8)=false:=Bq
 have HD1:=Hd GR
 clear GR ha0
 go_upto_if 49 with(go_at_call 69;refine(AO HA0.out.P HD1.out).mono ?_;rintro e w5 ⟨rfl,hp5,hg5⟩)
 have ha5:=HA0.out.step hG hB hg5 hp5
 have hb6:Below w5.heap.size w5 (w5.alloc (.cells #[.int .u8 k1,.string x1] 118)):=Bl.alloc Nl _
 have HA6:=Hd (ha5.below hG hB hb6)
 clear ha5 hp5 hg5 hb6
 generalize w5.alloc (.cells #[.int .u8 k1,.string x1] 118)=w6 at *
 go_wp2_with (go_at_call 102;refine(EP HA6.out.P).mono ?_;rintro e w7 ⟨rfl,hp7,hg7⟩;have HA7:=Hd (HA6.out.step hG hB hg7 hp7);clear hp7 hg7)
 go_step3
 go_wp2_with fail
 clear u8 hk1 hk2 hk3 hk4 HD1 HA6
 go_loopg [] Ss.length (λg wr=>∃(i1 nc cc:Nat) (m1 m2:Value) (Ac:Option Addr) (X1 X2:List ByteArray) (S1:List ((ByteArray->Prop)×(ByteArray->Prop))),S1.length=g/\nc+S1.length=Ss.length/\Hid (PL G w wr r A n c All i1 (w.heap.size+1) m1 m2 Ac nc cc X1 X2)/\Hid (V6 G B r A n c All i1 S1 i')/\Hid (PI (λt=>t∈X1) S1=PI (DY a1) Ss)/\Hid (PN (λt=>t∈X2) S1=PN (DY a2) Ss)/\Hid (PX X1 kk 5000)/\Hid (PX X2 vv 5000)/\Hid (X1.length<=10)/\Hid (EOk S1 kk vv))
 case atStart=>exact⟨i,0,0,m10,m20,none,X10,X20,Ss,rfl,Nat.zero_add _,HA7,HE,(by show _=_;rw[show (λt=>t∈X10)=DY a1 from funext λt=>propext (HX1.out t)]),(by show _=_;rw[show (λt=>t∈X20)=DY a2 from funext λt=>propext (HX2.out t)]),HI1,HI2,AEv HX1.out HA7.out.set1.nd,HSS⟩
 obtain⟨i1,nc,cc,m1,m2,Ac,X1,X2,S1,hgl,hnc,HA,HEL,HFK,HFW,HI1,HI2,HL1,HS1⟩:=hrel
 obtain⟨SK,SW,S2,j1,j2,k,y1,y2,rest1,rest2,hS12,hme1,⟨k1,x1,l1,GR,hk1,hk2,hk3,hk4⟩,hdc,hme2,⟨k2,x2,l2,hd2,hk21,hk22,hk23,hk24⟩,hdk,hkk⟩:=HEL.out.inv
 have HSE:=Hd hS12
 have hlen:S2.length+1=S1.length:=by rw[hS12];simp
 have HD1:=Hd GR
 have HD2:=Hd hd2
 have HME1:=Hd hme1
 have HME2:=Hd hme2
 have HDC:=Hd hdc
 have HDK:=Hd hdk
 have HKK:=Hd hkk
 have u0:((k1:Int)==0)=false:=Bq
 have u1:((k1:Int)==1)=false:=Bq
 have HU2:=Hd (show ((k2:Int)==0)=false/\((k2:Int)==1)=false from⟨Bq,Bq⟩)
 clear GR hd2 hme1 hme2 hdc hdk hkk hk1 hk2 hk3 hk4 hk21 hk22 hk23 hk24 hS12
 have hnew:=HA.out.new
 have hrb:=HA.out.rb
 go_upto_region 14 with(go_at_call 69;refine(AO HA.out.P HD1.out).mono ?_;rintro e w5 ⟨rfl,hp5,hg5⟩)
 have ha5:=HA.out.step hG hB hg5 hp5
 have hb6:Below w5.heap.size w5 (w5.alloc (.cells #[.int .u8 k1,.string x1] 118)):=Bl.alloc Nl _
 have hq6:=heap_alloc_new w5 (.cells #[.int .u8 k1,.string x1] 118)
 have HA6:=Hd (⟨ha5.below hG hB hb6,hq6,ha5.g.size⟩:DQ G w (w5.alloc (.cells #[.int .u8 k1,.string x1] 118)) r A n c All (i1+1) (w.heap.size+1) m1 m2 Ac nc cc X1 X2 w5.heap.size (.int .u8 k1) (.string x1))
 have x6:=(AY hq6).1
 obtain⟨q,hq5⟩:∃q,w5.heap.size=q:=⟨_,rfl⟩
 rw[hq5]at x6 HA6 ⊢
 clear ha5 hp5 hg5 hb6 hq5 hq6
 generalize w5.alloc (.cells #[.int .u8 k1,.string x1] 118)=w6 at *
 go_upto_region 23 with(first
  |(go_at_call 102;refine(EP HA6.out.D.P).mono ?_;rintro e w7 ⟨rfl,hp7,hg7⟩;have HA7:=Hd (HA6.out.step hG hB hg7 hp7);clear hp7 hg7)
  |(go_at_call 45;refine(FD hG hB HA7.out.D.P HA7.out.D.G HME1.out).mono ?_;rintro e w8 ⟨v,Xv,rfl,hnode,hX,hp8,hg8⟩;obtain⟨T1,xv1,f1,rfl,hm,hcf,hc⟩:=hnode;have HA8:=Hd (HA7.out.step hG hB hg8 hp8);have HXV:=Hd hX;have HCC:=Hd hc;clear hp8 hg8 hX hc))
 go_wp2_with fail
 refine(HCC.out _ (BZ.refl _)).mono ?_
 rintro e w9 ⟨mY,Y,rfl,hsY,hY,hb9⟩
 have HA9:=Hd (HA8.out.below hG hB hb9)
 have HYS:=Hd (show ∀t,t∈Y↔SK t from λt=>(hY t).trans (HXV.out t))
 have HSY:=Hd hsY
 have HFEW:=Hd (HS1.out (SK,SW) (by rw[HSE.out];simp))
 have hYL:Y.length<=10:=HFEW.out.1.1.len hsY.nd HYS.out
 obtain⟨oY,rfl⟩:=hsY.form
 clear hsY hY hb9 hm hcf HCC HXV HA6 HA7 u0 u1 x6 HD1 HME1 HA8
 go_upto_if 80 with(go_at_call 103;refine(DH HSY.out Om).mono ?_;rintro e w10 ⟨rfl,rfl⟩)
 generalize hdy:decide (Y=[])=dY
 have HDY:=Hd hdy
 clear hdy
 go_cut [] from 81 to 94 (λwx=>∃(m1':Value) (X1':List ByteArray),Hid (DQ G w wx r A n c All j1 (w.heap.size+1) m1' m2 Ac nc cc X1' X2 q (.int .u8 k1) (.string x1))/\Hid ((λt=>t∈X1')=GE SK (λt=>t∈X1))/\Hid (PX X1' kk 5000)/\Hid (X1'.length<=10))
 case first=>
  cases dY with
  |true=>go_wp2_with fail;go_meet;exact⟨_,X1,HA9,ANa HYS.out (of_decide_eq_true HDY.out),HI1,HL1⟩
  |false=>
   have HYE:=Hd (of_decide_eq_false HDY.out);have HIY:=Hd (PX.first (m:=5000) HYS.out HSY.out.nd (AOu HFEW.out.1.1 Om) HFEW.out.1.2 HYE.out);obtain⟨z0,z1,z2,z3,z4,z5⟩:=HA9.out.D.cells;have hXL:=HL1.out;go_upto_if 83 with(go_at_call 103;refine(DH HA9.out.D.set1 Om).mono ?_;rintro e w10 ⟨rfl,rfl⟩);generalize hdx:decide (X1=[])=dX;have HDX:=Hd hdx;clear hdx
   cases dX with
   |true=>go_wp2_with fail;go_meet;exact⟨_,Y,HA9.out.setK hG hB HSY.out,AHs HYS.out HYE.out (of_decide_eq_true HDX.out),HIY,hYL⟩
   |false=>have HXE:=Hd (of_decide_eq_false HDX.out);obtain⟨b2,rfl,hset2⟩:=AEy HA9.out.D.set1 HXE.out;have HB2:=Hd hset2;clear hset2;go_upto_region 28 with(go_at_call 105;refine(GS HSY.out HB2.out Om).mono ?_;rintro e w12 ⟨mV,V,rfl,hsV,hV,hb12⟩;have HV:=Hd hV;have HSV:=Hd hsV;obtain⟨oV,rfl⟩:=hsV.form;have ha12:=HA9.out.below hG hB hb12;obtain⟨q0,q1,q2,q3,q4,q5⟩:=ha12.D.cells;have HA12:=Hd ha12;clear hV hsV ha12 hb12);have HA13:=Hd (HA12.out.setK hG hB HSV.out);obtain⟨hIV,hVne⟩:=HI1.out.both HXE.out HIY.out HYE.out HV.out HSV.out.nd;have hVL:V.length<=10:=Nat.le_trans (EY HSV.out.nd λt ht=>((HV.out t).1 ht).2) HL1.out;have hdv:decide (V=[])=false:=decide_eq_false hVne;have HIV:=Hd hIV;have HMV:=Hd (ANc HYS.out HYE.out HXE.out HV.out);clear z0 z1 z2 z3 z4 z5 q0 q1 q2 q3 q4 q5 hIV hVne;generalize w12.setCell ⟨w.heap.size+1,0,none⟩ (.map oV)=w13 at *;obtain⟨z0,z1,z2,z3,z4,z5⟩:=HA13.out.D.cells;go_wp2_with (go_at_call 103;refine(DH HA13.out.D.set1 Om).mono ?_;rintro e w14 ⟨rfl,rfl⟩;rw[hdv]);go_meet;exact⟨_,V,HA13,HMV,HIV,hVL⟩
 obtain⟨m1',X1',HB1,HM1,HJ1,HL2⟩:=hcut
 clear HDY HSY HYS HA9 hYL
 obtain⟨c0,c1,c2,c3⟩:=HB1.out.qcells
 go_upto_region 31 with(go_at_call 69;refine(AO HB1.out.D.P HDC.out).mono ?_;rintro e w5 ⟨rfl,hp5,hg5⟩;have HB2:=Hd (HB1.out.step hG hB hg5 hp5);obtain⟨d0,d1,d2,d3⟩:=HB2.out.qcells;clear hp5 hg5)
 have HB3:=Hd (HB2.out.tok hG hB HP0.out (.int .u8 12) (.string y1))
 clear c0 c1 c2 c3 d0 d1 d2 d3
 generalize (w5.setCell ⟨q,0,none⟩ _).setCell ⟨q,1,none⟩ _=w6 at *
 obtain⟨c0,c1,c2,c3⟩:=HB3.out.qcells
 go_upto_region 39 with(go_at_call 69;refine(AO HB3.out.D.P HD2.out).mono ?_;rintro e w7 ⟨rfl,hp5,hg5⟩;have HB4:=Hd (HB3.out.step hG hB hg5 hp5);obtain⟨d0,d1,d2,d3⟩:=HB4.out.qcells;clear hp5 hg5)
 have HB5:=Hd (HB4.out.tok hG hB HP0.out (.int .u8 k2) (.string x2))
 clear c0 c1 c2 c3 d0 d1 d2 d3
 generalize (w7.setCell ⟨q,0,none⟩ _).setCell ⟨q,1,none⟩ _=w8 at *
 obtain⟨c0,c1,c2,c3⟩:=HB5.out.qcells
 obtain⟨u0,u1⟩:=HU2.out
 go_upto_region 48 with(first
  |(go_at_call 102;refine(EP HB5.out.D.P).mono ?_;rintro e w9 ⟨rfl,hp7,hg7⟩;have HB6:=Hd (HB5.out.step hG hB hg7 hp7);clear hp7 hg7)
  |(go_at_call 45;refine(FD hG hB HB6.out.D.P HB6.out.D.G HME2.out).mono ?_;rintro e w10 ⟨v,Xv,rfl,hnode,hX,hp8,hg8⟩;obtain⟨T2,xv2,f2,rfl,hm,hcf,hc⟩:=hnode;have HB7:=Hd (HB6.out.step hG hB hg8 hp8);have HXV:=Hd hX;have HCC:=Hd hc;clear hp8 hg8 hX hc))
 go_wp2_with fail
 refine(HCC.out _ (BZ.refl _)).mono ?_
 rintro e w11 ⟨mY2,Y,rfl,hsY,hY,hb9⟩
 have HA9:=Hd (HB7.out.below hG hB hb9)
 have HYS:=Hd (show ∀t,t∈Y↔SW t from λt=>(hY t).trans (HXV.out t))
 have HSY:=Hd hsY
 have hYL:Y.length<=5000:=HFEW.out.2.1.len hsY.nd HYS.out
 obtain⟨oY2,rfl⟩:=hsY.form
 clear hsY hY hb9 hm hcf HCC HXV HB1 HB2 HB3 HB4 HB5 HB6 HB7 u0 u1 c0 c1 c2 c3 HDC HD2 HME2
 go_upto_if 136 with(go_at_call 103;refine(DH HSY.out Om).mono ?_;rintro e w12 ⟨rfl,rfl⟩)
 generalize hdy:decide (Y=[])=dY2
 have HDY:=Hd hdy
 clear hdy
 go_cut [] from 137 to 150 (λwx=>∃(m2':Value) (X2':List ByteArray),Hid (DQ G w wx r A n c All j2 (w.heap.size+1) m1' m2' Ac nc cc X1' X2' q (.int .u8 k2) (.string x2))/\Hid ((λt=>t∈X2')=GE SW (λt=>t∈X2))/\Hid (PX X2' vv 5000))
 case first=>
  cases dY2 with
  |true=>go_wp2_with fail;go_meet;exact⟨_,X2,HA9,ANa HYS.out (of_decide_eq_true HDY.out),HI2⟩
  |false=>
   have HYE:=Hd (of_decide_eq_false HDY.out);have HIY:=Hd (PX.first (m:=5000) HYS.out HSY.out.nd HFEW.out.2.1 HFEW.out.2.2 HYE.out);obtain⟨z0,z1,z2,z3,z4,z5⟩:=HA9.out.D.cells;have hXL:=HI2.out.2.1;go_upto_if 139 with(go_at_call 103;refine(DH HA9.out.D.set2 Om).mono ?_;rintro e w12 ⟨rfl,rfl⟩);generalize hdx:decide (X2=[])=dX;have HDX:=Hd hdx;clear hdx
   cases dX with
   |true=>go_wp2_with fail;go_meet;exact⟨_,Y,HA9.out.setW hG hB HSY.out,AHs HYS.out HYE.out (of_decide_eq_true HDX.out),HIY⟩
   |false=>
    have HXE:=Hd (of_decide_eq_false HDX.out);obtain⟨b2,hb2,hset2⟩:=AEy HSY.out HYE.out
    cases hb2
    have HB2:=Hd hset2;clear hset2;go_upto_region 53 with(go_at_call 105;refine(GS HA9.out.D.set2 HB2.out Om).mono ?_;rintro e w12 ⟨mV,V,rfl,hsV,hV,hb12⟩;have HV:=Hd (show ∀t,t∈V↔t∈Y/\t∈X2 from λt=>(hV t).trans and_comm);have HSV:=Hd hsV;obtain⟨oV,rfl⟩:=hsV.form;have ha12:=HA9.out.below hG hB hb12;obtain⟨q0,q1,q2,q3,q4,q5⟩:=ha12.D.cells;have HA12:=Hd ha12;clear hV hsV ha12 hb12);have HA13:=Hd (HA12.out.setW hG hB HSV.out);obtain⟨hIV,hVne⟩:=HI2.out.both HXE.out HIY.out HYE.out HV.out HSV.out.nd;have hVL:V.length<=5000:=hIV.2.1;have hdv:decide (V=[])=false:=decide_eq_false hVne;have HIV:=Hd hIV;have HMV:=Hd (ANc HYS.out HYE.out HXE.out HV.out);clear z0 z1 z2 z3 z4 z5 q0 q1 q2 q3 q4 q5 hIV hVne;generalize w12.setCell ⟨w.heap.size+1,1,none⟩ (.map oV)=w13 at *;obtain⟨z0,z1,z2,z3,z4,z5⟩:=HA13.out.D.cells;go_wp2_with (go_at_call 103;refine(DH HA13.out.D.set2 Om).mono ?_;rintro e w14 ⟨rfl,rfl⟩;rw[hdv]);go_meet;exact⟨_,V,HA13,HMV,HIV⟩
 obtain⟨m2',X2',HB1,HM2,HJ2⟩:=hcut
 clear HDY HSY HYS HA9 hYL
 have hb:=HB1.out.D
 obtain⟨xs,hrow⟩:=hb.row
 have HROW:=Hd hrow
 obtain⟨_,_,z2,_,_,z5⟩:=hb.cells
 have hfit:=hb.P.fit
 have hsml:=hb.P.small
 have hz:=hb.lt
 have hzb:=(((Below.refl wc.heap.size wc).alloc Nl (.cells #[.iface T1 xv1,.iface T2 xv2] 169)).cell (p:=⟨w.heap.size+1,2,none⟩) hz).trans z2
 clear hb hrow
 go_wp2_with (at_builtin;refine wpList_append_own _ rfl _ _ 165 rfl (w.heap.size+1+1) 169 i0 (.agg #[.nilIface,.nilIface]) 2 32 Tryz.underlying165 hi hz0 hz1 hz2 rfl De _ _ _ rfl (AD HROW.out (Bl.alloc Nl _)) ⟨wc.heap.size,0,none⟩ 1 1 [.iface T1 xv1,.iface T2 xv2] rfl rfl ?c1 ?c2 ?c3 ?c4 ?c5 ?_)
 case c1=>exact World.news_of_block (cs:=#[.iface T1 xv1,.iface T2 xv2]) (t:=169) (fr:=(0,0)) (heap_alloc_new _ _)
 case c2=>simp[Value.oneCell']
 case c3=>unfold maxLen;omega
 case c4=>omega
 case c5=>simp;omega
 intro v' w13 hown13 hgrow13 hnil
 clear hnil
 obtain⟨A13,c13,rfl,_⟩:=AF hown13
 have hb13:=HB1.out.below hG hB (Bl.alloc Nl (.cells #[.iface T1 xv1,.iface T2 xv2] 169))
 have HAC:=Hd (hb13.setC hG hB hgrow13 hown13)
 obtain⟨_,_,_,_,hmid⟩:=hb13.D.mid hG hB hgrow13
 have y2:=(DT hmid).2.2
 have f2:=AB hmid 2
 clear hown13 hgrow13 hb13 z2 z5 hzb hmid
 go_upto_region 56 with fail
 generalize w13.setCell ⟨w.heap.size+1,2,none⟩ _=w14 at *
 obtain⟨c0,c1,c2,c3⟩:=HAC.out.qcells
 clear y2 f2 HB1 HROW
 go_upto_region 57 with(go_at_call 69;refine(AO HAC.out.D.P HDK.out).mono ?_;rintro e w15 ⟨rfl,hp5,hg5⟩;have HB4:=Hd (HAC.out.step hG hB hg5 hp5);obtain⟨d0,d1,d2,d3⟩:=HB4.out.qcells;clear hp5 hg5)
 have HB5:=Hd (HB4.out.tok hG hB HP0.out (.int .u8 k) (.string y2))
 clear c0 c1 c2 c3 d0 d1 d2 d3 HAC HB4
 generalize (w15.setCell ⟨q,0,none⟩ _).setCell ⟨q,1,none⟩ _=w16 at *
 obtain⟨c0,c1,c2,c3⟩:=HB5.out.qcells
 have HFK2:=Hd (show PI (λt=>t∈X1') S2=PI (DY a1) Ss by rw[<-HFK.out,HSE.out,HM1.out];rfl)
 have HFW2:=Hd (show PN (λt=>t∈X2') S2=PN (DY a2) Ss by rw[<-HFW.out,HSE.out,HM2.out];rfl)
 rcases HKK.out with⟨rfl,hS2,hi2⟩|⟨rfl,hel⟩
 .obtain⟨z0,z1,z2,_⟩:=HB5.out.D.cells
  have HS2:=Hd hS2;have HI2:=Hd hi2;clear hS2 hi2;go_wp2_with fail
  first|(rw[Exit.noGoto_ret];go_ret2)|go_ret2
  refine⟨_,_,rfl,XG _ _ _ X1' X2' HB5.out.D.set1 HB5.out.D.set2 (λs hs=>by have:=HJ1.out.2.2 s hs;omega) (λs hs=>by have:=HJ2.out.2.2 s hs;omega) (Nat.le_trans (Nat.mul_le_mul HL2.out HJ2.out.2.1) De),λt=>?_,HI2.out▸HB5.out.D.P,HB5.out.D.g⟩;rw[KF];have h1:=λs=>iff_of_eq (congrFun HFK2.out s);have h2:=λs=>iff_of_eq (congrFun HFW2.out s);rw[HS2.out]at h1 h2;exact⟨λ⟨a,ha,b,hb,e⟩=>⟨a,b,(h1 a).1 ha,(h2 b).1 hb,e⟩,λ⟨a,b,ha,hb,e⟩=>⟨a,(h1 a).2 ha,b,(h2 b).2 hb,e⟩⟩
 have HEL2:=Hd hel
 clear hel
 go_wp2_with fail
 go_roundg S2.length
 case rel=>exact⟨j2+1,_,_,_,_,_,X1',X2',S2,rfl,Om,HB5.out.D,HEL2,HFK2,HFW2,HJ1,HJ2,HL2,(λS hS=>HS1.out S (by rw[HSE.out];simp[hS]))⟩
 omega
