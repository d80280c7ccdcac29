/- Lemmas for FnVtSigsEntry; no conditions. -/
import Derived.Test.YtbnbadcnfchdhaaGreatDoorP34
import Derived.Test.YtbnbadcnfchdhaaGreatDoorP39
import Derived.Laws.MakeOwn
set_option maxRecDepth 100000
set_option maxHeartbeats 16000000
set_option linter.all false
namespace Go.Proofs.YtbnbadcnfchdhaaGreatDoor
open Go.RowKit
def AJf(b:Nat)(y:ByteArray):Prop:=∀W,FN W->Calls Tryz.prog 65 #[.string y,.int .i64 b,.int .i64 8] W λe w'=>∃n:Int,e=.returned (.tuple #[.int .u64 n,.nilIface])/\Below W.heap.size W w'
inductive WJ:ByteArray->Prop
 |nil {t:ByteArray} (h:t.size=0):WJ t
 |plain {t:ByteArray} (h:0<t.size) (hr:AA t 0≠92) (hg:WJ (rest t 1)):WJ t
 |esc {t:ByteArray} (h:0<t.size) (hr:AA t 0=92) (h1:0<(rest t 1).size) (hn:AA (rest t 1) 0≠120/\AA (rest t 1) 0≠48) (hg:WJ (rest (rest t 1) 1)):WJ t
 |hex {t:ByteArray} (b m:Nat) (h:0<t.size) (hr:AA t 0=92) (h1:0<(rest t 1).size) (hn:AA (rest t 1) 0=120/\b=16/\m=2\/AA (rest t 1) 0=48/\b=8/\m=3) (hm:m<=(rest (rest t 1) 1).size) (hp:AJf b ((rest (rest t 1) 1).extract 0 m)) (hg:WJ (rest (rest (rest t 1) 1) m)):WJ t
theorem ZK{x:UInt8}(h:48<=x.toNat/\x.toNat<=55):E7 x.toNat=some (x.toNat-48):=by unfold E7;rw[if_pos ⟨h.1,Om⟩]
theorem AFl{a b c:UInt8}(ha:48<=a.toNat/\a.toNat<=55)(hb:48<=b.toNat/\b.toNat<=55)(hc:48<=c.toNat/\c.toNat<=55)(hv:(a.toNat-48)*64+(b.toNat-48)*8+(c.toNat-48)<=255):(BQ 8 (IQ 8) [a,b,c] 0).2=0:=by have hm:IQ 8=255:=De;rw[hm];unfold BQ;rw[ZK ha];show (if 8<=a.toNat-48 then(0,2) else if 255<0*8+(a.toNat-48) then(255,1) else BQ 8 255 [b,c] (0*8+(a.toNat-48))).2=0;rw[if_neg Om,if_neg Om];unfold BQ;rw[ZK hb];show (if 8<=b.toNat-48 then(0,2) else if 255<(0*8+(a.toNat-48))*8+(b.toNat-48) then(255,1) else BQ 8 255 [c] ((0*8+(a.toNat-48))*8+(b.toNat-48))).2=0;rw[if_neg Om,if_neg Om];unfold BQ;rw[ZK hc];show (if 8<=c.toNat-48 then(0,2) else if 255<((0*8+(a.toNat-48))*8+(b.toNat-48))*8+(c.toNat-48) then(255,1) else BQ 8 255 [] (((0*8+(a.toNat-48))*8+(b.toNat-48))*8+(c.toNat-48))).2=0;rw[if_neg Om,if_neg Om];rfl
theorem AD3{l:List UInt8}(h:l.length=3):l=[l.getD 0 0,l.getD 1 0,l.getD 2 0]:=by
 match l,h with
 |[a,b,c],_=>rfl
theorem AK2{y:ByteArray}(h:y.size=3)(hd:∀i,i<3->48<=AA y i/\AA y i<=55)(hv:(AA y 0-48)*64+(AA y 1-48)*8+(AA y 2-48)<=255):AJf 8 y:=by
 intro W hE;have hl:y.data.toList.length=3:=h;have h0:=hd 0 Om;have h1:=hd 1 Om;have h2:=hd 2 Om;have hz:(BQ 8 (IQ 8) y.data.toList 0).2=0:=by rw[AD3 hl];unfold AA at h0 h1 h2 hv;exact AFl Om Om Om Om
 refine(AEk y Om _ 8 W hE 0 De ?_).mono ?_
 .refine(UJ 8 _ (.inr (.inl rfl)) Om Om (λi hi=>by have:=hd i Om;omega) 8 Om Om W).mono ?_
  rintro e w' ⟨rfl,hb⟩;exact⟨_,by rw[hz],hb⟩
 rintro e w' ⟨n,v,rfl,hn,hb⟩;unfold CQ at hn;simp at hn;subst hn;exact⟨n,rfl,hb⟩
theorem AJj{t:ByteArray}(h:AGx 2 t):AJf 16 (t.extract 0 2):=λW hE=>VE h De De De De W hE
theorem AKj(x:ByteArray)(k:Nat)(h:k+3<x.size):AA (x.extract 2 (x.size-1)) k=AA x (k+2):=by
 have e:x.extract 2 (x.size-1)=(x.extract 0 (x.size-1)).extract 2 (x.extract 0 (x.size-1)).size:=by apply B8;rw[B6,B6,B6];rw[D6 Om,List.drop_zero,List.take_take,Nat.min_self]
 rw[e,BC,BU _ _ _ Om,Nat.add_comm]
theorem R6(x:ByteArray):(x.extract 2 (x.size-1)).size=x.size-3:=by simp[ByteArray.size_extract];omega
theorem QP(t:ByteArray)(k i:Nat):AA (rest t k) i=AA t (k+i):=BC t k i
theorem AKu{c:Int}(h0:0<=c)(h1:c<=255)(hx:DD c=true)(h:F6 c<8):48<=c/\c<=55/\F6 c=c-48:=by
 unfold F6 at h ⊢;by_cases hd:48<=c/\c<=57
 .rw[if_pos hd]at h ⊢;omega
 rw[if_neg hd,if_pos hx]at h;have hl:=YC h0 h1 hd;rw[hx]at hl;simp at hl;omega
theorem P2{s:ByteArray}{b:Int}:∀(m j:Nat) (acc v:Int),D3 s b m j acc=some v->∀i,i<m->j+i+1<s.size/\DD (AA s (j+i))=true/\F6 (AA s (j+i))<b
 |0,_,_,_,_,i,hi=>Om
 |m+1,j,acc,v,h,i,hi=>by
  unfold D3 at h;split at h
  .rename_i hc
   by_cases e:i=0
   .rw[e];exact hc
   have:=P2 m (j+1) _ v h (i-1) Om;rw[show j+1+(i-1)=j+i by omega]at this;exact this
  cases h
theorem RL{x:ByteArray}{q:Int}:∀(n k:Nat),(∀j,j<n->k+j<x.size/\AA x (k+j)≠92/\AA x (k+j)≠q)->CV x q k=CV x q (k+n)
 |0,_,_=>rfl
 |n+1,k,h=>by have:=h 0 Om;simp only[Nat.add_zero]at this;rw[DU this.1 this.2.1 this.2.2,RL n (k+1) (λj hj=>by have:=h (j+1) Om;rw[show k+1+j=k+(j+1) by omega];exact this),show k+1+n=k+(n+1) by omega]
def ADi(x:ByteArray):Prop:=3<=x.size/\(AA x 1=34\/AA x 1=39)/\CV x (AA x 1) 2=some x.size
theorem AA9{x:ByteArray}{q:Int}(hx:3<=x.size)(hq:q=34\/q=39):∀(N k:Nat),x.size-3-k<=N->k<=x.size-3->CV x q (k+2)=some x.size->FV x (k+2)=true->WJ (rest (x.extract 2 (x.size-1)) k)
 |0,k,hN,hk,hu,hb=>.nil (L7 (by rw[R6];omega))
 |N+1,k,hN,hk,hu,hb=>by
  have hms:=R6 x;have hsm:∀j,j+3<x.size->AA (x.extract 2 (x.size-1)) j=AA x (j+2):=AKj x;generalize ht:x.extract 2 (x.size-1)=t at *;by_cases he:k<t.size
  .have hz:(rest t k).size=t.size-k:=DK _ _ Om
   .
    have IH:=AA9 hx hq N;rw[ht]at IH;have h0:AA (rest t k) 0=AA t k:=QP t k 0;by_cases h92:AA t k=92
    .have hx92:AA x (k+2)=92:=by rw[<-hsm k Om];exact h92
     rw[EH Om hx92]at hu;have hl:=IJ hu;have hr1:rest (rest t k) 1=rest t (k+1):=BR _ _ _;have hr2:rest (rest t (k+1)) 1=rest t (k+2):=BR _ _ _;have hz1:(rest t (k+1)).size=t.size-(k+1):=DK _ _ Om;have hz2:(rest t (k+2)).size=t.size-(k+2):=DK _ _ Om;have h1:AA (rest t (k+1)) 0=AA t (k+1):=QP t (k+1) 0;have hx1:AA x (k+2+1)=AA t (k+1):=(hsm (k+1) Om).symm;by_cases hX:AA t (k+1)=120
     .rw[AK3 Om hx92 Om]at hb
      split at hb
      .rename_i hok
       cases hd:D3 x 16 2 (k+2+2) 0 with
       |none=>rw[hd]at hok;cases hok
       |some v=>
        have hg:=P2 2 _ _ _ hd;have g0:=hg 0 Om;have g1:=hg 1 Om;have i0:=JL g0.2.1;have i1:=JL g1.2.1;refine WJ.hex 16 2 Om (by rw[h0];exact h92) (by rw[hr1];omega) (by rw[hr1,h1];exact .inl ⟨hX,rfl,rfl⟩) (by rw[hr1,hr2];omega) ?_ ?_
        .rw[hr1,hr2]
         refine AJj ⟨Om,λi hi=>?_⟩;rw[QP,hsm _ Om,show k+2+i+2=k+2+2+i by omega];exact(hg i hi).2.1
        rw[hr1,hr2,BR];refine IH _ Om Om ?_ (by rw[show k+2+2+2=k+2+2+2 from rfl];exact hb);rw[<-hu,show k+2+2+2=k+2+2+2 from rfl];exact(RL 2 (k+2+2) (λj hj=>by have:=hg j hj;have:=JL this.2.1;omega)).symm
      cases hb
     by_cases hO:AA t (k+1)=48
     .rw[AH2 Om hx92 Om]at hb
      split at hb
      .rename_i hok
       cases hd:D3 x 8 3 (k+2+2) 0 with
       |none=>rw[hd]at hok;cases hok
       |some v=>
        rw[hd]at hok;have hok':v<=255:=by simpa[DZ] using hok
        have hg:=P2 3 _ _ _ hd;have hdig:∀i,i<3->48<=AA x (k+2+2+i)/\AA x (k+2+2+i)<=55/\F6 (AA x (k+2+2+i))=AA x (k+2+2+i)-48:=λi hi=>AKu (CJ _ _).1 (CJ _ _).2 (hg i hi).2.1 (hg i hi).2.2;have g0:=hg 0 Om;have g1:=hg 1 Om;have g2:=hg 2 Om;have hval:(AA x (k+2+2)-48)*64+(AA x (k+2+2+1)-48)*8+(AA x (k+2+2+2)-48)=v:=by have d0:F6 (AA x (k+2+2))=AA x (k+2+2)-48:=(hdig 0 Om).2.2;have d1:F6 (AA x (k+2+2+1))=AA x (k+2+2+1)-48:=(hdig 1 Om).2.2;have d2:F6 (AA x (k+2+2+1+1))=AA x (k+2+2+2)-48:=(hdig 2 Om).2.2;unfold D3 at hd;rw[if_pos g0]at hd;unfold D3 at hd;rw[if_pos g1]at hd;unfold D3 at hd;rw[if_pos g2]at hd;unfold D3 at hd;have hd':=Option.some.inj hd;rw[d0,d1,d2]at hd';omega
        refine WJ.hex 8 3 Om (by rw[h0];exact h92) (by rw[hr1];omega) (by rw[hr1,h1];exact .inr ⟨hO,rfl,rfl⟩) (by rw[hr1,hr2];omega) ?_ ?_
        .rw[hr1,hr2]
         have hy:∀i,i<3->AA ((rest t (k+2)).extract 0 3) i=AA x (k+2+2+i):=λi hi=>by have:=(hg i hi).1;rw[BU _ _ _ hi,QP,hsm _ Om,show k+2+i+2=k+2+2+i by omega]
         refine AK2 (D6 Om) (λi hi=>by rw[hy i hi];have:=hdig i hi;omega) ?_;rw[hy 0 Om,hy 1 Om,hy 2 Om];have:k+2+2+0=k+2+2:=rfl;rw[this];omega
        rw[hr1,hr2,BR];refine IH _ Om Om ?_ hb;rw[<-hu];exact(RL 3 (k+2+2) (λj hj=>by have:=hg j hj;have:=hdig j hj;omega)).symm
      cases hb
     rw[VP Om hx92 Om Om]at hb;refine WJ.esc Om (by rw[h0];exact h92) (by rw[hr1];omega) (by rw[hr1,h1];exact⟨hX,hO⟩) ?_;rw[hr1,hr2];exact IH _ Om Om hu hb
    have hx92:AA x (k+2)≠92:=by rw[<-hsm k Om];exact h92
    by_cases hqq:AA x (k+2)=q
    .rw[FO Om hx92 hqq]at hu
     simp at hu;omega
    rw[DU Om hx92 hqq]at hu;rw[UN Om hx92]at hb;refine WJ.plain Om (by rw[h0];exact h92) ?_;rw[BR];exact IH _ Om Om hu hb
  exact .nil (L7 Om)
theorem APh{x:ByteArray}(h:ADi x)(hb:ABl x=true):WJ (x.extract 2 (x.size-1)):=by have:=AA9 h.1 h.2.1 _ 0 Nl Om h.2.2 hb;unfold rest at this;rw[JK]at this;exact this
theorem DS{w0 w:World}{base:Nat}{ops:Array Oper}{rest:List Oper}{o:Oper}{a:Act}{Q:Exit->Act->World->Prop}(hgd:o.guard=none)(s x:Operand)(ho:o.op=.call { callee:=.builtin .append,args:=#[s,x],argTypes:=#[109,109] })
 (A:Option Addr) (n c:Nat) (d:Int) (hs:a.eval s=.slice A n c) (hx:a.eval x=.slice (some ⟨w0.heap.size,0,none⟩) 1 1) (hw:w=w0.alloc (.cells #[.int .u8 d] 5)) (hB:CG w0 base A n c) (hbase:base<=w0.heap.size) (hn:n<=1000000)
 (h:∀A' c' w',CG w' base A' (n+1) c'->Below base w0 w'->wpList Tryz.prog ops Q rest (a.put o.dst (.slice A' (n+1) c')) w'):wpList Tryz.prog ops Q (o::rest) a w:=by
 obtain⟨i0,hi,hz0,hz1,hz2⟩:=info_parts Tryz.info5
 obtain⟨xs,hrow⟩:=hB
 subst hw
 refine wpList_append_own _ hgd s x 109 ho base 5 i0 (.int .u8 0) 1 1 Tryz.underlying109 hi hz0 hz1 hz2 rfl De _ n _ hs (AD hrow (AK _ _)) ⟨w0.heap.size,0,none⟩ 1 1 [.int .u8 d] hx rfl ?_ ?_ ?_ ?_ ?_ ?_
 .exact World.news_of_block (cs:=#[.int .u8 d]) (t:=5) (fr:=(0,0)) (heap_alloc_new w0 _)
 .simp[Value.oneCell']
 .unfold maxLen;omega
 .omega
 .simp;omega
 intro v' w1 hown1 hgrow hnil
 obtain⟨A1,c1,rfl,_⟩:=AF hown1
 exact h A1 c1 w1 ⟨xs++[d],by simpa using hown1⟩ ((EM w0 _ base hbase).grown hgrow (by simp;omega) (AG hrow))
theorem ADj(W:World):(Instr.makeSlice 109 (.int .i64 0) (.int .i64 1)).run Tryz.prog W=.ok (.slice (some ⟨W.heap.size,0,none⟩) 0 1) (W.alloc (.cells #[.int .u8 0] 5)):=by obtain⟨i0,hi,hz0,hz1,hz2⟩:=info_parts Tryz.info5;have:=run_make (P:=Tryz.prog) W 109 5 i0 (.int .u8 0) Tryz.underlying109 hi hz0 .i64 .i64 0 1 De De (by rw[hz2];decide) De;have e:madeCells (Value.int IntKind.u8 0).cells (Int.toNat 1*1)=#[.int .u8 0]:=Kr;rw[hz1,e]at this;exact this
theorem R5{x:ByteArray}(hx:3<=x.size)(hs:x.size<=100000)(hg:WJ (x.extract 2 (x.size-1)))(W:World)(hE:FN W) :
 Calls Tryz.prog 78 #[.string x] W λe w'=>∃(A:Option Addr) (n c:Nat),e=.returned (.tuple #[.slice A n c,.nilIface])/\Below W.heap.size W w':=by
 have hmk:=ADj
 have hb0:Below W.heap.size W (W.alloc (.cells #[.int .u8 0] 5)):=Bl.alloc Nl _
 have HA0:Hid (CG (W.alloc (.cells #[.int .u8 0] 5)) W.heap.size (some ⟨W.heap.size,0,none⟩) 0 1):=⟨[],rfl,.inr ⟨_,1,#[.int .u8 0],rfl,Nl,heap_alloc_new _ _,Om,by unfold maxLen;omega,rfl,rfl⟩⟩
 have HB0:=Hd hb0
 have HE:=Hd (λ(w':World) (hb:Below W.heap.size W w')=>BH hE hb)
 have HG:=Hd hg
 have h1:(2:Int)<=(x.size:Int)-1:=Om
 have h2:(2:Int)<=(x.size:Int):=Om
 have h3:((x.size:Int)-1).toNat=x.size-1:=Om
 have HZ:=Hd (show (x.extract 2 (x.size-1)).size+3=x.size by have:=R6 x;omega)
 clear hb0 hE hg
 go_enter Tryz.func78,Tryz.ntmps78
 go_upto_block 0 with fail
 generalize W.alloc (.cells #[.int .u8 0] 5)=w0 at *
 generalize x.extract 2 (x.size-1)=t0 at *
 clear h1 h2 h3 hmk
 go_wp2_with fail
 go_loopg [0,4] t0.size (λg v0 v4 wr=>∃(t:ByteArray) (A:Option Addr) (n c:Nat),v0=.string t/\v4=.slice A n c/\t.size=g/\t.size<=t0.size/\Hid (n+t.size<=t0.size)/\Hid (WJ t)/\Hid (CG wr W.heap.size A n c)/\Hid (Below W.heap.size W wr))
 case atStart=>exact⟨t0,_,0,1,rfl,rfl,rfl,Nl,(by show _<=_;omega),HG,HA0,HB0⟩
 obtain⟨t,A,n,c,rfl,rfl,hgt,hle,HN,HS,HA,HB⟩:=hrel
 have HNN:=Hd (show n<=1000000 by have:=HN.out;have:=HZ.out;omega)
 by_cases h0:t.size=0
 .have e0:((t.size:Int)!=0)=false:=by rw[h0];rfl
  clear hgt;go_wp2_with (at_builtin;refine DS rfl _ _ rfl A n c _ rfl rfl rfl HA.out HB.out.size HNN.out ?_;intro A' c' w' hA' hb';have HBF:=Hd (HB.out.trans hb');clear hA' hb')
  first|(rw[Exit.noGoto_ret];go_ret2)|go_ret2
  exact⟨_,_,_,rfl,HBF.out⟩
 have e0:((t.size:Int)!=0)=true:=by rw[bne_iff_ne];omega
 have hne:¬t=ByteArray.empty:=by rintro rfl;simp at h0
 have HGT:=Hd hgt
 have hp:0<t.size:=Om
 have ei:=AJ hp
 obtain⟨t1,ht1⟩:∃t1,t.extract 1 t.size=t1:=⟨_,rfl⟩
 have hz1:t1.size=t.size-1:=by rw[<-ht1];exact DK t 1 Om
 have h1i:(1:Int)<=(t.size:Int):=Om
 have HR1:=Hd (show rest t 1=t1 from ht1)
 obtain⟨d,hd⟩:∃d,AA t 0=d:=⟨_,rfl⟩
 rw[hd]at ei
 have HD:=Hd hd
 clear hgt hd
 go_upto_if 18 with fail
 go_upto_region 6 with fail
 have HZ1:=Hd hz1
 clear ht1 ei h1i hne hz1
 by_cases h92:d=92
 .subst h92
  have hS:0<t1.size/\((AA t1 0≠120/\AA t1 0≠48/\WJ (rest t1 1))\/∃b m,(AA t1 0=120/\b=16/\m=2\/AA t1 0=48/\b=8/\m=3)/\m<=(rest t1 1).size/\AJf b ((rest t1 1).extract 0 m)/\WJ (rest (rest t1 1) m)):=by
   cases HS.out with
   |nil h=>omega
   |plain h hr hg=>exact absurd HD.out hr
   |esc h hr h1 hn hg=>rw[HR1.out]at h1 hn hg;exact⟨h1,.inl ⟨hn.1,hn.2,hg⟩⟩
   |hex b m h hr h1 hn hm hp hg=>rw[HR1.out]at h1 hn hm hp hg;exact⟨h1,.inr ⟨b,m,hn,hm,hp,hg⟩⟩
  obtain⟨hp1,hS⟩:=hS;have HS1:=Hd hS;have ei:=AJ hp1;have hne:¬t1=ByteArray.empty:=by rintro rfl;simp at hp1
  have h1i:(1:Int)<=(t1.size:Int):=Om;obtain⟨t2,ht2⟩:∃t2,t1.extract 1 t1.size=t2:=⟨_,rfl⟩;have hz2:t2.size=t1.size-1:=by rw[<-ht2];exact DK t1 1 Om
  have HR2:=Hd (show rest t1 1=t2 from ht2);obtain⟨d1,hd⟩:∃d,AA t1 0=d:=⟨_,rfl⟩;rw[hd]at ei;have HSO:=Hd (show (d1≠120/\d1≠48/\WJ t2)\/∃b m,(d1=120/\b=16/\m=2\/d1=48/\b=8/\m=3)/\m<=t2.size/\AJf b (t2.extract 0 m)/\WJ (rest t2 m) by have h:=HS1.out;rw[HR2.out,hd]at h;exact h)
  clear hS HS1 HS hd;go_upto_block 2 with fail;have hzt:t2.size+1<=t.size/\t2.size+2<=t0.size:=by have:=HZ1.out;omega
  clear ht2 ei h1i hne HR2 hz2;rcases HSO.out with⟨h120,h48,hg2⟩|⟨b,m,hm,hms,hpu,hg2⟩
  .have HS2:=Hd hg2
   clear hg2;by_cases e97:d1=97
   .subst e97
    go_wp2_with (at_builtin;refine DS rfl _ _ rfl A n c _ rfl rfl rfl HA.out HB.out.size HNN.out ?_;intro A' c' w' hA' hb';have HBF:=Hd (HB.out.trans hb');have HAF:=Hd hA';clear hA' hb');go_roundg t2.size
    case rel=>exact⟨t2,A',n+1,c',rfl,rfl,rfl,Om,(by have:=HN.out;show _<=_;omega),HS2,HAF,HBF⟩
    have:=HGT.out;omega
   have u97:(d1==97)=false:=Bn.2 e97;by_cases e98:d1=98
   .subst e98
    go_wp2_with (at_builtin;refine DS rfl _ _ rfl A n c _ rfl rfl rfl HA.out HB.out.size HNN.out ?_;intro A' c' w' hA' hb';have HBF:=Hd (HB.out.trans hb');have HAF:=Hd hA';clear hA' hb');go_roundg t2.size
    case rel=>exact⟨t2,A',n+1,c',rfl,rfl,rfl,Om,(by have:=HN.out;show _<=_;omega),HS2,HAF,HBF⟩
    have:=HGT.out;omega
   have u98:(d1==98)=false:=Bn.2 e98;by_cases e102:d1=102
   .subst e102
    go_wp2_with (at_builtin;refine DS rfl _ _ rfl A n c _ rfl rfl rfl HA.out HB.out.size HNN.out ?_;intro A' c' w' hA' hb';have HBF:=Hd (HB.out.trans hb');have HAF:=Hd hA';clear hA' hb');go_roundg t2.size
    case rel=>exact⟨t2,A',n+1,c',rfl,rfl,rfl,Om,(by have:=HN.out;show _<=_;omega),HS2,HAF,HBF⟩
    have:=HGT.out;omega
   have u102:(d1==102)=false:=Bn.2 e102;by_cases e110:d1=110
   .subst e110
    go_wp2_with (at_builtin;refine DS rfl _ _ rfl A n c _ rfl rfl rfl HA.out HB.out.size HNN.out ?_;intro A' c' w' hA' hb';have HBF:=Hd (HB.out.trans hb');have HAF:=Hd hA';clear hA' hb');go_roundg t2.size
    case rel=>exact⟨t2,A',n+1,c',rfl,rfl,rfl,Om,(by have:=HN.out;show _<=_;omega),HS2,HAF,HBF⟩
    have:=HGT.out;omega
   have u110:(d1==110)=false:=Bn.2 e110;by_cases e114:d1=114
   .subst e114
    go_wp2_with (at_builtin;refine DS rfl _ _ rfl A n c _ rfl rfl rfl HA.out HB.out.size HNN.out ?_;intro A' c' w' hA' hb';have HBF:=Hd (HB.out.trans hb');have HAF:=Hd hA';clear hA' hb');go_roundg t2.size
    case rel=>exact⟨t2,A',n+1,c',rfl,rfl,rfl,Om,(by have:=HN.out;show _<=_;omega),HS2,HAF,HBF⟩
    have:=HGT.out;omega
   have u114:(d1==114)=false:=Bn.2 e114;by_cases e116:d1=116
   .subst e116
    go_wp2_with (at_builtin;refine DS rfl _ _ rfl A n c _ rfl rfl rfl HA.out HB.out.size HNN.out ?_;intro A' c' w' hA' hb';have HBF:=Hd (HB.out.trans hb');have HAF:=Hd hA';clear hA' hb');go_roundg t2.size
    case rel=>exact⟨t2,A',n+1,c',rfl,rfl,rfl,Om,(by have:=HN.out;show _<=_;omega),HS2,HAF,HBF⟩
    have:=HGT.out;omega
   have u116:(d1==116)=false:=Bn.2 e116;have u120:(d1==120)=false:=Bn.2 h120;have u48:(d1==48)=false:=Bn.2 h48;go_wp2_with (at_builtin;refine DS rfl _ _ rfl A n c _ rfl rfl rfl HA.out HB.out.size HNN.out ?_;intro A' c' w' hA' hb';have HBF:=Hd (HB.out.trans hb');have HAF:=Hd hA';clear hA' hb');go_roundg t2.size
   case rel=>exact⟨t2,A',n+1,c',rfl,rfl,rfl,Om,(by have:=HN.out;show _<=_;omega),HS2,HAF,HBF⟩
   have:=HGT.out;omega
  have HS2:=Hd hg2;have HPU:=Hd hpu;clear hg2 hpu;rcases hm with⟨rfl,rfl,rfl⟩|⟨rfl,rfl,rfl⟩
  .have hlt:¬(t2.size:Int)<2:=Om
   have hle4:(2:Int)<=(t2.size:Int):=Om;have HE1:=Hd (HE.out _ HB.out);go_wp2_with (first|(go_at_call 65;refine(HPU.out _ HE1.out).mono ?_;rintro e w4 ⟨nv,rfl,hb4⟩;have HB4:=Hd (HB.out.trans (hb4.mono HB.out.size));have HA4:=Hd (HA.out.below hb4);clear hb4)|(at_builtin;refine DS rfl _ _ rfl A n c _ rfl rfl rfl HA4.out HB4.out.size HNN.out ?_;intro A' c' w' hA' hb';have HBF:=Hd (HB4.out.trans hb');have HAF:=Hd hA';clear hA' hb'));have hz3:(t2.extract 2 t2.size).size=t2.size-2:=DK t2 2 Om;have HS3:Hid (WJ (t2.extract 2 t2.size)):=HS2;clear HS2;generalize t2.extract 2 t2.size=t3 at *;go_roundg t3.size
   case rel=>exact⟨t3,A',n+1,c',rfl,rfl,rfl,Om,(by have:=HN.out;show _<=_;omega),HS3,HAF,HBF⟩
   have:=HGT.out;omega
  have hlt:¬(t2.size:Int)<3:=Om;have hle4:(3:Int)<=(t2.size:Int):=Om;have HE1:=Hd (HE.out _ HB.out);go_wp2_with (first|(go_at_call 65;refine(HPU.out _ HE1.out).mono ?_;rintro e w4 ⟨nv,rfl,hb4⟩;have HB4:=Hd (HB.out.trans (hb4.mono HB.out.size));have HA4:=Hd (HA.out.below hb4);clear hb4)|(at_builtin;refine DS rfl _ _ rfl A n c _ rfl rfl rfl HA4.out HB4.out.size HNN.out ?_;intro A' c' w' hA' hb';have HBF:=Hd (HB4.out.trans hb');have HAF:=Hd hA';clear hA' hb'));have hz3:(t2.extract 3 t2.size).size=t2.size-3:=DK t2 3 Om;have HS3:Hid (WJ (t2.extract 3 t2.size)):=HS2;clear HS2;generalize t2.extract 3 t2.size=t3 at *;go_roundg t3.size
  case rel=>exact⟨t3,A',n+1,c',rfl,rfl,rfl,Om,(by have:=HN.out;show _<=_;omega),HS3,HAF,HBF⟩
  have:=HGT.out;omega
 have hS:WJ t1:=by
  cases HS.out with
  |nil h=>omega
  |plain h hr hg=>rw[HR1.out]at hg;exact hg
  |esc h hr h1 hn hg=>exact absurd (HD.out.symm.trans hr) h92
  |hex b m h hr h1 hn hm hp hg=>exact absurd (HD.out.symm.trans hr) h92
 have HS1:=Hd hS
 have hn92:(d !=92)=true:=by rw[bne_iff_ne];exact h92
 clear hS
 go_wp2_with (at_builtin;refine DS rfl _ _ rfl A n c _ rfl rfl rfl HA.out HB.out.size HNN.out ?_;intro A' c' w' hA' hb';have HBF:=Hd (HB.out.trans hb');have HAF:=Hd hA';clear hA' hb')
 go_roundg t1.size
 case rel=>exact⟨t1,A',n+1,c',rfl,rfl,rfl,by have:=HZ1.out;omega,(by have:=HN.out;have:=HZ1.out;show _<=_;omega),HS1,HAF,HBF⟩
 have:=HGT.out;have:=HZ1.out;omega
theorem TE(s p:ByteArray)(hs:s.size<=100000)(hp:p.size<=100)(w:World):Calls Tryz.prog 122 #[.string s,.string p] w λe w'=>w=w'/\((p.size<=s.size/\s.extract 0 p.size=p/\e=.returned (.tuple #[.string (s.extract p.size s.size),.bool true]))\/(¬(p.size<=s.size/\s.extract 0 p.size=p)/\e=.returned (.tuple #[.string s,.bool false]))):=by
 go_enter Tryz.func122,Tryz.ntmps122;by_cases h1:p.size<=s.size
 .have h2:¬(s.size:Int)<(p.size:Int):=Om
  have h3:(p.size:Int)<=(s.size:Int):=Om;have h0:(0:Int)<=(p.size:Int):=Om;have HH:=Hd h1;clear h1;go_upto_if 18 with fail;rw[AE,show (⟨p.toList.toArray⟩:ByteArray)=p by rw[ByteArray.toList_eq]];by_cases he:s.extract 0 p.size=p
  .rw[decide_eq_true he]
   have HE:=Hd he;clear he;go_wp2_with fail;go_ret2;exact⟨rfl,.inl ⟨HH.out,HE.out,rfl⟩⟩
  rw[decide_eq_false he];have HE:=Hd he;clear he;go_wp2_with fail;go_ret2
  first|exact⟨rfl,.inr ⟨λh=>HE.out h.2,rfl⟩⟩|exact⟨rfl,.inr ⟨λh=>HE.out (h HH.out),rfl⟩⟩|exact⟨rfl,.inr ⟨λ_=>HE.out,rfl⟩⟩
 have h2:(s.size:Int)<(p.size:Int):=Om;have HH:=Hd h1;clear h1;go_wp2_with fail;go_ret2
 first|exact⟨rfl,.inr ⟨λh=>HH.out h.1,rfl⟩⟩|exact⟨rfl,.inr ⟨λh=>HH.out h,rfl⟩⟩
theorem AB9{x:ByteArray}(h:1<=x.size):(x.extract 0 1=⟨#[48]⟩)↔AA x 0=48:=by
 rw[J5 Om];have:=CJ x 0;constructor
 .intro e
  have e2:UInt8.ofNat (AA x 0).toNat=48:=by simpa using e
  have e3:=congrArg UInt8.toNat e2;simp at e3;omega
 intro e;rw[e];rfl
theorem AEs{x:ByteArray}(h:2<=x.size):(x.extract 0 2=⟨#[48,120]⟩)↔AA x 0=48/\AA x 1=120:=by
 have e2:x.extract 0 2=⟨#[UInt8.ofNat (AA x 0).toNat,UInt8.ofNat (AA x 1).toNat]⟩:=by
  have h1:=J5 (s:=x) (i:=0) Om;have h2:=J5 (s:=x) (i:=1) Om;have h3:x.extract 0 2=x.extract 0 1++x.extract 1 2:=by
   apply B8;simp only[ByteArray.data_append,Array.toList_append,B6];have:x.data.toList.take 2=x.data.toList.take 1++(x.data.toList.take 2).drop 1:=by rw[List.drop_take];have:=List.take_add (l:=x.data.toList) (i:=1) (j:=1);simpa using this
   simpa using this
  rw[h3,h1,h2];rfl
 rw[e2];have:=CJ x 0;have:=CJ x 1;constructor
 .intro e
  have e3:UInt8.ofNat (AA x 0).toNat=48/\UInt8.ofNat (AA x 1).toNat=120:=by simpa using e
  have e4:=congrArg UInt8.toNat e3.1;have e5:=congrArg UInt8.toNat e3.2;simp at e4 e5;omega
 intro e;rw[e.1,e.2];rfl
theorem SI{x:ByteArray}(h1:1<=x.size)(hs:x.size<=100000)(w:World):Calls Tryz.prog 122 #[.string x,.string ⟨#[48,120]⟩] w λe w'=>w=w'/\((AA x 0=48/\AA x 1=120/\e=.returned (.tuple #[.string (x.extract 2 x.size),.bool true]))\/(¬(AA x 0=48/\AA x 1=120)/\e=.returned (.tuple #[.string x,.bool false]))):=by
 refine(TE x ⟨#[48,120]⟩ hs De w).mono ?_;rintro e w' ⟨rfl,h⟩;refine⟨rfl,?_⟩;rcases h with⟨h2,h3,rfl⟩|⟨h2,rfl⟩
 .have:=(AEs h2).1 h3
  exact .inl ⟨this.1,this.2,rfl⟩
 refine .inr ⟨λh=>h2 ?_,rfl⟩;have h2s:2<=x.size:=by
  have:=h.2;have h3:¬x.size<=1:=λe=>by
   have:AA x 1=0:=by unfold AA;rw[List.getD_eq_getElem?_getD,List.getElem?_eq_none (by show x.size<=1;omega)];rfl
   omega
  omega
 exact⟨h2s,(AEs h2s).2 h⟩
theorem M7{x:ByteArray}(h1:1<=x.size)(hs:x.size<=100000)(w:World):Calls Tryz.prog 122 #[.string x,.string ⟨#[48]⟩] w λe w'=>w=w'/\((AA x 0=48/\e=.returned (.tuple #[.string (x.extract 1 x.size),.bool true]))\/(¬AA x 0=48/\e=.returned (.tuple #[.string x,.bool false]))):=by
 refine(TE x ⟨#[48]⟩ hs De w).mono ?_;rintro e w' ⟨rfl,h⟩;refine⟨rfl,?_⟩;rcases h with⟨h2,h3,rfl⟩|⟨h2,rfl⟩
 .exact .inl ⟨(AB9 h1).1 h3,rfl⟩
 exact .inr ⟨λh=>h2 ⟨h1,(AB9 h1).2 h⟩,rfl⟩
def AC4(x p y:ByteArray)(b:Bool):Prop:=∀W,Calls Tryz.prog 122 #[.string x,.string p] W λe w'=>e=.returned (.tuple #[.string y,.bool b])/\W=w'
theorem W6{x:ByteArray}(h:EO x)(hr:ADa x):∃y1 b1 y2 b2,AC4 x ⟨#[48,120]⟩ y1 b1/\AC4 y1 ⟨#[48]⟩ y2 b2/\y1.size<=100000/\
 ((b1=true/\(D9 x).2=y1/\(D9 x).1=16/\(b2=true/\y1.size=1\/b2=false))\/(b1=false/\y1=x/\(b2=true/\x.size=1/\(D9 x).2=x/\(D9 x).1=10\/b2=true/\x.size≠1/\(D9 x).2=y2/\(D9 x).1=8\/b2=false/\(D9 x).2=x/\(D9 x).1=10))):=by
 obtain⟨hs,h1⟩:=FG h
 by_cases h0:AA x 0=48
 .by_cases hx:AA x 1=120
  .have h3:3<=x.size:=by
    rcases h with h|⟨i0,i1,i2,neg,eneg,h⟩
    .exact h.three
    have:=h.sign;have e:i0=0:=Om;have:=(O5 h _ rfl).1;rw[e]at this;exact absurd hx this
   have hc:D9 x=(16,x.extract 2 x.size):=by unfold D9;rw[if_pos h0,if_pos ⟨h3,hx⟩]
   have hz:=AU x 2 Om;have c1:AC4 x ⟨#[48,120]⟩ (x.extract 2 x.size) true:=λW=>(SI h1 hs W).mono λe w' ⟨e1,e2⟩=>⟨by rcases e2 with⟨_,_,e2⟩|⟨e2,_⟩;exact e2;exact absurd ⟨h0,hx⟩ e2,e1⟩;by_cases h2:AA x 2=48
   .have:x.size=3:=(hr.1 h0 hx).resolve_right (λe=>e h2)
    refine⟨_,true,(x.extract 2 x.size).extract 1 (x.extract 2 x.size).size,true,c1,λW=>(M7 Om Om W).mono λe w' ⟨e1,e2⟩=>⟨?_,e1⟩,Om,.inl ⟨rfl,by rw[hc],by rw[hc],.inl ⟨rfl,Om⟩⟩⟩;rcases e2 with⟨_,e2⟩|⟨e2,_⟩
    .exact e2
    exact absurd (by rw[BC];exact h2) e2
   refine⟨_,true,x.extract 2 x.size,false,c1,λW=>(M7 Om Om W).mono λe w' ⟨e1,e2⟩=>⟨?_,e1⟩,Om,.inl ⟨rfl,by rw[hc],by rw[hc],.inr rfl⟩⟩;rcases e2 with⟨e2,_⟩|⟨_,e2⟩
   .rw[BC]at e2;exact absurd e2 h2
   exact e2
  have c1:AC4 x ⟨#[48,120]⟩ x false:=λW=>(SI h1 hs W).mono λe w' ⟨e1,e2⟩=>⟨by rcases e2 with⟨_,e2,_⟩|⟨_,e2⟩;exact absurd e2 hx;exact e2,e1⟩;have c2:AC4 x ⟨#[48]⟩ (x.extract 1 x.size) true:=λW=>(M7 h1 hs W).mono λe w' ⟨e1,e2⟩=>⟨by rcases e2 with⟨_,e2⟩|⟨e2,_⟩;exact e2;exact absurd h0 e2,e1⟩;refine⟨x,false,_,true,c1,c2,hs,.inr ⟨rfl,rfl,?_⟩⟩;unfold D9;rw[if_pos h0,if_neg (λe=>hx e.2)];by_cases hz:x.size=1
  .rw[if_pos hz];exact .inl ⟨rfl,hz,rfl,rfl⟩
  rw[if_neg hz];exact .inr (.inl ⟨rfl,hz,rfl,rfl⟩)
 have c1:AC4 x ⟨#[48,120]⟩ x false:=λW=>(SI h1 hs W).mono λe w' ⟨e1,e2⟩=>⟨by rcases e2 with⟨e2,_,_⟩|⟨_,e2⟩;exact absurd e2 h0;exact e2,e1⟩
 have c2:AC4 x ⟨#[48]⟩ x false:=λW=>(M7 h1 hs W).mono λe w' ⟨e1,e2⟩=>⟨by rcases e2 with⟨e2,_⟩|⟨_,e2⟩;exact absurd e2 h0;exact e2,e1⟩
 refine⟨x,false,x,false,c1,c2,hs,.inr ⟨rfl,rfl,.inr (.inr ⟨rfl,?_,?_⟩)⟩⟩
 .rw[O0 h0]
 rw[O0 h0]
inductive AMd:ByteArray->Nat->Prop
 |n:AMd ⟨#[110]⟩ 16
 |i:AMd ⟨#[105]⟩ 32
 |x:AMd ⟨#[120]⟩ 64
inductive AIe:ByteArray->Nat->Prop
 |y:AIe ⟨#[121]⟩ 8
 |q:AIe ⟨#[113]⟩ 16
 |u:AIe ⟨#[117]⟩ 32
 |t:AIe ⟨#[116]⟩ 64
def AOs(W:World)(e:Ending)(w':World):Prop:=∃T y,e=.returned (.tuple #[.iface T y,.nilIface])/\Below W.heap.size W w'
theorem RI{x sg:ByteArray}{k:Nat}(hx:EO x)(hr:ADa x)(hk:AMd sg k)(h0:K6 x k=0)(W:World)(hE:FN W):Calls Tryz.prog 99 #[.string x,.agg #[.string sg]] W (AOs W):=by
 have hk8:8<=k/\k<=64:=by cases hk<;>decide
 have HI:=Hd (λ(b kk:Int) (y:ByteArray) (hb:((D9 x).1:Int)=b) (hkk:(k:Int)=kk) (hy:(D9 x).2=y) W' (hbl:Below W.heap.size W W')=>(hb▸hkk▸hy▸AMb hx hr k hk8.1 hk8.2 h0 W' (BH hE hbl):Calls Tryz.prog 64 #[.string y,.int .i64 b,.int .i64 kk] W' λe w'=>∃n:Int,e=.returned (.tuple #[.int .i64 n,.nilIface])/\Below W'.heap.size W' w'));obtain⟨y1,b1,y2,b2,c1,c2,hy1,hsh⟩:=W6 hx hr;have hxs:=(FG hx).1;have HC1:=Hd c1;have HC2:=Hd c2;clear h0 hE hr hx c1 c2 hk8;have hb0:Below W.heap.size W (W.alloc (.cells #[.string sg] 115)):=Bl.alloc Nl _;have hc0:(W.alloc (.cells #[.string sg] 115)).heap[W.heap.size]?=some (.cells #[.string sg] 115 (0,0)):=heap_alloc_new _ _;have HS0:=Hd (show W.heap.size<(W.alloc (.cells #[.string sg] 115)).heap.size by simp)
 cases hk
 all_goals
  go_enter Tryz.func99,Tryz.ntmps99;go_upto_region 3 with fail;generalize W.alloc (.cells #[.string _] 115)=wb at *;have x0:=BE hc0;have HB:=Hd hb0;have HX0:=Hd hc0;clear hb0 hc0;go_upto_region 27 with fail;rcases hsh with⟨rfl,e1,e2,⟨rfl,hz⟩|rfl⟩|⟨rfl,rfl,⟨rfl,hz,e1,e2⟩|⟨rfl,hz,e1,e2⟩|⟨rfl,e1,e2⟩⟩
  .have HI2:=Hd (HI.out 16 _ y1 (by rw[e2];rfl) rfl e1 wb HB.out)
   have hz1:((y1.size:Int)!=1)=false:=by rw[hz];rfl
   clear HI e1 e2;go_wp2_with (first
    |(go_at_call 122;have hh:=HF.out;refine(HC2.out _).mono ?_;rintro e w1 ⟨rfl,rfl⟩)
    |(go_at_call 122;refine(HC1.out _).mono ?_;rintro e w1 ⟨rfl,rfl⟩;have HF:=Hd trivial)
    |(go_at_call 64;refine HI2.out.mono ?_;rintro e w3 ⟨n,rfl,hb3⟩;have x3:=BE ((hb3.block W.heap.size HS0.out).trans HX0.out);have HB3:=Hd (HB.out.trans (hb3.mono (by have:=HB.out.size;omega)));clear hb3))
   first|(rw[Exit.noGoto_ret];go_ret2)|go_ret2
   exact⟨_,_,rfl,HB3.out⟩
  .have HI2:=Hd (HI.out 16 _ y1 (by rw[e2];rfl) rfl e1 wb HB.out)
   clear HI e1 e2;go_wp2_with (first
    |(go_at_call 122;have hh:=HF.out;refine(HC2.out _).mono ?_;rintro e w1 ⟨rfl,rfl⟩)
    |(go_at_call 122;refine(HC1.out _).mono ?_;rintro e w1 ⟨rfl,rfl⟩;have HF:=Hd trivial)
    |(go_at_call 64;refine HI2.out.mono ?_;rintro e w3 ⟨n,rfl,hb3⟩;have x3:=BE ((hb3.block W.heap.size HS0.out).trans HX0.out);have HB3:=Hd (HB.out.trans (hb3.mono (by have:=HB.out.size;omega)));clear hb3))
   first|(rw[Exit.noGoto_ret];go_ret2)|go_ret2
   exact⟨_,_,rfl,HB3.out⟩
  .have HI2:=Hd (HI.out 10 _ y1 (by rw[e2];rfl) rfl e1 wb HB.out)
   have hz1:((y1.size:Int)!=1)=false:=by rw[hz];rfl
   clear HI e1 e2;go_wp2_with (first
    |(go_at_call 122;have hh:=HF.out;refine(HC2.out _).mono ?_;rintro e w1 ⟨rfl,rfl⟩)
    |(go_at_call 122;refine(HC1.out _).mono ?_;rintro e w1 ⟨rfl,rfl⟩;have HF:=Hd trivial)
    |(go_at_call 64;refine HI2.out.mono ?_;rintro e w3 ⟨n,rfl,hb3⟩;have x3:=BE ((hb3.block W.heap.size HS0.out).trans HX0.out);have HB3:=Hd (HB.out.trans (hb3.mono (by have:=HB.out.size;omega)));clear hb3))
   first|(rw[Exit.noGoto_ret];go_ret2)|go_ret2
   exact⟨_,_,rfl,HB3.out⟩
  .have HI2:=Hd (HI.out 8 _ y2 (by rw[e2];rfl) rfl e1 wb HB.out)
   have hz1:((y1.size:Int)!=1)=true:=by rw[bne_iff_ne];omega
   clear HI e1 e2;go_wp2_with (first
    |(go_at_call 122;have hh:=HF.out;refine(HC2.out _).mono ?_;rintro e w1 ⟨rfl,rfl⟩)
    |(go_at_call 122;refine(HC1.out _).mono ?_;rintro e w1 ⟨rfl,rfl⟩;have HF:=Hd trivial)
    |(go_at_call 64;refine HI2.out.mono ?_;rintro e w3 ⟨n,rfl,hb3⟩;have x3:=BE ((hb3.block W.heap.size HS0.out).trans HX0.out);have HB3:=Hd (HB.out.trans (hb3.mono (by have:=HB.out.size;omega)));clear hb3))
   first|(rw[Exit.noGoto_ret];go_ret2)|go_ret2
   exact⟨_,_,rfl,HB3.out⟩
  .have HI2:=Hd (HI.out 10 _ y1 (by rw[e2];rfl) rfl e1 wb HB.out)
   clear HI e1 e2;go_wp2_with (first
    |(go_at_call 122;have hh:=HF.out;refine(HC2.out _).mono ?_;rintro e w1 ⟨rfl,rfl⟩)
    |(go_at_call 122;refine(HC1.out _).mono ?_;rintro e w1 ⟨rfl,rfl⟩;have HF:=Hd trivial)
    |(go_at_call 64;refine HI2.out.mono ?_;rintro e w3 ⟨n,rfl,hb3⟩;have x3:=BE ((hb3.block W.heap.size HS0.out).trans HX0.out);have HB3:=Hd (HB.out.trans (hb3.mono (by have:=HB.out.size;omega)));clear hb3))
   first|(rw[Exit.noGoto_ret];go_ret2)|go_ret2
   exact⟨_,_,rfl,HB3.out⟩
theorem MR{x sg:ByteArray}{k:Nat}(hx:EO x)(hr:ADa x)(hk:AIe sg k)(h0:(CZ x k).2=0)(W:World)(hE:FN W):Calls Tryz.prog 99 #[.string x,.agg #[.string sg]] W (AOs W):=by
 have hk8:8<=k/\k<=64:=by cases hk<;>decide
 have HI:=Hd (λ(b kk:Int) (y:ByteArray) (hb:((D9 x).1:Int)=b) (hkk:(k:Int)=kk) (hy:(D9 x).2=y) W' (hbl:Below W.heap.size W W')=>(hb▸hkk▸hy▸AJ5 hx k hk8.1 hk8.2 h0 W' (BH hE hbl):Calls Tryz.prog 65 #[.string y,.int .i64 b,.int .i64 kk] W' λe w'=>∃n:Int,e=.returned (.tuple #[.int .u64 n,.nilIface])/\Below W'.heap.size W' w'));obtain⟨y1,b1,y2,b2,c1,c2,hy1,hsh⟩:=W6 hx hr;have hxs:=(FG hx).1;have HC1:=Hd c1;have HC2:=Hd c2;clear h0 hE hr hx c1 c2 hk8;have hb0:Below W.heap.size W (W.alloc (.cells #[.string sg] 115)):=Bl.alloc Nl _;have hc0:(W.alloc (.cells #[.string sg] 115)).heap[W.heap.size]?=some (.cells #[.string sg] 115 (0,0)):=heap_alloc_new _ _;have HS0:=Hd (show W.heap.size<(W.alloc (.cells #[.string sg] 115)).heap.size by simp)
 cases hk
 all_goals
  go_enter Tryz.func99,Tryz.ntmps99;go_upto_region 3 with fail;generalize W.alloc (.cells #[.string _] 115)=wb at *;have x0:=BE hc0;have HB:=Hd hb0;have HX0:=Hd hc0;clear hb0 hc0;go_upto_region 27 with fail;rcases hsh with⟨rfl,e1,e2,⟨rfl,hz⟩|rfl⟩|⟨rfl,rfl,⟨rfl,hz,e1,e2⟩|⟨rfl,hz,e1,e2⟩|⟨rfl,e1,e2⟩⟩
  .have HI2:=Hd (HI.out 16 _ y1 (by rw[e2];rfl) rfl e1 wb HB.out)
   have hz1:((y1.size:Int)!=1)=false:=by rw[hz];rfl
   clear HI e1 e2;go_wp2_with (first
    |(go_at_call 122;have hh:=HF.out;refine(HC2.out _).mono ?_;rintro e w1 ⟨rfl,rfl⟩)
    |(go_at_call 122;refine(HC1.out _).mono ?_;rintro e w1 ⟨rfl,rfl⟩;have HF:=Hd trivial)
    |(go_at_call 65;refine HI2.out.mono ?_;rintro e w3 ⟨n,rfl,hb3⟩;have x3:=BE ((hb3.block W.heap.size HS0.out).trans HX0.out);have HB3:=Hd (HB.out.trans (hb3.mono (by have:=HB.out.size;omega)));clear hb3))
   first|(rw[Exit.noGoto_ret];go_ret2)|go_ret2
   exact⟨_,_,rfl,HB3.out⟩
  .have HI2:=Hd (HI.out 16 _ y1 (by rw[e2];rfl) rfl e1 wb HB.out)
   clear HI e1 e2;go_wp2_with (first
    |(go_at_call 122;have hh:=HF.out;refine(HC2.out _).mono ?_;rintro e w1 ⟨rfl,rfl⟩)
    |(go_at_call 122;refine(HC1.out _).mono ?_;rintro e w1 ⟨rfl,rfl⟩;have HF:=Hd trivial)
    |(go_at_call 65;refine HI2.out.mono ?_;rintro e w3 ⟨n,rfl,hb3⟩;have x3:=BE ((hb3.block W.heap.size HS0.out).trans HX0.out);have HB3:=Hd (HB.out.trans (hb3.mono (by have:=HB.out.size;omega)));clear hb3))
   first|(rw[Exit.noGoto_ret];go_ret2)|go_ret2
   exact⟨_,_,rfl,HB3.out⟩
  .have HI2:=Hd (HI.out 10 _ y1 (by rw[e2];rfl) rfl e1 wb HB.out)
   have hz1:((y1.size:Int)!=1)=false:=by rw[hz];rfl
   clear HI e1 e2;go_wp2_with (first
    |(go_at_call 122;have hh:=HF.out;refine(HC2.out _).mono ?_;rintro e w1 ⟨rfl,rfl⟩)
    |(go_at_call 122;refine(HC1.out _).mono ?_;rintro e w1 ⟨rfl,rfl⟩;have HF:=Hd trivial)
    |(go_at_call 65;refine HI2.out.mono ?_;rintro e w3 ⟨n,rfl,hb3⟩;have x3:=BE ((hb3.block W.heap.size HS0.out).trans HX0.out);have HB3:=Hd (HB.out.trans (hb3.mono (by have:=HB.out.size;omega)));clear hb3))
   first|(rw[Exit.noGoto_ret];go_ret2)|go_ret2
   exact⟨_,_,rfl,HB3.out⟩
  .have HI2:=Hd (HI.out 8 _ y2 (by rw[e2];rfl) rfl e1 wb HB.out)
   have hz1:((y1.size:Int)!=1)=true:=by rw[bne_iff_ne];omega
   clear HI e1 e2;go_wp2_with (first
    |(go_at_call 122;have hh:=HF.out;refine(HC2.out _).mono ?_;rintro e w1 ⟨rfl,rfl⟩)
    |(go_at_call 122;refine(HC1.out _).mono ?_;rintro e w1 ⟨rfl,rfl⟩;have HF:=Hd trivial)
    |(go_at_call 65;refine HI2.out.mono ?_;rintro e w3 ⟨n,rfl,hb3⟩;have x3:=BE ((hb3.block W.heap.size HS0.out).trans HX0.out);have HB3:=Hd (HB.out.trans (hb3.mono (by have:=HB.out.size;omega)));clear hb3))
   first|(rw[Exit.noGoto_ret];go_ret2)|go_ret2
   exact⟨_,_,rfl,HB3.out⟩
  .have HI2:=Hd (HI.out 10 _ y1 (by rw[e2];rfl) rfl e1 wb HB.out)
   clear HI e1 e2;go_wp2_with (first
    |(go_at_call 122;have hh:=HF.out;refine(HC2.out _).mono ?_;rintro e w1 ⟨rfl,rfl⟩)
    |(go_at_call 122;refine(HC1.out _).mono ?_;rintro e w1 ⟨rfl,rfl⟩;have HF:=Hd trivial)
    |(go_at_call 65;refine HI2.out.mono ?_;rintro e w3 ⟨n,rfl,hb3⟩;have x3:=BE ((hb3.block W.heap.size HS0.out).trans HX0.out);have HB3:=Hd (HB.out.trans (hb3.mono (by have:=HB.out.size;omega)));clear hb3))
   first|(rw[Exit.noGoto_ret];go_ret2)|go_ret2
   exact⟨_,_,rfl,HB3.out⟩
theorem AMz{T F:Nat->Nat}{x:ByteArray}(h0:PF T F x true)(W:World){N:Nat}(hT:MX T F W N)(hE:FN W):Calls Tryz.prog 99 #[.string x,.agg #[.string ⟨#[100]⟩]] W (AOs W):=by
 have HI:=Hd (λW' (hb:Below W.heap.size W W')=>h0 W' N (D2 hT hb) (BH hE hb));clear h0 hE hT;have hb0:Below W.heap.size W (W.alloc (.cells #[.string ⟨#[100]⟩] 115)):=Bl.alloc Nl _;have hc0:(W.alloc (.cells #[.string ⟨#[100]⟩] 115)).heap[W.heap.size]?=some (.cells #[.string ⟨#[100]⟩] 115 (0,0)):=heap_alloc_new _ _;go_enter Tryz.func99,Tryz.ntmps99;go_upto_region 3 with fail;generalize W.alloc (.cells #[.string _] 115)=wb at *;have x0:=BE hc0;have HB:=Hd hb0;clear hb0 hc0;have HI2:=Hd (HI.out wb HB.out);go_wp2_with (go_at_call 62;refine HI2.out.mono ?_;rintro e w3 ⟨f,v,rfl,hn,hb3⟩;have hv:v=.nilIface:=(by simpa[CQ] using hn);subst hv;have HB3:=Hd (HB.out.trans (hb3.mono (by have:=HB.out.size;omega)));clear hb3)
 first|(rw[Exit.noGoto_ret];go_ret2)|go_ret2
 exact⟨_,_,rfl,HB3.out⟩
