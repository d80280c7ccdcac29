/- Lemmas for FnVtSigsEntry; no conditions. -/
import Derived.Test.YtbnbadcnfchdhaaGreatDoorP34
import Derived.Test.YtbnbadcnfchdhaaGreatDoorP41
import Derived.Sort.KeysCollected
set_option maxRecDepth 100000
set_option maxHeartbeats 16000000
set_option linter.all false
namespace Go.Proofs.YtbnbadcnfchdhaaGreatDoor
open Go.RowKit
theorem ALo{w:World}{base n c:Nat}{A:Option Addr}{All:List AW}(h:w.ownsRow base 118 2 (.slice A n c) n (FH All))(hn:n=All.length)(hs:n<=100000):MM (w.alloc (.cells #[.slice A n c,.int .i64 0] 84)) w.heap.size A n c All 0:=by
 refine⟨heap_alloc_new _ _,AD (BF h (Nat.zero_le _)) (Bl.alloc Nl _),hn,λe=>?_,Nat.zero_le _,hs⟩;rcases h.2 with⟨h1,_⟩|⟨g,cap,cur,h1,_,h3,_⟩
 .rw[h1]at e;cases e
 rw[h1]at e;simp only[Value.ownBlock,Option.some.injEq]at e;have:=(Array.getElem?_eq_some_iff.1 h3).1;omega
def UG(S:ByteArray->Prop)(last:Value)(W:World)(e:Ending)(w':World):Prop:=∃(A:Option Addr) (n c:Nat) (xs:List ByteArray),e=.returned (.tuple #[.slice A n c,last])/\xs.Nodup/\(∀t,t∈xs↔S t)/\n=xs.length/\w'.ownsRow W.heap.size 9 1 (.slice A n c) n (AQ (I1 xs))/\Below W.heap.size W w'
theorem UQ{G:World->Prop}{B:Nat}(hG:DC G B){s:ByteArray}{All:List AW}{i':Nat}{S:ByteArray->Prop}{W:World}(hU:Lib.Utf8Tabs 7 8 W)(h8:8<W.heap.size)(hs:s.size<=100000)(hr:BO s=some All)(hg:LI All)(hl:All.length<=100000)(hw:G W)(hB:B<=W.heap.size)
 (hm:∀(r:Nat) (A:Option Addr) (n c:Nat),B<=r->KP G B r A n c All 0 i' S) (hf:Few S 50000):Calls Tryz.prog 28 #[.string s] W (UG S .nilIface W):=by
 have HX:=Hd (ZE hU h8 hs hr hg)
 have HM:=Hd hm
 have HW:=Hd hw
 have HL:=Hd hl
 have HF:=Hd hf
 clear hU hr hg hm hw hl hf
 go_enter Tryz.func28,Tryz.ntmps28
 go_upto_if 15 with(first
  |(go_at_call 46;refine HX.out.mono ?_;rintro e w1 ⟨A,n,c,rfl,hn,hrow,hb⟩;have HN:=Hd hn;have HP:=Hd (ALo hrow hn (by rw[hn];exact HL.out));have HB1:=Hd hb;have HB2:=Hd (hb.alloc hb.size (.cells #[.slice A n c,.int .i64 0] 84));have HS1:=Hd hb.size;clear hn hrow hb)
  |(go_at_call 45;refine(FD hG (by have:=HS1.out;omega) HP.out (hG _ _ HW.out (HB2.out.mono hB)) (HM.out _ _ _ _ (by have:=HS1.out;omega))).mono ?_;rintro e w2 ⟨v,X,rfl,hnode,hX,hp2,hg2⟩;obtain⟨T,xv,f,rfl,hmt,hcf,hc⟩:=hnode;have HX2:=Hd hX;have HC:=Hd hc;have HB3:=Hd (HB2.out.grown hg2 (by have:=HS1.out;simp;omega) (λk hk=>by cases hk;exact HS1.out));clear hX hp2 hg2 hc))
 go_wp2_with fail
 refine(HC.out _ (BZ.refl _)).mono ?_
 rintro e w3 ⟨m,Y,rfl,hsY,hY,hb3⟩
 have HB4:=Hd (HB3.out.trans (hb3.mono HB3.out.size))
 have HY:=Hd (show ∀t,t∈Y↔S t from λt=>(hY t).trans (HX2.out t))
 have HYL:=Hd (HF.out.len hsY.nd HY.out)
 have HSY:=Hd hsY
 clear hsY hY hb3 hmt hcf HC HX2
 go_wp2_with (go_at_call 47;refine(WG HSY.out (by have:=HYL.out;omega)).mono ?_;rintro e w4 ⟨A4,n4,c4,xs,rfl,hnd,hxs,hn4,hrow4,hb4⟩;have HR4:=Hd (⟨hnd,hxs,hn4,hrow4,hb4⟩:xs.Nodup/\(∀t,t∈xs↔t∈Y)/\n4=xs.length/\w4.ownsRow w3.heap.size 9 1 (.slice A4 n4 c4) n4 (AQ (I1 xs))/\Below w3.heap.size w3 w4);clear hnd hxs hn4 hrow4 hb4)
 go_ret2
 obtain⟨hnd,hxs,hn4,hrow4,hb4⟩:=HR4.out
 exact⟨A4,n4,c4,xs,rfl,hnd,λt=>(hxs t).trans (HY.out t),hn4,BF hrow4 HB4.out.size,HB4.out.trans (hb4.mono HB4.out.size)⟩
theorem YO{s:ByteArray}{S:ByteArray->Prop}{W:World}(h:Calls Tryz.prog 28 #[.string s] W (UG S .nilIface W)):Calls Tryz.prog 6 #[.string s] W (UG S (.bool true) W):=by have H:=Hd h;clear h;go_enter Tryz.func6,Tryz.ntmps6;go_upto_region 2 with(go_at_call 28;refine H.out.mono ?_;rintro e w1 ⟨A,n,c,xs,rfl,hnd,hxs,hn,hrow,hb⟩;have HR:=Hd (⟨hnd,hxs,hn,hrow,hb⟩:xs.Nodup/\(∀t,t∈xs↔S t)/\n=xs.length/\w1.ownsRow W.heap.size 9 1 (.slice A n c) n (AQ (I1 xs))/\Below W.heap.size W w1);clear hnd hxs hn hrow hb);go_region;go_wp2_with fail;go_ret2;obtain⟨hnd,hxs,hn,hrow,hb⟩:=HR.out;exact⟨A,n,c,xs,rfl,hnd,hxs,hn,hrow,hb.drew⟩
theorem VG{w:World}{A B:Option Addr}{n c d:Nat}{xs:List ByteArray}(hn:n=xs.length)(hs:n<=1000000)(hx:w.ownsRow 0 9 1 (.slice A n c) n (AQ xs))(hy:w.ownsRow 0 9 1 (.slice B n d) n (AQ xs)) :
 Calls Tryz.prog 8 #[.slice A n c,.slice B n d] w λe w'=>e=.returned (.bool true)/\Below w.heap.size w w':=by
 have HX:=Hd hx
 have HY:=Hd hy
 have HN:=Hd hn
 clear hx hy hn
 go_enter Tryz.func8,Tryz.ntmps8
 go_wp2_with fail
 go_loopw [13] (λv13 wr=>∃i:Nat,v13=.int .i64 i/\i<=n/\Below w.heap.size w wr) (λv _=>n-(intOf v).toNat)
 case atStart=>exact⟨0,rfl,Om,Bl⟩
 obtain⟨i,rfl,hin,hbel⟩:=hrel
 by_cases hlt:(i:Int)<(n:Int)
 .have hii:i<n:=Om
  have hit:i<xs.length:=by have:=HN.out;omega
  have hrow2:=AD HX.out hbel;have hrowy:=AD HY.out hbel;obtain⟨A',c',he,hA⟩:=AF hrow2;simp only[Value.slice.injEq]at he;obtain⟨rfl,_,rfl⟩:=he;obtain⟨g,rfl,hg⟩:=hA Om;obtain⟨B',d',he2,hB⟩:=AF hrowy;simp only[Value.slice.injEq]at he2;obtain⟨rfl,_,rfl⟩:=he2;obtain⟨g2,rfl,hg2⟩:=hB Om;have c0:wr.cell? ⟨g,i,none⟩=some (.string xs[i]):=by rw[AV hrow2 g _ rfl _ Om];simp[AQ,hit]
  have c2:wr.cell? ⟨g2,i,none⟩=some (.string xs[i]):=by rw[AV hrowy g2 _ rfl _ Om];simp[AQ,hit]
  have HB:=Hd hbel;clear hrow2 hrowy hA hB hbel;generalize xs[i]=x at *;have hne:(x.toList !=x.toList)=false:=by simp
  go_upto_region 6 with fail;go_region_held3 (λW=>W.cell? ⟨g,i,none⟩=some (.string x)/\W.cell? ⟨g2,i,none⟩=some (.string x)) (exact⟨c0,c2⟩) ((fail));go_wp2_with fail;go_roundw
  case rel=>exact⟨i+1,by go_num,Om,(by first|exact HB.out|exact HB.out.drew|exact HB.out.drew.drew)⟩
  simp[intOf];omega
 have HB:=Hd hbel
 clear hbel
 go_wp2_with fail
 first|(rw[Exit.noGoto_ret];go_ret)|go_ret
 exact⟨rfl,(by first|exact HB.out|exact HB.out.drew)⟩
theorem ABi{w0 w:World}{base:Nat}{ops:Array Oper}{rest:List Oper}{o:Oper}{a:Act}{Q:Exit->Act->World->Prop}(hgd:o.guard=none)(s x:Operand)(ho:o.op=.call { callee:=.builtin .append,args:=#[s,x],argTypes:=#[29,29] })
 (A:Option Addr) (n c:Nat) (d:ByteArray) (hs:a.eval s=.slice A n c) (hx:a.eval x=.slice (some ⟨w0.heap.size,0,none⟩) 1 1) (hw:w=w0.alloc (.cells #[.string d] 9)) {xs:List ByteArray} (hB:w0.ownsRow base 9 1 (.slice A n c) n (AQ xs)) (hbase:base<=w0.heap.size) (hn:n<=1000000)
 (h:∀A' c' w',w'.ownsRow base 9 1 (.slice A' (n+1) c') (n+1) (AQ (xs++[d]))->Below base w0 w'->wpList Tryz.prog ops Q rest (a.put o.dst (.slice A' (n+1) c')) w'):wpList Tryz.prog ops Q (o::rest) a w:=by
 obtain⟨i0,hi,hz0,hz1,hz2⟩:=info_parts Tryz.info9
 subst hw
 refine wpList_append_own _ hgd s x 29 ho base 9 i0 (.string ⟨#[]⟩) 1 16 Tryz.underlying29 hi hz0 hz1 hz2 rfl De _ n _ hs (AD hB (AK _ _)) ⟨w0.heap.size,0,none⟩ 1 1 [.string d] hx rfl ?_ ?_ ?_ ?_ ?_ ?_
 .exact World.news_of_block (cs:=#[.string d]) (t:=9) (fr:=(0,0)) (heap_alloc_new w0 _)
 .simp[Value.oneCell']
 .unfold maxLen;omega
 .omega
 .simp;omega
 intro v' w1 hown1 hgrow hnil
 obtain⟨A1,c1,rfl,_⟩:=AF hown1
 exact h A1 c1 w1 (by simpa[AQ] using hown1) ((EM w0 _ base hbase).grown hgrow (by simp;omega) (AG hB))
theorem ANl{xs ys:List ByteArray}(h1:xs.Nodup)(h2:ys.Nodup)(h:∀t,t∈xs↔t∈ys):I1 xs=I1 ys:=by have hp:=(List.perm_ext_iff_of_nodup h1 h2).2 h;unfold I1;exact congrArg _ (mergeSort_of_perm (hp.map _))
theorem MS{xs:List ByteArray}{t:ByteArray}:t∈I1 xs↔t∈xs:=by
 unfold I1;rw[List.mem_map];constructor
 .rintro ⟨l,hl,rfl⟩
  have:=(List.mergeSort_perm _ _).subset hl;obtain⟨s,hs,rfl⟩:=List.mem_map.1 this
  cases s;simpa using hs
 intro ht;refine⟨t.data.toList,(List.mergeSort_perm _ _).symm.subset (List.mem_map.2 ⟨t,ht,rfl⟩),by cases t;simp⟩
theorem AA2{k v k' v':ByteArray}(hk:k.size=k'.size)(h:D5 k v=D5 k' v'):k=k'/\v=v':=by have h1:=congrArg (λb:ByteArray=>b.data.toList) h;unfold D5 at h1;simp only[ByteArray.data_append,Array.toList_append,List.append_assoc]at h1;have h2:=List.append_cancel_left h1;have hl:k.data.toList.length=k'.data.toList.length:=hk;obtain⟨h3,h4⟩:=List.append_inj h2 hl;have h5:=List.append_cancel_right h4;exact⟨B8 h3,B8 h5⟩
theorem ST{Y:List ByteArray}(hy:Y.Nodup):∀{X:List ByteArray},X.Nodup->(∀a∈X,∀b∈X,a.size=b.size)->(EF X Y).Nodup
 |[],_,_=>by simp[EF]
 |x::X,hx,hs=>by have e:EF (x::X) Y=Y.map (D5 x)++EF X Y:=rfl;obtain⟨h1,h2⟩:=List.nodup_cons.1 hx;rw[e,List.nodup_append];refine⟨List.pairwise_map.2 (hy.imp λ{a b} hab e=>hab (AA2 rfl e).2),ST hy h2 λa ha b hb=>hs a (by simp[ha]) b (by simp[hb]),?_⟩;intro a ha b hb hab;obtain⟨v,_,rfl⟩:=List.mem_map.1 ha;obtain⟨k,hk,v',_,rfl⟩:=KF.1 hb;have:=(AA2 (hs x Sm k (by simp[hk])) hab).1;rw[this]at h1;exact h1 hk
def SP(S:ByteArray->Prop)(e:ByteArray)(m L:Nat):Prop:=(∃l:List ByteArray,l.length<=m/\∀t,S t->t∈l)/\((∃s,S s)->S e)/\∀t,S t->t.size=e.size/\t.size<=L
theorem SP.few{S:ByteArray->Prop}{e:ByteArray}{m L k:Nat}(h:SP S e m L)(hm:m<=k)(hL:L<=900):Few S k:=by obtain⟨⟨l,h1,h2⟩,_,h3⟩:=h;exact⟨⟨l,Nat.le_trans h1 hm,h2⟩,λt ht=>Nat.le_trans (h3 t ht).2 hL⟩
theorem SP.up{S:ByteArray->Prop}{e:ByteArray}{m L m' L':Nat}(h:SP S e m L)(hm:m<=m')(hL:L<=L'):SP S e m' L':=by obtain⟨⟨l,h1,h2⟩,h4,h3⟩:=h;exact⟨⟨l,Nat.le_trans h1 hm,h2⟩,h4,λt ht=>⟨(h3 t ht).1,Nat.le_trans (h3 t ht).2 hL⟩⟩
theorem ZA{S:ByteArray->Prop}{e:ByteArray}{m L:Nat}(h:¬∃s,S s):SP S e m L:=⟨⟨[],Nat.zero_le _,λt ht=>absurd ⟨t,ht⟩ h⟩,λk=>absurd k h,λt ht=>absurd ⟨t,ht⟩ h⟩
theorem QC{l:List ByteArray}{e:ByteArray}{m L:Nat}(hl:l.length<=m)(he:e∈l)(hs:∀t∈l,t.size=e.size)(hL:e.size<=L):SP (λt=>t∈l) e m L:=⟨⟨l,hl,λ_ h=>h⟩,λ_=>he,λt ht=>⟨hs t ht,by rw[hs t ht];exact hL⟩⟩
theorem ADx{e:ByteArray}{m L:Nat}(hm:1<=m)(hL:e.size<=L):SP (λt=>t=e) e m L:=⟨⟨[e],hm,λt h=>by simp[h]⟩,λ_=>rfl,λt h=>by rw[h];exact⟨rfl,hL⟩⟩
theorem OK{sg e:ByteArray}{m L:Nat}(h:sg=⟨#[]⟩\/sg=e)(hm:1<=m)(hL:sg.size<=L):SP (DY sg) e m L:=by
 rcases h with rfl|rfl
 .exact ZA λ⟨s,h,_⟩=>h rfl
 by_cases h0:sg.size=0
 .exact ZA λ⟨s,h,_⟩=>h h0
 exact⟨⟨[sg],hm,λt h=>by simp[h.2]⟩,λ_=>⟨h0,rfl⟩,λt h=>by rw[h.2];exact⟨rfl,hL⟩⟩
theorem AOm{S:ByteArray->Prop}{e:ByteArray}{m L:Nat}(h:SP S e m L):SP (R4 S) (ET e) m (L+1):=by
 obtain⟨⟨l,h1,h2⟩,h3,h4⟩:=h;refine⟨⟨l.map ET,by simpa using h1,?_⟩,?_,?_⟩
 .rintro t ⟨s,hs,rfl⟩;exact List.mem_map.2 ⟨s,h2 s hs,rfl⟩
 .rintro ⟨t,s,hs,rfl⟩;exact⟨e,h3 ⟨s,hs⟩,rfl⟩
 rintro t ⟨s,hs,rfl⟩;have:=h4 s hs;rw[KD,KD];omega
theorem Q1(X Y:List ByteArray):(EF X Y).length=X.length*Y.length:=by
 induction X with
 |nil=>simp[EF]
 |cons x X ih=>have:EF (x::X) Y=Y.map (D5 x)++EF X Y:=rfl;rw[this,List.length_append,List.length_map,ih,List.length_cons,Nat.succ_mul,Nat.add_comm]
theorem X4{K V:ByteArray->Prop}{k v:ByteArray}{m1 m2 L1 L2:Nat}(h:SP K k m1 L1)(g:SP V v m2 L2):SP (P9 K V) (D5 k v) (m1*m2) (L1+L2+3):=by
 obtain⟨⟨l,h1,h2⟩,h3,h4⟩:=h;obtain⟨⟨l',g1,g2⟩,g3,g4⟩:=g;refine⟨⟨EF l l',by rw[Q1];exact Nat.mul_le_mul h1 g1,?_⟩,?_,?_⟩
 .rintro t ⟨a,b,ha,hb,rfl⟩;exact KF.2 ⟨a,h2 a ha,b,g2 b hb,rfl⟩
 .rintro ⟨t,a,b,ha,hb,rfl⟩;exact⟨k,v,h3 ⟨a,ha⟩,g3 ⟨b,hb⟩,rfl⟩
 rintro t ⟨a,b,ha,hb,rfl⟩;have:=h4 a ha;have:=g4 b hb;rw[I3,I3];omega
theorem YB{N acc:ByteArray->Prop}{e:ByteArray}{m L:Nat}(h:SP N e m L)(g:SP acc e m L):SP (GE N acc) e m L:=by
 obtain⟨⟨l,h1,h2⟩,h3,h4⟩:=h;obtain⟨⟨l',g1,g2⟩,g3,g4⟩:=g;refine⟨?_,?_,?_⟩
 .by_cases hN:∃s,N s
  .exact⟨l,h1,λt ht=>ht.elim (λk=>absurd hN k.1) λk=>h2 t k.2.1⟩
  exact⟨l',g1,λt ht=>ht.elim (λk=>g2 t k.2) λk=>absurd k.1 hN⟩
 .rintro ⟨t,⟨k1,k2⟩|⟨k1,k2,k3⟩⟩
  .exact .inl ⟨k1,g3 ⟨t,k2⟩⟩
  exact .inr ⟨k1,h3 k1,g3⟩
 rintro t (⟨k1,k2⟩|⟨k1,k2,k3⟩)
 .exact g4 t k2
 exact h4 t k2
theorem ABg{e:ByteArray}{m L:Nat}:∀(Ss:List (ByteArray->Prop)) (acc:ByteArray->Prop),SP acc (ET e) m (L+1)->(∀S∈Ss,SP S e m L)->SP (FP acc Ss) (ET e) m (L+1)
 |[],_,h,_=>h
 |S::Ss,acc,h,g=>ABg Ss _ (YB (AOm (g S Sm)) h) λS' h'=>g S' (by simp[h'])
theorem AB4{e:ByteArray}{m L:Nat}:∀(Ss:List ((ByteArray->Prop)×(ByteArray->Prop))) (acc:ByteArray->Prop),SP acc e m L->(∀S∈Ss,SP S.1 e m L)->SP (PI acc Ss) e m L
 |[],_,h,_=>h
 |S::Ss,acc,h,g=>AB4 Ss _ (YB (g S Sm) h) λS' h'=>g S' (by simp[h'])
theorem ABf{e:ByteArray}{m L:Nat}:∀(Ss:List ((ByteArray->Prop)×(ByteArray->Prop))) (acc:ByteArray->Prop),SP acc e m L->(∀S∈Ss,SP S.2 e m L)->SP (PN acc Ss) e m L
 |[],_,h,_=>h
 |S::Ss,acc,h,g=>ABf Ss _ (YB (g S Sm) h) λS' h'=>g S' (by simp[h'])
theorem YN{t:ByteArray}(h:5<=t.size):(t.extract 3 (t.size-1)).size<t.size:=by simp[ByteArray.size_extract];omega
theorem UM{t:ByteArray}(h:2<=t.size):(t.extract 1 t.size).size<t.size:=by rw[AU _ _ Om];omega
def F9(t:ByteArray):ByteArray:=
 if h:5<=t.size/\t.extract 0 2=NT then D5 (t.extract 2 3) (F9 (t.extract 3 (t.size-1)))
 else if h2:2<=t.size/\AA t 0=97/\AA t 1≠123 then ET (F9 (t.extract 1 t.size)) else t
 termination_by t.size
 decreasing_by
 .exact YN h.1
 .exact UM h2.1
theorem RH{t:ByteArray}(h:5<=t.size/\t.extract 0 2=NT):F9 t=D5 (t.extract 2 3) (F9 (t.extract 3 (t.size-1))):=by
 conv=>lhs;unfold F9
 rw[dif_pos h]
theorem R2{t:ByteArray}(h:2<=t.size):t.extract 0 2=NT↔AA t 0=97/\AA t 1=123:=by
 have e2:t.extract 0 2=t.extract 0 1++t.extract 1 2:=by have:=(ByteArray.extract_eq_extract_append_extract (a:=t) (i:=0) (k:=2) 1 Om Om);exact this
 rw[e2,J5 (s:=t) (i:=0) Om,J5 (s:=t) (i:=1) Om];have h0:=CJ t 0;have h1:=CJ t 1;constructor
 .intro e
  have e':=congrArg (λb:ByteArray=>b.data.toList) e;simp[NT]at e';obtain⟨a,b⟩:=e';have a':=congrArg UInt8.toNat a;have b':=congrArg UInt8.toNat b;simp at a' b';omega
 rintro ⟨a,b⟩;rw[a,b];rfl
theorem Q2{t:ByteArray}(h:2<=t.size/\AA t 0=97/\AA t 1≠123):F9 t=ET (F9 (t.extract 1 t.size)):=by
 conv=>lhs;unfold F9
 rw[dif_neg (λe=>h.2.2 ((R2 h.1).1 e.2).2),dif_pos h]
theorem LV{t:ByteArray}(h:t.size<=1):F9 t=t:=by unfold F9;rw[dif_neg Om,dif_neg Om]
theorem UO{t:ByteArray}(h:1<=t.size)(h0:AA t 0=97):ET (t.extract 1 t.size)=t:=by have e:t.extract 0 t.size=t.extract 0 1++t.extract 1 t.size:=ByteArray.extract_eq_extract_append_extract (a:=t) (i:=0) (k:=t.size) 1 Om h;rw[JK,J5 (s:=t) (i:=0) Om,h0]at e;exact e.symm
theorem XV{t:ByteArray}(h:5<=t.size)(h0:t.extract 0 2=NT)(hl:AA t (t.size-1)=125):D5 (t.extract 2 3) (t.extract 3 (t.size-1))=t:=by
 have e1:t.extract 0 t.size=t.extract 0 2++t.extract 2 t.size:=ByteArray.extract_eq_extract_append_extract (a:=t) (i:=0) (k:=t.size) 2 Om Om;have e2:t.extract 2 t.size=t.extract 2 3++t.extract 3 t.size:=ByteArray.extract_eq_extract_append_extract (a:=t) (i:=2) (k:=t.size) 3 Om Om;have e3:t.extract 3 t.size=t.extract 3 (t.size-1)++t.extract (t.size-1) t.size:=ByteArray.extract_eq_extract_append_extract (a:=t) (i:=3) (k:=t.size) (t.size-1) Om Om;have e4:t.extract (t.size-1) t.size=⟨#[125]⟩:=by have:=J5 (s:=t) (i:=t.size-1) Om;rw[hl,show t.size-1+1=t.size by omega]at this;exact this
 rw[e4]at e3;rw[JK,h0,e2,e3]at e1;unfold D5
 conv=>rhs;rw[e1]
 simp only[ByteArray.append_assoc];rfl
theorem VQ{s:ByteArray}(h:IP s)(h0:AA s 0=97)(h1:1<s.size/\AA s 1=123):AA s (s.size-1)=125/\(s.extract 2 3).size=1/\AA (s.extract 2 3) 0<128:=by
 obtain⟨hp,a,e,hc⟩:=h;have hz:¬(s.size=0\/a<0\/e<0):=λhz=>by rw[DA hz]at hc;omega
 rw[G6 hz h0 h1]at hc;split at hc
 .omega
 rename_i h3;split at hc
 .omega
 rename_i h4;have hb:BV (AA s 2)=true:=by
  cases hb:BV (AA s 2) with
  |true=>rfl
  |false=>exact absurd (.inr hb) h3
 have hlt:AA s 2<128:=by unfold BV at hb;simp at hb;omega
 have e2:=J5 (s:=s) (i:=2) Om;have hin:=CJ s 2;refine⟨?_,by rw[e2];rfl,?_⟩
 .have:AA s (BI (s.extract 3 s.size) (a-1) (e-1)+3)=125:=Classical.byContradiction λhne=>h4 (.inr (.inr hne))
  rw[show s.size-1=BI (s.extract 3 s.size) (a-1) (e-1)+3 by omega];exact this
 rw[e2];have:AA ⟨#[UInt8.ofNat (AA s 2).toNat]⟩ 0=AA s 2:=by unfold AA at *;simp
 rw[this];exact hlt
theorem XY:∀(N:Nat) (t:ByteArray),t.size<=N->(F9 t).size=t.size
 |0,t,h=>by rw[LV Om]
 |N+1,t,h=>by
  by_cases hd:5<=t.size/\t.extract 0 2=NT
  .rw[RH hd,I3,XY N _ (by have:=YN hd.1;omega)]
   simp[ByteArray.size_extract];omega
  by_cases ha:2<=t.size/\AA t 0=97/\AA t 1≠123
  .rw[Q2 ha,KD,XY N _ (by have:=UM ha.1;omega),AU _ _ Om];omega
  unfold F9;rw[dif_neg hd,dif_neg ha]
theorem IW:∀(N:Nat) (t:ByteArray),t.size<=N->IP t->F9 t=t
 |0,t,h,_=>LV Om
 |N+1,t,h,hs=>by
  by_cases hd:5<=t.size/\t.extract 0 2=NT
  .have hd2:=(R2 Om).1 hd.2
   rw[RH hd,IW N _ (by have:=YN hd.1;omega) (P4 hs hd2.1 ⟨Om,hd2.2⟩).2];exact XV hd.1 hd.2 (VQ hs hd2.1 ⟨Om,hd2.2⟩).1
  by_cases ha:2<=t.size/\AA t 0=97/\AA t 1≠123
  .rw[Q2 ha,IW N _ (by have:=UM ha.1;omega) (RF hs ha.2.1 (λe=>ha.2.2 e.2)).2]
   exact UO Om ha.2.1
  unfold F9;rw[dif_neg hd,dif_neg ha]
theorem Z0{t:ByteArray}(h:t.size=1):t=⟨#[UInt8.ofNat (AA t 0).toNat]⟩:=by have:=J5 (s:=t) (i:=0) Om;rw[show 0+1=t.size by omega,JK]at this;exact this
theorem RP{t:ByteArray}(h:t.size=1)(ha:BT (AA t 0) QJ=true):t∈TT:=by have:=Z0 h;obtain⟨b,hb,he⟩:=(E9 _ _).1 ha;rw[<-he]at this;rw[this];simp only[Int.toNat_natCast,UInt8.ofNat_toNat];have hb':b∈[121,110,113,105,117,120,116,100]:=hb;simp only[List.mem_cons,List.not_mem_nil,or_false]at hb';rcases hb' with rfl|rfl|rfl|rfl|rfl|rfl|rfl|rfl<;>simp[TT]
theorem AFw{t:ByteArray}(h:t.size=1)(ha:BT (AA t 0) RB=true):t∈AAb:=by have:=Z0 h;obtain⟨b,hb,he⟩:=(E9 _ _).1 ha;rw[<-he]at this;rw[this];simp only[Int.toNat_natCast,UInt8.ofNat_toNat];have hb':b∈[115,111,103]:=hb;simp only[List.mem_cons,List.not_mem_nil,or_false]at hb';rcases hb' with rfl|rfl|rfl<;>simp[AAb]
theorem R1:∀t∈TT,t.size=1:=De
theorem XI:∀t∈AAb,t.size=1:=De
