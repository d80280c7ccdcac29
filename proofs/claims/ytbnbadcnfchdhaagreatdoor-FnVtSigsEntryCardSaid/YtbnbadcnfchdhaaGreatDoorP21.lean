/- Lemmas for FnVtSigsEntry; no conditions. -/
import Derived.Test.YtbnbadcnfchdhaaGreatDoorP20
import Derived.Maps.AppendAt
import Derived.Deep.RegionLaw
set_option maxRecDepth 100000
set_option maxHeartbeats 16000000
set_option linter.all false
namespace Go.Proofs.YtbnbadcnfchdhaaGreatDoor
open Go.RowKit
def ANx(N:Nat):Prop:=∀(p:Ph),p.sz<=N->p.sz<=5000->p.dd<=2->p.good->∀(w:World) (k:Nat) (x:ByteArray) (A:Option Addr) (n c:Nat) (b:Bool) (t:ByteArray),PhAt w (λ_=>True) (NX k x A n c b t) p->
 Calls Tryz.prog 23 #[.agg #[.int .i64 k,.string x,.slice A n c,.bool b,.string t]] w (ID (λ_=>True) w)
theorem AHh(N:Nat)(ih:ANx N):ANx (N+1):=by
 intro p hp hp5 hpd hgood w k x A n c b t hat;have HAT:=Hd (λ(W:World) (hW:Below w.heap.size w W)=>hat.keep hW);have HPN:=Hd hp;have HP5:=Hd hp5;have HPD:=Hd hpd;have HGOOD:=Hd hgood
 cases hat with
 |mk k x A n c kids ty rows hn hrow hP hA hkid=>
 have hsz:K8 kids<=N:=by simp[Ph.sz]at hp;omega
 have hs5:K8 kids<=5000:=by simp[Ph.sz]at hp5;omega
 have hddk:H8 kids<=2:=by simp only[Ph.dd]at hpd;omega
 have hgk:FB kids:=by simp only[Ph.good]at hgood;exact hgood.2.2
 have hn63:n<=5000:=by have:=GP kids;omega
 have HTY:=Hd (show ∀u,ty=some u->u.size<=255/\IP u from λu hu=>by simp only[Ph.good]at hgood;exact hgood.2.1 u hu);have HN:=Hd hn;have HA:=Hd hA;have HRow:=Hd hrow;have HK:=Hd hkid;have HIH:=Hd ih;have HS:=Hd hsz;have HS5:=Hd hs5;have HDD:=Hd hddk;have HG:=Hd hgk;clear hp hp5 hpd hgood hP hn hrow hA hkid ih hsz hs5 hddk hgk;generalize hb:ty.isSome=b at *;generalize ht:ZV ty=t at *;have HBT:=Hd (show b=true->ty=some t by
  intro h;rw[h]at hb;cases ty with
  |none=>simp at hb
  |some y=>simp[ZV]at ht;rw[ht])
 have HBF:=Hd (show b=false->ty=none by
  intro h;rw[h]at hb;cases ty with
  |none=>rfl
  |some y=>simp at hb)
 clear hb ht;clear HAT HPN HP5 HPD HGOOD HTY HBT HBF;go_enter Tryz.func23,Tryz.ntmps23;go_upto_region 1 with fail;have hlt0:w.heap.size<(w.alloc (.cells #[.int .i64 k,.string x,.slice A n c,.bool b,.string t] 37)).heap.size:=by simp
 have hbx:Below w.heap.size w (w.alloc (.cells #[.int .i64 k,.string x,.slice A n c,.bool b,.string t] 37)):=Bl.alloc Nl _;obtain⟨q0,q1,q2,q3,q4⟩:=AL (heap_alloc_new w (.cells #[.int .i64 k,.string x,.slice A n c,.bool b,.string t] 37));generalize w.alloc (.cells #[.int .i64 k,.string x,.slice A n c,.bool b,.string t] 37)=wb at *;have hbxs:=hbx.size;have HBX:=Hd hbx;clear hbx;go_wp2_with fail;go_loopw [11] (λv8 wr=>∃m:Nat,m<=n/\v8=.int .i64 m/\Below wb.heap.size wb wr) (λi _=>n-(intOf i).toNat)
 case atStart=>exact⟨0,Nat.zero_le _,rfl,Bl⟩
 obtain⟨m,hm,rfl,hbel⟩:=hrel;have hbs:=hbel.size;have hbw0:Below w.heap.size w wr:=HBX.out.trans (hbel.mono hbxs);by_cases hlt:(m:Int)<(n:Int)
 .have hmn:m<kids.length:=by have:=HN.out;omega
  have hsz1:=CW kids m hmn;have hdd1:=DF kids m hmn;obtain⟨g,hg,hgl⟩:=HA.out Om;subst hg;have hrow1:=AD HRow.out hbw0;obtain⟨k1,x1,A1,n1,cc1,b1,t1,hat1,c0,c1,c2,c3,c4⟩:=PhAt.kid HN.out hrow1 (λi h=>(HK.out i h).keep hbw0) m hmn;have HAT1:=Hd (λ(W:World) (hW:Below wr.heap.size wr W)=>hat1.keep hW);have HC:=Hd (λ(W:World) (hW:Below wr.heap.size wr W)=>HIH.out kids[m] (by have:=HS.out;omega) (by have:=HS5.out;omega) (by have:=HDD.out;omega) (BD kids m hmn HG.out) W k1 x1 A1 n1 cc1 b1 t1 (hat1.keep hW));have HKP:=Hd (show kids[m].sz<=5000/\kids[m].dd<=2/\kids[m].good from⟨by have:=HS5.out;omega,by have:=HDD.out;omega,BD kids m hmn HG.out⟩);clear hrow1 hat1 hsz1 hdd1;have HDC:=Hd (λ(W:World) (hW:Below wr.heap.size wr W)=>OP _ kids[m] Nl HKP.out.1 HKP.out.2.1 HKP.out.2.2 W k1 x1 A1 n1 cc1 b1 t1 (HAT1.out W hW));have HL7:=Hd (show Lm kids[m].sz kids[m].dd<=70000 from SY HKP.out.1 HKP.out.2.1);generalize Lm kids[m].sz kids[m].dd=LM at *;go_upto_region 4 with fail;obtain⟨p0,p1,p2,p3,p4⟩:=AL (heap_alloc_new wr (.cells #[.int .i64 k1,.string x1,.slice A1 n1 cc1,.bool b1,.string t1] 37));have hlk:wr.heap.size<(wr.alloc (.cells #[.int .i64 k1,.string x1,.slice A1 n1 cc1,.bool b1,.string t1] 37)).heap.size:=by simp
  have hbk:Below wr.heap.size wr (wr.alloc (.cells #[.int .i64 k1,.string x1,.slice A1 n1 cc1,.bool b1,.string t1] 37)):=Bl.alloc Nl _;generalize wr.alloc (.cells #[.int .i64 k1,.string x1,.slice A1 n1 cc1,.bool b1,.string t1] 37)=wk at *;have hbks:=hbk.size;go_upto_if 17 with(go_at_call 23;refine(HC.out _ (by first|exact hbk|exact hbk.drew)).mono ?_;rintro e w2 ⟨rb,rfl,_,hb2⟩);have hwk2:Below wk.heap.size wk w2:=by first|exact hb2|exact(Bl.drew).trans hb2
  have hb3:Below wb.heap.size wb w2:=(hbel.trans (hbk.mono hbs)).trans (hwk2.mono Om);have hbs3:=hb3.size
  cases rb with
  |false=>go_wp2_with fail;go_ret;exact⟨_,rfl,trivial,HBX.out.trans (hb3.mono hbxs)⟩
  |true=>
   have r0:=(hb3.cell (p:=⟨w.heap.size,0,none⟩) hlt0).trans q0;by_cases h9:k=9
   .have u9:((k:Int)==9)=true:=by rw[beq_iff_eq];omega
    clear h9;replace p0:=(hwk2.cell (p:=⟨wr.heap.size,0,none⟩) hlk).trans p0;replace p1:=(hwk2.cell (p:=⟨wr.heap.size,1,none⟩) hlk).trans p1;replace p2:=(hwk2.cell (p:=⟨wr.heap.size,2,none⟩) hlk).trans p2;replace p3:=(hwk2.cell (p:=⟨wr.heap.size,3,none⟩) hlk).trans p3;replace p4:=(hwk2.cell (p:=⟨wr.heap.size,4,none⟩) hlk).trans p4;have hwr2:Below wr.heap.size wr w2:=hbk.trans (hwk2.mono Om);go_upto_region 8 with(go_at_call 25;refine(HDC.out _ (by first|exact hwr2|exact hwr2.drew)).mono ?_;rintro e w3 ⟨z,ok,said,rfl,hz,hb4⟩;have HZ:=Hd hz;clear hz);have hz7:z.size<=100000:=by have:=HZ.out;have:=HL7.out;omega
    have hb5:Below wb.heap.size wb w3:=hb3.trans (hb4.mono (by first|omega|(simp;omega)));have hbs5:=hb5.size;have HB5:=Hd hb5;have HTS:=Hd (λW=>LN z hz7 W);clear hb4 hb5
    cases said with
    |false=>go_wp2_with fail;go_ret;exact⟨_,rfl,trivial,HBX.out.trans (HB5.out.mono hbxs)⟩
    |true=>
     cases ok with
     |false=>
      go_wp2_with fail;go_roundw
      case rel=>exact⟨m+1,Om,by go_num,HB5.out⟩
      simp[intOf];omega
     |true=>
      go_upto_if 36 with(go_at_call 12;refine(HTS.out _).mono ?_;rintro e w4 ⟨rb,rfl,_,hb6⟩);have hb7:Below wb.heap.size wb w4:=HB5.out.trans (((by first|exact hb6|exact(Bl.drew).trans hb6:Below w3.heap.size w3 w4)).mono Om)
      cases rb with
      |false=>go_wp2_with fail;go_ret;exact⟨_,rfl,trivial,HBX.out.trans (hb7.mono hbxs)⟩
      |true=>
       go_wp2_with fail;go_roundw
       case rel=>exact⟨m+1,Om,by go_num,hb7⟩
       simp[intOf];omega
   have u9:((k:Int)==9)=false:=Bq;clear h9;go_wp2_with fail;go_roundw
   case rel=>exact⟨m+1,Om,by go_num,hb3⟩
   simp[intOf];omega
 go_wp2_with fail;go_ret;exact⟨_,rfl,trivial,hbw0⟩
theorem AEu:∀N,ANx N
 |0=>λp hp=>by have:=p.sz_pos;omega
 |N+1=>AHh N (AEu N)
def I5(w:World)(B:Nat)(A:Option Addr)(n c:Nat):Prop:=
 ∃xs,w.ownsRow B 26 4 (.slice A n c) n xs/\∀i,i<n->∃(g cc:Nat) (K N:Int) (S:ByteArray) (ka:Option Addr) (kn kc:Nat) (x4 x5 x6 x7:Value),xs[i*4+3]?=some (.slice (some ⟨g,0,none⟩) 2 cc)/\(Value.slice A n c).ownBlock≠some g/\B<=g/\
  w.heap[g]?=some (.cells #[.int .u8 K,.int .u64 N,.string S,.slice ka kn kc,x4,x5,x6,x7] 26 (0,0))
theorem JB{w:World}{base:Nat}{e:TypeId}{size g n c:Nat}{xs:List Value}(h:w.ownsRow base e size (.slice (some ⟨g,0,none⟩) n c) n xs)(j:Nat)(v:Value) :
 (w.setCell ⟨g,j,none⟩ v).ownsRow base e size (.slice (some ⟨g,0,none⟩) n c) n (xs.set j v):=by
 obtain⟨h1,h2⟩:=h
 rcases h2 with⟨h2,_⟩|⟨g',cap,cur,h2,hg,hh,hn,hm,hsz,htk⟩
 .simp at h2
 simp only[Value.slice.injEq,Option.some.injEq,Addr.mk.injEq]at h2
 obtain⟨⟨rfl,_⟩,_,rfl⟩:=h2
 refine⟨by simpa using h1,.inr ⟨g,c,cur.setIfInBounds j v,rfl,hg,AH hh j v,hn,hm,by simpa using hsz,?_⟩⟩
 rw[Array.toList_setIfInBounds,List.take_set,htk]
theorem KL{w w':World}{B:Nat}{A:Option Addr}{n c:Nat}(h:I5 w B A n c)(hb:Below w.heap.size w w'):I5 w' B A n c:=by obtain⟨xs,h1,h2⟩:=h;refine⟨xs,AD h1 hb,λi hi=>?_⟩;obtain⟨g,cc,K,N,S,ka,kn,kc,x4,x5,x6,x7,e1,e2,e3,e4⟩:=h2 i hi;exact⟨g,cc,K,N,S,ka,kn,kc,x4,x5,x6,x7,e1,e2,e3,(hb.block g (Array.getElem?_eq_some_iff.1 e4).1).trans e4⟩
theorem AJz(w:World)(B:Nat):I5 w B none 0 0:=⟨[],⟨rfl,.inl ⟨rfl,rfl⟩⟩,λi hi=>Om⟩
theorem AIo{w:World}{B L n c:Nat}(h:I5 w B (some ⟨L,0,none⟩) n c)(i:Nat)(hi:i<n)(v0 v1 v2:Value){g cc:Nat}{K N:Int}{S:ByteArray}{ka:Option Addr}{kn kc:Nat}{x4 x5 x6 x7:Value}(hgL:g≠L)(hB:B<=g)
 (hg:w.heap[g]?=some (.cells #[.int .u8 K,.int .u64 N,.string S,.slice ka kn kc,x4,x5,x6,x7] 26 (0,0))) :
 I5 ((((w.setCell ⟨L,i*4,none⟩ v0).setCell ⟨L,i*4+1,none⟩ v1).setCell ⟨L,i*4+2,none⟩ v2).setCell ⟨L,i*4+3,none⟩ (.slice (some ⟨g,0,none⟩) 2 cc)) B (some ⟨L,0,none⟩) n c:=by
 obtain⟨xs,h1,h2⟩:=h
 have hlen:=h1.1
 refine⟨_,JB (JB (JB (JB h1 _ _) _ _) _ _) _ _,λj hj=>?_⟩
 have hkeep:∀b,b≠L->((((w.setCell ⟨L,i*4,none⟩ v0).setCell ⟨L,i*4+1,none⟩ v1).setCell ⟨L,i*4+2,none⟩ v2).setCell ⟨L,i*4+3,none⟩ (.slice (some ⟨g,0,none⟩) 2 cc)).heap[b]?=w.heap[b]?:=λb hb=>by rw[heap_set _ _ _ hb,heap_set _ _ _ hb,heap_set _ _ _ hb,heap_set _ _ _ hb]
 by_cases e:j=i
 .subst e
  refine⟨g,cc,K,N,S,ka,kn,kc,x4,x5,x6,x7,?_,by simp[Value.ownBlock];omega,hB,(hkeep g hgL).trans hg⟩;rw[List.getElem?_set_self];simp only[List.length_set];omega
 obtain⟨g',cc',K',N',S',ka',kn',kc',x4',x5',x6',x7',e1,e2,e3,e4⟩:=h2 j hj
 have hne:g'≠L:=λh=>e2 (by rw[h];rfl)
 refine⟨g',cc',K',N',S',ka',kn',kc',x4',x5',x6',x7',?_,e2,e3,(hkeep g' hne).trans e4⟩
 rw[List.getElem?_set_ne Om,List.getElem?_set_ne Om,List.getElem?_set_ne Om,List.getElem?_set_ne Om]
 exact e1
theorem AFd{w w1:World}{B:Nat}{A A':Option Addr}{n c c':Nat}{xs:List Value}(h1:w.ownsRow B 26 4 (.slice A n c) n xs)
 (h2:∀i,i<n->∃(g cc:Nat) (K N:Int) (S:ByteArray) (ka:Option Addr) (kn kc:Nat) (x4 x5 x6 x7:Value),xs[i*4+3]?=some (.slice (some ⟨g,0,none⟩) 2 cc)/\(Value.slice A n c).ownBlock≠some g/\B<=g/\w.heap[g]?=some (.cells #[.int .u8 K,.int .u64 N,.string S,.slice ka kn kc,x4,x5,x6,x7] 26 (0,0)))
 (v0 v1 v2:Value) {g cc:Nat} {K N:Int} {S:ByteArray} {ka:Option Addr} {kn kc:Nat} {x4 x5 x6 x7:Value} (hgA:(Value.slice A n c).ownBlock≠some g) (hB:B<=g)
 (hg:w.heap[g]?=some (.cells #[.int .u8 K,.int .u64 N,.string S,.slice ka kn kc,x4,x5,x6,x7] 26 (0,0)))
 (hr:w1.ownsRow B 26 4 (.slice A' (n+1) c') (n+1) (xs++[v0,v1,v2,.slice (some ⟨g,0,none⟩) 2 cc])) (hgr:w.grownBy w1 (Value.slice A n c).ownBlock) (hblk:(Value.slice A' (n+1) c').ownBlock=(Value.slice A n c).ownBlock\/(Value.slice A' (n+1) c').ownBlock=some w.heap.size) :
 I5 w1 B A' (n+1) c':=by
 have hlen:=h1.1
 have hkeep:∀b,b<w.heap.size->(Value.slice A n c).ownBlock≠some b->w1.heap[b]?=w.heap[b]?/\(Value.slice A' (n+1) c').ownBlock≠some b:=λb hb hne=>⟨hgr.block b hb λe=>hne e.symm,by
  rcases hblk with h|h
  .rw[h];exact hne
  rw[h];simp;omega⟩
 refine⟨_,hr,λi hi=>?_⟩
 by_cases e:i=n
 .subst e
  have hk:=hkeep g (Array.getElem?_eq_some_iff.1 hg).1 hgA;refine⟨g,cc,K,N,S,ka,kn,kc,x4,x5,x6,x7,?_,hk.2,hB,hk.1.trans hg⟩;rw[List.getElem?_append_right Om,show i*4+3-xs.length=3 by omega];rfl
 obtain⟨g',cc',K',N',S',ka',kn',kc',x4',x5',x6',x7',e1,e2,e3,e4⟩:=h2 i Om
 have hk:=hkeep g' (Array.getElem?_eq_some_iff.1 e4).1 e2
 refine⟨g',cc',K',N',S',ka',kn',kc',x4',x5',x6',x7',?_,hk.2,e3,hk.1.trans e4⟩
 rw[List.getElem?_append_left Om]
 exact e1
theorem MD{B:Nat}{w W:World}(hb:Below B w W){b:Nat}(h:B<=b)(o:Nat)(v0 v1 v2 v3:Value):Below B w ((((W.setCell ⟨b,o,none⟩ v0).setCell ⟨b,o+1,none⟩ v1).setCell ⟨b,o+2,none⟩ v2).setCell ⟨b,o+3,none⟩ v3):=
 (((hb.setCell (p:=⟨b,o,none⟩) h _).setCell (p:=⟨b,o+1,none⟩) h _).setCell (p:=⟨b,o+2,none⟩) h _).setCell (p:=⟨b,o+3,none⟩) h _
def AQu(B m:Nat)(w:World)(en:Ending)(w':World):Prop:=∃(A:Option Addr) (n c:Nat),en=.returned (.slice A n c)/\n<=m+1/\I5 w' B A n c/\Below B w w'
theorem Tryz.info26:(Tryz.prog.info? 26).map (λi=>(i.zero,i.size,i.bytes))=some (some (.agg #[.int .u8 0,.int .u64 0,.string ⟨#[]⟩,.slice none 0 0]),4,56):=Kr
theorem WQ{w:World}{B:Nat}{A:Option Addr}{n c:Nat}(hn:n<=100000)(hB:B<=w.heap.size)(hl:I5 w B A n c)(K0 N0:Int)(S0:ByteArray)(a0:Option Addr)(m0 d0:Nat)(K1 N1:Int)(S1:ByteArray)(a1:Option Addr)(m1 d1:Nat) :
 Calls Tryz.prog 44 #[.slice A n c,.agg #[.int .u8 K0,.int .u64 N0,.string S0,.slice a0 m0 d0],.agg #[.int .u8 K1,.int .u64 N1,.string S1,.slice a1 m1 d1]] w (AQu B n w):=by
 obtain⟨i0,hi,hz0,hz1,hz2⟩:=info_parts Tryz.info26
 have HL:=Hd hl
 clear hl
 go_enter Tryz.func44,Tryz.ntmps44
 go_upto_region 2 with fail
 have hb0:Below w.heap.size w ((((w.alloc (.cells #[.int .u8 K0,.int .u64 N0,.string S0,.slice a0 m0 d0] 26)).alloc (.cells #[.int .u8 K1,.int .u64 N1,.string S1,.slice a1 m1 d1] 26)).alloc (.cells #[.int .u8 K0,.int .u64 N0,.string S0,.slice a0 m0 d0,.int .u8 K1,.int .u64 N1,.string S1,.slice a1 m1 d1] 26)).alloc (.cells #[.int .u8 123,.int .u64 0,.string ⟨#[]⟩,.slice (some ⟨w.heap.size+2,0,none⟩) 2 2] 26)):=(((Bl.alloc Nl _).alloc Sm _).alloc (by simp;omega) _).alloc (by simp;omega) _
 have h0:((((w.alloc (.cells #[.int .u8 K0,.int .u64 N0,.string S0,.slice a0 m0 d0] 26)).alloc (.cells #[.int .u8 K1,.int .u64 N1,.string S1,.slice a1 m1 d1] 26)).alloc (.cells #[.int .u8 K0,.int .u64 N0,.string S0,.slice a0 m0 d0,.int .u8 K1,.int .u64 N1,.string S1,.slice a1 m1 d1] 26)).alloc (.cells #[.int .u8 123,.int .u64 0,.string ⟨#[]⟩,.slice (some ⟨w.heap.size+2,0,none⟩) 2 2] 26)).heap[w.heap.size]?=some (.cells #[.int .u8 K0,.int .u64 N0,.string S0,.slice a0 m0 d0] 26 (0,0)):=(DM _ _ (by simp;omega)).trans ((DM _ _ (by simp;omega)).trans ((DM _ _ Sm).trans (heap_alloc_new w _)))
 have h2:((((w.alloc (.cells #[.int .u8 K0,.int .u64 N0,.string S0,.slice a0 m0 d0] 26)).alloc (.cells #[.int .u8 K1,.int .u64 N1,.string S1,.slice a1 m1 d1] 26)).alloc (.cells #[.int .u8 K0,.int .u64 N0,.string S0,.slice a0 m0 d0,.int .u8 K1,.int .u64 N1,.string S1,.slice a1 m1 d1] 26)).alloc (.cells #[.int .u8 123,.int .u64 0,.string ⟨#[]⟩,.slice (some ⟨w.heap.size+2,0,none⟩) 2 2] 26)).heap[w.heap.size+2]?=some (.cells #[.int .u8 K0,.int .u64 N0,.string S0,.slice a0 m0 d0,.int .u8 K1,.int .u64 N1,.string S1,.slice a1 m1 d1] 26 (0,0)):=(DM _ _ Sm).trans (by have:=heap_alloc_new ((w.alloc (.cells #[.int .u8 K0,.int .u64 N0,.string S0,.slice a0 m0 d0] 26)).alloc (.cells #[.int .u8 K1,.int .u64 N1,.string S1,.slice a1 m1 d1] 26)) (.cells #[.int .u8 K0,.int .u64 N0,.string S0,.slice a0 m0 d0,.int .u8 K1,.int .u64 N1,.string S1,.slice a1 m1 d1] 26);simpa using this)
 have h3:((((w.alloc (.cells #[.int .u8 K0,.int .u64 N0,.string S0,.slice a0 m0 d0] 26)).alloc (.cells #[.int .u8 K1,.int .u64 N1,.string S1,.slice a1 m1 d1] 26)).alloc (.cells #[.int .u8 K0,.int .u64 N0,.string S0,.slice a0 m0 d0,.int .u8 K1,.int .u64 N1,.string S1,.slice a1 m1 d1] 26)).alloc (.cells #[.int .u8 123,.int .u64 0,.string ⟨#[]⟩,.slice (some ⟨w.heap.size+2,0,none⟩) 2 2] 26)).heap[w.heap.size+3]?=some (.cells #[.int .u8 123,.int .u64 0,.string ⟨#[]⟩,.slice (some ⟨w.heap.size+2,0,none⟩) 2 2] 26 (0,0)):=by have:=heap_alloc_new (((w.alloc (.cells #[.int .u8 K0,.int .u64 N0,.string S0,.slice a0 m0 d0] 26)).alloc (.cells #[.int .u8 K1,.int .u64 N1,.string S1,.slice a1 m1 d1] 26)).alloc (.cells #[.int .u8 K0,.int .u64 N0,.string S0,.slice a0 m0 d0,.int .u8 K1,.int .u64 N1,.string S1,.slice a1 m1 d1] 26)) (.cells #[.int .u8 123,.int .u64 0,.string ⟨#[]⟩,.slice (some ⟨w.heap.size+2,0,none⟩) 2 2] 26);simpa using this
 have hsz:((((w.alloc (.cells #[.int .u8 K0,.int .u64 N0,.string S0,.slice a0 m0 d0] 26)).alloc (.cells #[.int .u8 K1,.int .u64 N1,.string S1,.slice a1 m1 d1] 26)).alloc (.cells #[.int .u8 K0,.int .u64 N0,.string S0,.slice a0 m0 d0,.int .u8 K1,.int .u64 N1,.string S1,.slice a1 m1 d1] 26)).alloc (.cells #[.int .u8 123,.int .u64 0,.string ⟨#[]⟩,.slice (some ⟨w.heap.size+2,0,none⟩) 2 2] 26)).heap.size=w.heap.size+4:=by simp
 generalize (((w.alloc (.cells #[.int .u8 K0,.int .u64 N0,.string S0,.slice a0 m0 d0] 26)).alloc (.cells #[.int .u8 K1,.int .u64 N1,.string S1,.slice a1 m1 d1] 26)).alloc (.cells #[.int .u8 K0,.int .u64 N0,.string S0,.slice a0 m0 d0,.int .u8 K1,.int .u64 N1,.string S1,.slice a1 m1 d1] 26)).alloc (.cells #[.int .u8 123,.int .u64 0,.string ⟨#[]⟩,.slice (some ⟨w.heap.size+2,0,none⟩) 2 2] 26)=wb at *
 have HB0:=Hd hb0
 have H0:=Hd h0
 have H2:=Hd h2
 have H3:=Hd h3
 clear hb0 h0 h2 h3
 go_wp2_with fail
 go_loopw [8] (λv8 wr=>∃i:Nat,i<=n/\v8=.int .i64 i/\Below wb.heap.size wb wr) (λi _=>n-(intOf i).toNat)
 case atStart=>exact⟨0,Nat.zero_le _,rfl,Bl⟩
 obtain⟨i,hin,rfl,hbel⟩:=hrel
 have hbs:=hbel.size
 have hbw:Below w.heap.size w wr:=HB0.out.trans (hbel.mono Om)
 have hlr:=KL HL.out hbw
 have r0:=(hbel.block w.heap.size Om).trans H0.out
 have r2:=(hbel.block (w.heap.size+2) Om).trans H2.out
 have r3:=(hbel.block (w.heap.size+3) Om).trans H3.out
 have hLw:∀L,(Value.slice A n c).ownBlock=some L->L<w.heap.size:=by obtain⟨xs,hx,_⟩:=HL.out;exact GV hx
 have HLW:=Hd hLw
 clear hLw
 by_cases hlt:(i:Int)<(n:Int)
 .obtain⟨xs,hx,he⟩:=hlr
  obtain⟨g,cc,K,N,S,ka,kn,kc,x4,x5,x6,x7,e1,e2,e3,e4⟩:=he i Om;obtain⟨A',c',hv,hA⟩:=AF hx;simp only[Value.slice.injEq]at hv;obtain⟨rfl,_,rfl⟩:=hv;obtain⟨Lb,rfl,hLb⟩:=hA Om;have hlen:=hx.1;have c3:wr.cell? ⟨Lb,i*4+3,none⟩=some (.slice (some ⟨g,0,none⟩) 2 cc):=by rw[AV hx Lb _ rfl _ Om];exact e1
  have k0:wr.cell? ⟨g,0,none⟩=some (.int .u8 K):=by simp[World.cell?,e4]
  have k1:wr.cell? ⟨g,1,none⟩=some (.int .u64 N):=by simp[World.cell?,e4]
  have k2:wr.cell? ⟨g,2,none⟩=some (.string S):=by simp[World.cell?,e4]
  have k3:wr.cell? ⟨g,3,none⟩=some (.slice ka kn kc):=by simp[World.cell?,e4]
  have HE1:=Hd e1;have HE2:=Hd e2;have HX:=Hd hx;have HEE:=Hd he;obtain⟨q0,q1,q2,q3⟩:=A5 r0;clear e1 e2 e3 e4 hx he hA;go_upto_region 6 with fail;have hbk:Below wr.heap.size wr (wr.alloc (.cells #[.int .u8 K,.int .u64 N,.string S,.slice ka kn kc] 26)):=Bl.alloc Nl _;obtain⟨t0,t1,t2,t3⟩:=A5 (heap_alloc_new wr (.cells #[.int .u8 K,.int .u64 N,.string S,.slice ka kn kc] 26));have hks:(wr.alloc (.cells #[.int .u8 K,.int .u64 N,.string S,.slice ka kn kc] 26)).heap.size=wr.heap.size+1:=by simp
  generalize wr.alloc (.cells #[.int .u8 K,.int .u64 N,.string S,.slice ka kn kc] 26)=wk at *;clear c3 k0 k1 k2 k3;have s0:=(hbk.block w.heap.size Om).trans r0;have s3:=(hbk.block (w.heap.size+3) Om).trans r3;have s2:=(hbk.block (w.heap.size+2) Om).trans r2;obtain⟨p0,p1,p2,p3⟩:=A5 s0;obtain⟨o0,o1,o2,o3⟩:=A5 s3;have HS2:=Hd s2;have hEk:I5 wk B (some ⟨Lb,0,none⟩) n c:=KL ⟨xs,HX.out,HEE.out⟩ hbk;have hbwk:Below w.heap.size w wk:=hbw.trans (hbk.mono Om);have hkb:Below wb.heap.size wb wk:=hbel.trans (hbk.mono hbs);have HKB:=Hd hkb;have HBK:=Hd hbwk;have hxk:=AD HX.out hbk;have hLlt:=HLW.out Lb rfl;have hBL:B<=Lb:=AG HX.out Lb rfl;have hx0:i*4<xs.length:=Om;have hx1:i*4+1<xs.length:=Om;have hx2:i*4+2<xs.length:=Om;have hx3:i*4+3<xs.length:=Om;have l0:wk.cell? ⟨Lb,i*4,none⟩=some xs[i*4]:=by rw[AV hxk Lb _ rfl _ Om];simp[hx0]
  have l1:wk.cell? ⟨Lb,i*4+1,none⟩=some xs[i*4+1]:=by rw[AV hxk Lb _ rfl _ Om];simp[hx1]
  have l2:wk.cell? ⟨Lb,i*4+2,none⟩=some xs[i*4+2]:=by rw[AV hxk Lb _ rfl _ Om];simp[hx2]
  have l3:wk.cell? ⟨Lb,i*4+3,none⟩=some xs[i*4+3]:=by rw[AV hxk Lb _ rfl _ Om];simp[hx3]
  have hfr:∀o,wk.frozen? ⟨Lb,o,none⟩=false:=by
   intro o;rcases hxk.2 with⟨h,_⟩|⟨g',cap,cur,h,_,hh,_⟩
   .simp at h
   simp only[Value.slice.injEq,Option.some.injEq,Addr.mk.injEq]at h;obtain⟨⟨rfl,_⟩,_,rfl⟩:=h;exact AB hh o
  have f0:=hfr (i*4);have f1:=hfr (i*4+1);have f2:=hfr (i*4+2);have f3:=hfr (i*4+3);generalize xs[i*4]=y0 at *;generalize xs[i*4+1]=y1 at *;generalize xs[i*4+2]=y2 at *;generalize xs[i*4+3]=y3 at *;clear hfr hxk s0 s2 s3 q0 q1 q2 q3 hbk hbwk hkb;have HEK:=Hd hEk;clear hEk
  cases hN:(N==N0) with
  |false=>
   go_wp2_with fail;go_roundw
   case rel=>exact⟨i+1,Om,by go_num,HKB.out⟩
   simp[intOf];omega
  |true=>
   cases hS:(S.toList==S0.toList) with
   |false=>
    go_wp2_with fail;go_roundw
    case rel=>exact⟨i+1,Om,by go_num,HKB.out⟩
    simp[intOf];omega
   |true=>go_wp2_with fail;go_ret;exact⟨_,n,c,rfl,Om,AIo HEK.out i Om _ _ _ Om Om HS2.out,MD (HBK.out.mono hB) hBL (i*4) _ _ _ _⟩
 obtain⟨o0,o1,o2,o3⟩:=A5 r3
 obtain⟨xs,hx,he⟩:=hlr
 have HX:=Hd hx
 have HEE:=Hd he
 have HR2:=Hd r2
 have HBW:=Hd hbw
 clear hx he r0 r2 r3 hbw
 have hcell:(wr.alloc (.cells #[.int .u8 123,.int .u64 0,.string ⟨#[]⟩,.slice (some ⟨w.heap.size+2,0,none⟩) 2 2] 26)).heap[wr.heap.size]?=some (.cells #[.int .u8 123,.int .u64 0,.string ⟨#[]⟩,.slice (some ⟨w.heap.size+2,0,none⟩) 2 2] 26 (0,0)):=heap_alloc_new wr _
 have HCE:=Hd hcell
 clear hcell
 go_wp2_with (at_builtin;refine wpList_append_lies _ rfl _ _ 24 rfl B 26 i0 (.agg #[.int .u8 0,.int .u64 0,.string ⟨#[]⟩,.slice none 0 0]) 4 56 Tryz.underlying24 hi hz0 hz1 hz2 rfl De _ _ _ rfl (AD HX.out (Bl.alloc Nl _)) ⟨wr.heap.size,0,none⟩ 1 1 [.int .u8 123,.int .u64 0,.string ⟨#[]⟩,.slice (some ⟨w.heap.size+2,0,none⟩) 2 2] rfl rfl ?c1 ?c2 ?c3 ?c4 ?c5 ?c6 (wr.heap.size+1) ?c7 ?_)
 try (case c1=>exact World.news_of_block (cs:=#[.int .u8 123,.int .u64 0,.string ⟨#[]⟩,.slice (some ⟨w.heap.size+2,0,none⟩) 2 2]) (t:=26) (fr:=(0,0)) HCE.out)
 try (case c2=>simp[Value.oneCell'])
 try (case c3=>decide)
 try (case c4=>unfold maxLen;omega)
 try (case c5=>omega)
 try (case c6=>first|omega|(simp<;>omega))
 try (case c7=>simp)
 intro gg cap w3 hown3 hg3 hat hlt3
 have hE3:I5 w3 B (some ⟨gg,0,none⟩) (n+1) cap:=by
  refine AFd (w:=wr.alloc (.cells #[.int .u8 123,.int .u64 0,.string ⟨#[]⟩,.slice (some ⟨w.heap.size+2,0,none⟩) 2 2] 26)) (AD HX.out (Bl.alloc Nl _)) (λj hj=>?_) _ _ _ ?_ Om ((DM _ _ Om).trans HR2.out) hown3 hg3 ?_
  .obtain⟨g,cc,K,N,S,ka,kn,kc,x4,x5,x6,x7,e1,e2,e3,e4⟩:=HEE.out j hj
   exact⟨g,cc,K,N,S,ka,kn,kc,x4,x5,x6,x7,e1,e2,e3,(DM _ _ (Array.getElem?_eq_some_iff.1 e4).1).trans e4⟩
  .intro h;have:=HLW.out _ h;omega
  rcases hat with h|h
  .exact .inl h.symm
  exact .inr (by rw[h];simp[Value.ownBlock])
 have hB3:Below B w w3:=((HBW.out.mono hB).alloc Om _).grown hg3 (by simp;omega) (AG HX.out)
 have HE3:=Hd hE3
 have HB3:=Hd hB3
 clear hE3 hB3 hg3 hown3 hat
 go_wp2_with fail
 go_ret
 exact⟨_,n+1,cap,rfl,Om,HE3.out,HB3.out⟩
def QT(k:Nat)(x:ByteArray):Prop:=(k=2->EO x)/\(k=14->1<=x.size)
mutual
def NU(T F:Nat->Nat):Ph->ByteArray->Prop
 |.mk k x kids _,sig=>(k=2->RX T F x (AA sig 0))/\(k=3->Y0 x=true)/\(k=14->ABl x=true)/\
  (k=9->AL1 T F kids)/\(k=5->GH T F kids (sig.extract 1 sig.size))/\(k=7->K4 T F kids (sig.extract 2 3) (sig.extract 3 (sig.size-1)))
def AL1(T F:Nat->Nat):List Ph->Prop
 |[]=>True
 |p::_=>∃inner,CO p inner/\NU T F p inner
def GH(T F:Nat->Nat):List Ph->ByteArray->Prop
 |[],_=>True
 |p::l,sig=>NU T F p sig/\GH T F l sig
def K4(T F:Nat->Nat):List Ph->ByteArray->ByteArray->Prop
 |[],_,_=>True
 |p::l,a,b=>NU T F p a/\K4 T F l b a
end
theorem AH0{Q:Nat->ByteArray->Prop}{p:Ph}{sig:ByteArray}(hl:p.lv Q)(h:CO p sig):1<=sig.size:=by
 cases p with
 |mk k x l ty=>
  simp only[Ph.lv]at hl;simp only[CO]at h;obtain⟨_,h2,h3,h4,h14,h9,h5,h7⟩:=h;have h1:(sig=dW\/sig=bW\/sig=vW\/sig=ayW)->1<=sig.size:=by rintro (rfl|rfl|rfl|rfl)<;>decide
  rcases hl.1 with⟨hk,_⟩|⟨hk,_⟩|hk|⟨hk,_⟩
  .rcases hk with hk|hk|hk|hk
   .have:=h2 hk
    split at this
    .exact h1 (.inl this)
    omega
   .have:=h3 hk;omega
   .exact h1 (.inr (.inl (h4 hk)))
   exact h1 (.inr (.inr (.inr (h14 hk))))
  .exact h1 (.inr (.inr (.inl (h9 hk))))
  .have:=h5 hk;omega
  have:=h7 hk;omega
theorem Z1{l:List Ph}{sig:ByteArray}(h:FI l sig)(i:Nat)(hi:i<l.length):CO l[i] sig:=by
 induction l generalizing i with
 |nil=>simp at hi
 |cons p l ih=>
  simp only[FI]at h
  cases i with
  |zero=>exact h.1
  |succ i=>exact ih h.2 i (by simpa using hi)
theorem PQ:∀(l:List Ph) (a b:ByteArray),D1 l a b->∀(i:Nat) (hi:i<l.length),CO l[i] (if i%2=0 then a else b)
 |[],_,_,_,i,hi=>by simp at hi
 |p::l,a,b,h,0,_=>by simp only[D1]at h;exact h.1
 |p::l,a,b,h,i+1,hi=>by
  simp only[D1]at h;have:=PQ l b a h.2 i (by simpa using hi);simp only[List.getElem_cons_succ];by_cases e:i%2=0
  .rw[if_pos e]at this;rw[if_neg Om];exact this
  rw[if_neg e]at this;rw[if_pos Om];exact this
theorem TA(T F:Nat->Nat)(l:List Ph)(sig:ByteArray)(i:Nat)(h:i<l.length)(h1:NU T F l[i] sig)(h2:GH T F (l.drop (i+1)) sig):GH T F (l.drop i) sig:=by rw[List.drop_eq_getElem_cons h];exact⟨h1,h2⟩
theorem WF(T F:Nat->Nat)(l:List Ph)(a b:ByteArray)(i:Nat)(h:i<l.length)(h1:NU T F l[i] a)(h2:K4 T F (l.drop (i+1)) b a):K4 T F (l.drop i) a b:=by rw[List.drop_eq_getElem_cons h];exact⟨h1,h2⟩
structure VW(w wr:World)(ph:Array Value)(c0 N:Int)(S:ByteArray)(A:Option Addr)(q cc:Nat):Prop where
 below:Below w.heap.size w wr
 size:w.heap.size+3<=wr.heap.size
 b2:wr.heap[w.heap.size]?=some (.cells ph 37 (0,0))
 b4:wr.heap[w.heap.size+1]?=some (.cells #[.int .u8 0,.int .u64 0,.string ⟨#[]⟩,.slice none 0 0] 26 (0,0))
 b6:wr.heap[w.heap.size+2]?=some (.cells #[.int .u8 c0,.int .u64 N,.string S,.slice A q cc] 26 (0,0))
theorem PU(w:World)(ph:Array Value)(c0:Int):VW w (((w.alloc (.cells ph 37)).alloc (.cells #[.int .u8 0,.int .u64 0,.string ⟨#[]⟩,.slice none 0 0] 26)).alloc (.cells #[.int .u8 c0,.int .u64 0,.string ⟨#[]⟩,.slice none 0 0] 26)) ph c0 0 ⟨#[]⟩ none 0 0:=by
 refine⟨((Bl.alloc Nl _).alloc Sm _).alloc (by simp;omega) _,by simp,(DM _ _ (by simp;omega)).trans ((DM _ _ Sm).trans (heap_alloc_new w _)),(DM _ _ Sm).trans ?_,?_⟩
 .have:=heap_alloc_new (w.alloc (.cells ph 37)) (.cells #[.int .u8 0,.int .u64 0,.string ⟨#[]⟩,.slice none 0 0] 26)
  simpa using this
 have:=heap_alloc_new ((w.alloc (.cells ph 37)).alloc (.cells #[.int .u8 0,.int .u64 0,.string ⟨#[]⟩,.slice none 0 0] 26)) (.cells #[.int .u8 c0,.int .u64 0,.string ⟨#[]⟩,.slice none 0 0] 26);simpa using this
theorem VW.step{w wr w2:World}{ph:Array Value}{c0 N:Int}{S:ByteArray}{A:Option Addr}{q cc:Nat}(h:VW w wr ph c0 N S A q cc)(hb:Below (w.heap.size+3) wr w2):VW w w2 ph c0 N S A q cc:=
 ⟨h.below.trans (hb.mono Om),by have:=hb.size;have:=h.size;omega,(hb.block _ Om).trans h.b2,(hb.block _ Om).trans h.b4,(hb.block _ Om).trans h.b6⟩
theorem VW.call{w wr w2:World}{ph:Array Value}{c0 N:Int}{S:ByteArray}{A:Option Addr}{q cc:Nat}(h:VW w wr ph c0 N S A q cc)(hb:Below wr.heap.size wr w2):VW w w2 ph c0 N S A q cc:=h.step (hb.mono h.size)
theorem VW.setS{w wr:World}{ph:Array Value}{c0 N:Int}{S:ByteArray}{A:Option Addr}{q cc:Nat}(h:VW w wr ph c0 N S A q cc)(S':ByteArray):VW w (wr.setCell ⟨w.heap.size+2,2,none⟩ (.string S')) ph c0 N S' A q cc:=
 ⟨h.below.setCell (p:=⟨w.heap.size+2,2,none⟩) (by show _<=w.heap.size+2;omega) _,by simp only[World.setCell,Array.size_modify];exact h.size,(heap_set _ _ _ (by show _≠w.heap.size+2;omega)).trans h.b2,(heap_set _ _ _ (by show _≠w.heap.size+2;omega)).trans h.b4,AH h.b6 2 _⟩
theorem VW.setN{w wr:World}{ph:Array Value}{c0 N:Int}{S:ByteArray}{A:Option Addr}{q cc:Nat}(h:VW w wr ph c0 N S A q cc)(N':Int):VW w (wr.setCell ⟨w.heap.size+2,1,none⟩ (.int .u64 N')) ph c0 N' S A q cc:=
 ⟨h.below.setCell (p:=⟨w.heap.size+2,1,none⟩) (by show _<=w.heap.size+2;omega) _,by simp only[World.setCell,Array.size_modify];exact h.size,(heap_set _ _ _ (by show _≠w.heap.size+2;omega)).trans h.b2,(heap_set _ _ _ (by show _≠w.heap.size+2;omega)).trans h.b4,AH h.b6 1 _⟩
theorem VW.setK{w wr:World}{ph:Array Value}{c0 N:Int}{S:ByteArray}{A:Option Addr}{q cc:Nat}(h:VW w wr ph c0 N S A q cc)(A':Option Addr)(q' cc':Nat):VW w (wr.setCell ⟨w.heap.size+2,3,none⟩ (.slice A' q' cc')) ph c0 N S A' q' cc':=
 ⟨h.below.setCell (p:=⟨w.heap.size+2,3,none⟩) (by show _<=w.heap.size+2;omega) _,by simp only[World.setCell,Array.size_modify];exact h.size,(heap_set _ _ _ (by show _≠w.heap.size+2;omega)).trans h.b2,(heap_set _ _ _ (by show _≠w.heap.size+2;omega)).trans h.b4,AH h.b6 3 _⟩
theorem VW.cells{w wr:World}{k:Nat}{x:ByteArray}{Ap:Option Addr}{n c:Nat}{b:Bool}{t:ByteArray}{c0 N:Int}{S:ByteArray}{A:Option Addr}{q cc:Nat}(h:VW w wr #[.int .i64 k,.string x,.slice Ap n c,.bool b,.string t] c0 N S A q cc) :
 (wr.cell? ⟨w.heap.size,0,none⟩=some (.int .i64 k)/\wr.cell? ⟨w.heap.size,1,none⟩=some (.string x)/\wr.cell? ⟨w.heap.size,2,none⟩=some (.slice Ap n c))/\
 (wr.cell? ⟨w.heap.size+1,0,none⟩=some (.int .u8 0)/\wr.cell? ⟨w.heap.size+1,1,none⟩=some (.int .u64 0)/\wr.cell? ⟨w.heap.size+1,2,none⟩=some (.string ⟨#[]⟩)/\wr.cell? ⟨w.heap.size+1,3,none⟩=some (.slice none 0 0))/\
 (wr.cell? ⟨w.heap.size+2,0,none⟩=some (.int .u8 c0)/\wr.cell? ⟨w.heap.size+2,1,none⟩=some (.int .u64 N)/\wr.cell? ⟨w.heap.size+2,2,none⟩=some (.string S)/\wr.cell? ⟨w.heap.size+2,3,none⟩=some (.slice A q cc))/\
 (wr.frozen? ⟨w.heap.size+1,0,none⟩=false/\wr.frozen? ⟨w.heap.size+1,1,none⟩=false/\wr.frozen? ⟨w.heap.size+1,2,none⟩=false/\wr.frozen? ⟨w.heap.size+1,3,none⟩=false)/\
 (wr.frozen? ⟨w.heap.size+2,1,none⟩=false/\wr.frozen? ⟨w.heap.size+2,2,none⟩=false/\wr.frozen? ⟨w.heap.size+2,3,none⟩=false):=by
 obtain⟨q0,q1,q2,_,_⟩:=AL h.b2
 exact⟨⟨q0,q1,q2⟩,A5 h.b4,A5 h.b6,⟨AB h.b4 0,AB h.b4 1,AB h.b4 2,AB h.b4 3⟩,AB h.b6 1,AB h.b6 2,AB h.b6 3⟩
theorem D0(w:World)(o:Obj):(w.drew.alloc o).heap.size=w.heap.size+1:=by
 have h:(w.drew.alloc o).heap.size=w.drew.heap.size+1:=by simp
 exact h
theorem OY{w:World}{base:Nat}{e:TypeId}{size:Nat}{v:Value}{n:Nat}{xs:List Value}(h:w.ownsRow base e size v n xs){b:Nat}(hb:b<base)(o:Nat)(u:Value):(w.setCell ⟨b,o,none⟩ u).ownsRow base e size v n xs:=
 AR h λg hg _=>heap_set _ _ _ (by have:=AG h g hg;show g≠b;omega)
theorem AG0(x:ByteArray)(A:Option Addr)(n c:Nat)(b:Bool)(t sig:ByteArray)(hs1:1<=sig.size)(hx:x.size<=100000)(hx1:1<=x.size)(w:World):Calls Tryz.prog 27 #[.agg #[.int .i64 14,.string x,.slice A n c,.bool b,.string t],.string sig] w (UI (ABl x=true) w):=by
 obtain⟨i0,hi,hz0,hz1,hz2⟩:=info_parts Tryz.info26;have HU:=Hd (λ(W:World)=>WS x hx hx1 W);generalize hbb:ABl x=bb at *;clear hbb;have hs0:(0:Int)<(sig.size:Int):=Om;have hp0:0<sig.size:=Om;have e0:=AJ hp0;generalize AA sig 0=c0 at *;go_enter Tryz.func27,Tryz.ntmps27;go_upto_region 2 with fail;have hvw:VW w (((w.alloc (.cells #[.int .i64 14,.string x,.slice A n c,.bool b,.string t] 37)).alloc (.cells #[.int .u8 0,.int .u64 0,.string ⟨#[]⟩,.slice none 0 0] 26)).alloc (.cells #[.int .u8 c0,.int .u64 0,.string ⟨#[]⟩,.slice none 0 0] 26)) #[.int .i64 14,.string x,.slice A n c,.bool b,.string t] c0 0 ⟨#[]⟩ none 0 0:=PU w _ c0;change Code.wp _ _ _ _ (((w.alloc (.cells #[.int .i64 14,.string x,.slice A n c,.bool b,.string t] 37)).alloc (.cells #[.int .u8 0,.int .u64 0,.string ⟨#[]⟩,.slice none 0 0] 26)).alloc (.cells #[.int .u8 c0,.int .u64 0,.string ⟨#[]⟩,.slice none 0 0] 26));generalize ((w.alloc (.cells #[.int .i64 14,.string x,.slice A n c,.bool b,.string t] 37)).alloc (.cells #[.int .u8 0,.int .u64 0,.string ⟨#[]⟩,.slice none 0 0] 26)).alloc (.cells #[.int .u8 c0,.int .u64 0,.string ⟨#[]⟩,.slice none 0 0] 26)=wb at *;have HVW:=Hd hvw;clear hvw;obtain⟨⟨q0,q1,q2⟩,⟨z0,z1,z2,z3⟩,⟨y0,y1,y2,y3⟩,⟨f0,f1,f2,f3⟩,g1,g2,g3⟩:=HVW.out.cells;go_wp2_with (go_at_call 43;refine(HU.out _).mono ?_;rintro e w2 ⟨s,rfl,hsz,hb2⟩;have HV2:=Hd (HVW.out.call (by first|exact hb2|exact(Bl.drew).trans hb2));clear hb2;clear q0 q1 q2 z0 z1 z2 z3 y0 y1 y2 y3 f0 f1 f2 f3 g1 g2 g3;obtain⟨⟨q0,q1,q2⟩,⟨z0,z1,z2,z3⟩,⟨y0,y1,y2,y3⟩,⟨f0,f1,f2,f3⟩,g1,g2,g3⟩:=HV2.out.cells);have HVS:=Hd (HV2.out.setS ⟨#[121]⟩);clear q0 q1 q2 z0 z1 z2 z3 y0 y1 y2 y3 f0 f1 f2 f3 g1 g2 g3;clear HVW HV2;have HSA:=Hd (λ(k:Nat) (h:k<s.size)=>AJ h);have HSI:=Hd (λ(k:Nat)=>CJ s k);go_loopw [11] (λv11 wr=>∃(A':Option Addr) (q cc:Nat),v11=.int .i64 q/\q<=s.size/\Hid (VW w wr #[.int .i64 14,.string x,.slice A n c,.bool b,.string t] c0 0 ⟨#[121]⟩ A' q cc)/\Hid (∃xs,wr.ownsRow (w.heap.size+3) 26 4 (.slice A' q cc) q xs)) (λv _=>s.size-(intOf v).toNat)
 case atStart=>exact⟨none,0,0,rfl,Nat.zero_le _,HVS,⟨[],rfl,.inl ⟨rfl,rfl⟩⟩⟩
 obtain⟨A',q,cc,rfl,hq,HV,HR⟩:=hrel;obtain⟨⟨q0,q1,q2⟩,⟨z0,z1,z2,z3⟩,⟨y0,y1,y2,y3⟩,⟨f0,f1,f2,f3⟩,g1,g2,g3⟩:=HV.out.cells;by_cases hlt:(q:Int)<(s.size:Int)
 .have hqs:q<s.size:=Om
  have em:=HSA.out q hqs;have ei:=HSI.out q;generalize AA s q=d at *;obtain⟨xs,hrow⟩:=HR.out;have hws:=HV.out.size;have HOD:=Hd (show (wr.drew.alloc (.cells #[.int .u8 121,.int .u64 (IntKind.u64.wrap d),.string ⟨#[]⟩,.slice none 0 0] 26)).ownsRow (w.heap.size+3) 26 4 (.slice A' q cc) q xs from AD hrow (Bl.drew.alloc Nl _));have HNB:=Hd (heap_alloc_new wr.drew (.cells #[.int .u8 121,.int .u64 (IntKind.u64.wrap d),.string ⟨#[]⟩,.slice none 0 0] 26));have HBG:=Hd (show Below (w.heap.size+3) wr (wr.drew.alloc (.cells #[.int .u8 121,.int .u64 (IntKind.u64.wrap d),.string ⟨#[]⟩,.slice none 0 0] 26)) from((Below.refl (w.heap.size+3) wr).drew).alloc hws _);have HSZ1:=Hd (D0 wr (.cells #[.int .u8 121,.int .u64 (IntKind.u64.wrap d),.string ⟨#[]⟩,.slice none 0 0] 26));have HSB:=Hd (show w.heap.size+3<=(wr.drew.alloc (.cells #[.int .u8 121,.int .u64 (IntKind.u64.wrap d),.string ⟨#[]⟩,.slice none 0 0] 26)).heap.size by rw[HSZ1.out];omega);have y3d:(wr.alloc (.cells #[.int .u8 121,.int .u64 (IntKind.u64.wrap d),.string ⟨#[]⟩,.slice none 0 0] 26)).drew.cell? ⟨w.heap.size+2,3,none⟩=some (.slice A' q cc):=(HBG.out.cell (p:=⟨w.heap.size+2,3,none⟩) (by show w.heap.size+2<_;omega)).trans y3;clear hrow HR;go_upto_region 19 with fail;go_region_law (refine step_append_lies _ rfl _ _ 24 rfl (w.heap.size+3) 26 i0 (.agg #[.int .u8 0,.int .u64 0,.string ⟨#[]⟩,.slice none 0 0]) 4 56 Tryz.underlying24 hi hz0 hz1 hz2 rfl De _ _ _ rfl HOD.out ⟨wr.heap.size,0,none⟩ 1 1 [.int .u8 121,.int .u64 (IntKind.u64.wrap d),.string ⟨#[]⟩,.slice none 0 0] rfl rfl (World.news_of_block (cs:=#[.int .u8 121,.int .u64 (IntKind.u64.wrap d),.string ⟨#[]⟩,.slice none 0 0]) (t:=26) (fr:=(0,0)) HNB.out) (by simp[Value.oneCell']) De (by unfold maxLen;omega) Om (by first|exact HSB.out|(simp;omega)) (wr.heap.size+1) (by first|exact HSZ1.out) ?_;intro gg cap w3 hown3 hg3 hat hlt3;have HV3:=Hd (HV.out.step (HBG.out.grown hg3 HSB.out (AG HOD.out)));have HO3:=Hd hown3;clear hown3 hg3 hat hlt3;clear q0 q1 q2 z0 z1 z2 z3 y0 y1 y2 y3 f0 f1 f2 f3 g1 g2 g3;obtain⟨⟨q0,q1,q2⟩,⟨z0,z1,z2,z3⟩,⟨y0,y1,y2,y3⟩,⟨f0,f1,f2,f3⟩,g1,g2,g3⟩:=HV3.out.cells)
  all_goals
   have HV4:=Hd (HV3.out.setK (some ⟨gg,0,none⟩) (q+1) cap);clear q0 q1 q2 z0 z1 z2 z3 y0 y1 y2 y3 f0 f1 f2 f3 g1 g2 g3;go_wp2_with fail;go_roundw
   case rel=>exact⟨some ⟨gg,0,none⟩,q+1,cap,by go_num,Om,HV4,⟨_,OY HO3.out Om 3 _⟩⟩
   case measure=>simp[intOf];omega
 go_wp2_with fail;refine bodyPost_ret (v:=.tuple #[.agg #[.int .u8 c0,.int .u64 0,.string ⟨#[121]⟩,.slice A' q cc],.bool bb]) (by simp[results,Tryz.results27,go_sem,z0,z1,z2,z3]) rfl ?_;exact⟨c0,0,⟨#[121]⟩,A',q,cc,bb,rfl,λh=>h,AM HV.out.below Om _ _ _ _⟩
