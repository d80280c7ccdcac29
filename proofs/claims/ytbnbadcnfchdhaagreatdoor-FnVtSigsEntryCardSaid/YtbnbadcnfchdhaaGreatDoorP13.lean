/- Lemmas for FnVtSigsEntry; no conditions. -/
import Derived.Test.YtbnbadcnfchdhaaGreatDoorP12
set_option maxRecDepth 100000
set_option maxHeartbeats 16000000
set_option linter.all false
namespace Go.Proofs.YtbnbadcnfchdhaaGreatDoor
open Go.RowKit
structure DR(w wx:World)(r:Nat)(A:Option Addr)(n c i q:Nat):Prop where
 b4:wx.heap[w.heap.size]?=some (.cells z5 37 (0,0))
 b6:wx.heap[w.heap.size+1]?=some (.cells (k5 q) 37 (0,0))
 blk:wx.heap[r]?=some (.cells #[.slice A n c,.int .i64 i] 67 (0,0))
 size:w.heap.size+2<=wx.heap.size
 grown:w.grownBy wx (some r)
theorem DR.mk1{w wx:World}{r:Nat}{A:Option Addr}{n c i q:Nat}{ts:List AW}(h:UH w wx q)(hr:FW w r A n c ts i):DR w wx r A n c i q:=
 ⟨h.b4,h.b6,(h.below.block r hr.lt).trans hr.blk,by rw[h.size];omega,DN _ h.below⟩
theorem DR.step{w W W':World}{r:Nat}{A:Option Addr}{n c i i' q:Nat}(h:DR w W r A n c i q)(hr:r<w.heap.size)(hg:W.grownBy W' (some r))(hb:W'.heap[r]?=some (.cells #[.slice A n c,.int .i64 i'] 67 (0,0))):DR w W' r A n c i' q:=
 ⟨(hg.block _ (by have:=h.size;omega) (by intro e;simp at e;omega)).trans h.b4,(hg.block _ (by have:=h.size;omega) (by intro e;simp at e;omega)).trans h.b6,hb,Nat.le_trans h.size hg.size,
  EL h.grown hg⟩
theorem DR.rd{w W:World}{r:Nat}{A:Option Addr}{n c i j q:Nat}{ts:List AW}(h:DR w W r A n c i q)(hr:FW w r A n c ts j)(hi:i<=ts.length):FW W r A n c ts i:=hr.move h.grown h.blk hi
theorem DR.drew{w W:World}{r:Nat}{A:Option Addr}{n c i q:Nat}(h:DR w W r A n c i q)(m:Nat):DR w (W.drewN m) r A n c i q:=
 ⟨h.b4,h.b6,h.blk,h.size,⟨h.grown.os,h.grown.tape,h.grown.output,h.grown.size,h.grown.block⟩⟩
theorem DR.next{w W:World}{r:Nat}{A:Option Addr}{n c i q:Nat}(h:DR w W r A n c i q)(hr:r<w.heap.size):DR w (W.setCell ⟨r,1,none⟩ (.int .i64 ((i+1:Nat):Int))) r A n c (i+1) q:=by have h1:=AC7 h.blk (.int .i64 ((i+1:Nat):Int));exact h.step hr h1.2.1 h1.1
theorem DR.belowStep{w W W':World}{r:Nat}{A:Option Addr}{n c i q:Nat}(h:DR w W r A n c i q)(hr:r<w.heap.size)(hb:Below W.heap.size W W'):DR w W' r A n c i q:=
 h.step hr (DN _ hb) ((hb.block r (by have:=h.size;omega)).trans h.blk)
theorem LK{w W:World}{r:Option Nat}(h:w.grownBy W r)(m:Nat):w.grownBy (W.drewN m) r:=⟨h.os,h.tape,h.output,h.size,h.block⟩
theorem BA(W:World){b r:Nat}(h:r≠b)(v0 v1 v2 v3 v4:Value):(((((W.setCell ⟨b,0,none⟩ v0).setCell ⟨b,1,none⟩ v1).setCell ⟨b,2,none⟩ v2).setCell ⟨b,3,none⟩ v3).setCell ⟨b,4,none⟩ v4).heap[r]?=W.heap[r]?:=by rw[heap_set _ _ _ h,heap_set _ _ _ h,heap_set _ _ _ h,heap_set _ _ _ h,heap_set _ _ _ h]
theorem B0{w W:World}{r:Nat}(hg:w.grownBy W (some r)){b:Nat}(h:w.heap.size<=b)(v0 v1 v2 v3 v4:Value):w.grownBy (((((W.setCell ⟨b,0,none⟩ v0).setCell ⟨b,1,none⟩ v1).setCell ⟨b,2,none⟩ v2).setCell ⟨b,3,none⟩ v3).setCell ⟨b,4,none⟩ v4) (some r):=
 BS (BS (BS (BS (BS hg _ _ (.inl h)) _ _ (.inl h)) _ _ (.inl h)) _ _ (.inl h)) _ _ (.inl h)
def WX(W:World)(b:Nat)(v0 v1 v2 v3 v4:Value):World:=((((W.setCell ⟨b,0,none⟩ v0).setCell ⟨b,1,none⟩ v1).setCell ⟨b,2,none⟩ v2).setCell ⟨b,3,none⟩ v3).setCell ⟨b,4,none⟩ v4
theorem KK{W:World}{b:Nat}{cs:Array Value}{t:TypeId}(h:W.heap[b]?=some (.cells cs t (0,0)))(o:Nat)(v:Value):(W.setCell ⟨b,o,none⟩ v).heap[b]?=some (.cells (cs.setIfInBounds o v) t (0,0)):=by simp only[World.setCell,Array.getElem?_modify];simp[h]
theorem AI1{W:World}{b:Nat}{u0 u1 u2 u3 u4:Value}(h:W.heap[b]?=some (.cells #[u0,u1,u2,u3,u4] 37 (0,0)))(v0 v1 v2 v3 v4:Value):(WX W b v0 v1 v2 v3 v4).heap[b]?=some (.cells #[v0,v1,v2,v3,v4] 37 (0,0)):=by unfold WX;have h0:=KK h 0 v0;have h1:=KK h0 1 v1;have h2:=KK h1 2 v2;have h3:=KK h2 3 v3;have h4:=KK h3 4 v4;exact h4
theorem AGc(W:World)(b:Nat)(v0 v1 v2 v3 v4:Value):(WX W b v0 v1 v2 v3 v4).heap.size=W.heap.size:=by unfold WX;simp[World.setCell]
theorem Z6{w:World}{P:Nat->Prop}{k:Nat}{x:ByteArray}{A:Option Addr}{n c:Nat}{bt:Bool}{t:ByteArray}{k':Nat}{y:ByteArray}{kids:List Ph}{ty:Option ByteArray}(h:PhAt w P (NX k x A n c bt t) (.mk k' y kids ty))(sig:ByteArray) :
 PhAt w P (NX k x A n c true sig) (.mk k' y kids (some sig)):=by
 generalize hc:NX k x A n c bt t=cs at h
 cases h with
 |mk k2 x2 A2 n2 c2 _ _ rows hn hrow hP hA hkid=>
  simp only[NX,List.cons.injEq,Value.int.injEq,Value.string.injEq,Value.slice.injEq,and_true,true_and]at hc
  obtain⟨h1,rfl,⟨rfl,rfl,rfl⟩,_⟩:=hc
  obtain rfl:k=k':=Om
  exact .mk k x A n c kids (some sig) rows hn hrow hP hA hkid
theorem AC1{ts r:List AW}{p:Ph}(h:D7 false ts p r):∃k y kids,p=.mk k y kids none:=by
 cases h with
 |leaf hk=>exact⟨_,_,_,rfl⟩
 |vrt h=>exact⟨_,_,_,rfl⟩
 |nil hk=>exact⟨_,_,_,rfl⟩
 |lst hk h=>exact⟨_,_,_,rfl⟩
def AB8(A:Option Addr)(n c:Nat)(ts:List AW)(i:Nat)(b:Bool):Prop:=∀(W:World) (r:Nat),FW W r A n c ts i->Calls Tryz.prog 34 #[.pointer (some ⟨r,0,none⟩),.bool b] W (QZ W r A n c ts i b)
def AP1(A:Option Addr)(n c:Nat)(ts:List AW)(i:Nat):Prop:=∀(W:World) (r:Nat),FW W r A n c ts i->Calls Tryz.prog 59 #[.pointer (some ⟨r,0,none⟩)] W (QZ W r A n c ts i true)
theorem ADf{w:World}{r:Nat}{A:Option Addr}{n c:Nat}{ts:List AW}{i:Nat}(h:FW w r A n c ts i)(b:Bool)(hk:AZ ts i≠2/\AZ ts i≠3/\AZ ts i≠4/\AZ ts i≠14/\AZ ts i≠13/\AZ ts i≠9/\AZ ts i≠5/\AZ ts i≠7) :
 Calls Tryz.prog 34 #[.pointer (some ⟨r,0,none⟩),.bool b] w (QZ w r A n c ts i b):=by
 have HR:=Hd h
 have hlt:=h.lt
 have hle:=h.le
 have hnl:=h.len
 have hns:=h.small
 have KC:=Hd (λ(W:World) (hb:Below w.heap.size w W)=>FJ (h.keep hb))
 clear h
 obtain⟨k1,k2,k3,k4,k5,k6,k7,k8⟩:=hk
 generalize AZ ts i=q at *
 have q2:((q:Int)==2)=false:=Bq
 have q3:((q:Int)==3)=false:=Bq
 have q4:((q:Int)==4)=false:=Bq
 have q14:((q:Int)==14)=false:=Bq
 have q13:((q:Int)==13)=false:=Bq
 have q9:((q:Int)==9)=false:=Bq
 have q5:((q:Int)==5)=false:=Bq
 have q7:((q:Int)==7)=false:=Bq
 go_enter Tryz.func34,Tryz.ntmps34
 go_upto_region 2 with(go_at_call 35;refine(KC.out _ (Bl.alloc Nl _)).mono ?_;rintro e w' ⟨rfl,m,rfl⟩)
 go_cut [16] from 12 to 15 (λv wx=>v=.int .i64 q/\UH w wx q)
 case first=>clear KC HR;go_wp2_with fail;go_meet;exact⟨rfl,KR w m q⟩
 obtain⟨rfl,TW0⟩:=hcut
 have TW:=DR.mk1 TW0 HR.out
 clear TW0 KC
 obtain⟨p0,p1,p2,p3,p4⟩:=AL TW.b6
 obtain⟨z0,z1,z2,z3,z4⟩:=AL TW.b4
 obtain⟨g0,g1,gf⟩:=(TW.rd HR.out Om).cells
 have f60:=AB TW.b6 0
 have f61:=AB TW.b6 1
 have f62:=AB TW.b6 2
 have f63:=AB TW.b6 3
 have f64:=AB TW.b6 4
 have f40:=AB TW.b4 0
 have f41:=AB TW.b4 1
 have f42:=AB TW.b4 2
 have f43:=AB TW.b4 3
 have f44:=AB TW.b4 4
 have HTW:=Hd TW
 clear TW
 go_wp2_with fail
 refine bodyPost_ret (v:=.tuple #[.agg #[.int .i64 (0:Nat),.string ⟨#[]⟩,.slice none 0 0,.bool false,.string ⟨#[]⟩],.bool false]) (by simp[results,Tryz.results34,go_sem,p0,p1,p2,p3,p4,z0,z1,z2,z3,z4]) rfl ?_
 have hne:r≠w.heap.size:=Om
 exact⟨_,_,none,0,0,false,⟨#[]⟩,false,i,rfl,Nl,hle,(BA _ hne _ _ _ _ _).trans HTW.out.blk,B0 HTW.out.grown Nl _ _ _ _ _,IE⟩
theorem AJw{w:World}{r:Nat}{A:Option Addr}{n c:Nat}{ts:List AW}{i:Nat}(h:FW w r A n c ts i)(b:Bool)(hk:AZ ts i=13)(hG:MB ts)(ih:AB8 A n c ts (i+1) false) :
 Calls Tryz.prog 34 #[.pointer (some ⟨r,0,none⟩),.bool b] w (QZ w r A n c ts i b):=by
 have HR:=Hd h
 have hlt:=h.lt
 have hle:=h.le
 have hnl:=h.len
 have hns:=h.small
 have KC:=Hd (λ(W:World) (hb:Below w.heap.size w W)=>FJ (h.keep hb))
 have hi:i<ts.length:=by
  rcases Nat.lt_or_ge i ts.length with h1|h1
  .exact h1
  rw[FR Om]at hk;omega
 rw[hk]at KC
 have hgt:=hG _ (List.getElem_mem hi)
 have hki:=GA hi
 have hnamed:=λsig (hs:CA (ts[i]).2=(sig,true))=>(λp r' k y kids (ht:D7 false (ts.drop (i+1)) (.mk k y kids none) r') (hp:p=Ph.mk k y kids (some sig))=>(show D7 true (ts.drop i) p r' by rw[JM hi,<-hki,hk,hp];exact .typ hs ht))
 obtain⟨g',hg',_⟩:=h.tok hi
 clear h
 unfold ON at hgt
 rw[<-hki,hk]at hgt
 obtain⟨_,hxs,hgx⟩:=hgt
 obtain⟨hx0,hxp⟩:=hgx rfl
 have hii:(i:Int)<(n:Int):=Om
 have HNL:=Hd hnl
 clear hnl
 have HNM:=Hd hnamed
 have HG:=Hd (show AZ ts i=(ts[i]).1 from hki)
 have NC:=Hd (λW=>JV (ts[i]).2 hxs hx0 W)
 have HXP:=Hd hxp
 have HTK:=Hd (λ(W:World) (hR:FW W r A n c ts i)=>hR.tok hi)
 have IH:=Hd ih
 clear hnamed hki hk hG hxp ih
 generalize (ts[i]).1=q1 at *
 generalize (ts[i]).2=x at *
 go_enter Tryz.func34,Tryz.ntmps34
 go_upto_region 2 with(go_at_call 35;refine(KC.out _ (Bl.alloc Nl _)).mono ?_;rintro e w' ⟨rfl,m,rfl⟩)
 go_cut [16] from 12 to 15 (λv wx=>v=.int .i64 13/\UH w wx 13)
 case first=>clear KC HR;go_wp2_with fail;go_meet;exact⟨rfl,KR w m 13⟩
 obtain⟨rfl,TW0⟩:=hcut
 have TW:=DR.mk1 TW0 HR.out
 clear TW0 KC
 obtain⟨g,hgA,hg,hgr,t0,t1⟩:=HTK.out _ (TW.rd HR.out Om)
 subst hgA
 obtain⟨p0,p1,p2,p3,p4⟩:=AL TW.b6
 obtain⟨z0,z1,z2,z3,z4⟩:=AL TW.b4
 obtain⟨g0,g1,gf⟩:=(TW.rd HR.out Om).cells
 have f60:=AB TW.b6 0
 have f61:=AB TW.b6 1
 have f62:=AB TW.b6 2
 have f63:=AB TW.b6 3
 have f64:=AB TW.b6 4
 have f40:=AB TW.b4 0
 have f41:=AB TW.b4 1
 have f42:=AB TW.b4 2
 have f43:=AB TW.b4 3
 have f44:=AB TW.b4 4
 have HTW:=Hd TW
 clear TW
 clear hg'
 go_upto_region 11 with fail
 go_quiet (fail)
 go_upto_region 14 with(go_at_call 15;refine(NC.out _).mono ?_;rintro e w' ⟨sig,ok,rfl,hsz,hnm,hb1⟩;have HB1:=Hd hb1;have HNQ:=Hd hnm;clear hb1 hnm hsz)
 have TW:=((HTW.out.drew nq).next hlt).belowStep hlt HB1.out
 clear p0 p1 p2 p3 p4 z0 z1 z2 z3 z4 g0 g1 gf f60 f61 f62 f63 f64 f40 f41 f42 f43 f44 HTW HB1 t0 t1 hg hgr
 obtain⟨p0,p1,p2,p3,p4⟩:=AL TW.b6
 obtain⟨z0,z1,z2,z3,z4⟩:=AL TW.b4
 obtain⟨g0,g1,gf⟩:=(TW.rd HR.out (by have:=HNL.out;omega)).cells
 have f60:=AB TW.b6 0
 have f61:=AB TW.b6 1
 have f62:=AB TW.b6 2
 have f63:=AB TW.b6 3
 have f64:=AB TW.b6 4
 have f40:=AB TW.b4 0
 have f41:=AB TW.b4 1
 have f42:=AB TW.b4 2
 have f43:=AB TW.b4 3
 have f44:=AB TW.b4 4
 have HTW:=Hd TW
 clear TW
 clear HTK HG NC
 have hin:i+1<=n:=by have:=HNL.out;omega
 cases ok with
 |false=>
  clear IH HNM HNQ
  cases b with
  |true=>
   go_quiet (fail)
   go_wp2_with fail
   refine bodyPost_ret (v:=.tuple #[.agg #[.int .i64 (0:Nat),.string ⟨#[]⟩,.slice none 0 0,.bool false,.string ⟨#[]⟩],.bool false]) (by simp[results,Tryz.results34,go_sem,z0,z1,z2,z3,z4]) rfl ?_
   have hne:r≠w.heap.size:=Om
   exact⟨_,_,none,0,0,false,⟨#[]⟩,false,i+1,rfl,Om,Om,(BA _ hne _ _ _ _ _).trans HTW.out.blk,B0 (LK HTW.out.grown _) Nl _ _ _ _ _,IE⟩
  |false=>
   go_quiet (fail)
   go_wp2_with fail
   refine bodyPost_ret (v:=.tuple #[.agg #[.int .i64 (0:Nat),.string ⟨#[]⟩,.slice none 0 0,.bool false,.string ⟨#[]⟩],.bool false]) (by simp[results,Tryz.results34,go_sem,z0,z1,z2,z3,z4]) rfl ?_
   have hne:r≠w.heap.size:=Om
   exact⟨_,_,none,0,0,false,⟨#[]⟩,false,i+1,rfl,Om,Om,(BA _ hne _ _ _ _ _).trans HTW.out.blk,B0 (LK HTW.out.grown _) Nl _ _ _ _ _,IE⟩
 |true=>
  cases b with
  |false=>
   clear IH HNM HNQ
   go_quiet (fail)
   go_wp2_with fail
   refine bodyPost_ret (v:=.tuple #[.agg #[.int .i64 (0:Nat),.string ⟨#[]⟩,.slice none 0 0,.bool false,.string ⟨#[]⟩],.bool false]) (by simp[results,Tryz.results34,go_sem,z0,z1,z2,z3,z4]) rfl ?_
   have hne:r≠w.heap.size:=Om
   exact⟨_,_,none,0,0,false,⟨#[]⟩,false,i+1,rfl,Om,Om,(BA _ hne _ _ _ _ _).trans HTW.out.blk,B0 (LK HTW.out.grown _) Nl _ _ _ _ _,IE⟩
  |true=>
   by_cases hend:i+1=n
   .have q1':((i:Int)+1==(n:Int))=true:=by rw[beq_iff_eq];omega
    clear IH HNM HNQ;go_quiet (fail);go_wp2_with fail;refine bodyPost_ret (v:=.tuple #[.agg #[.int .i64 (0:Nat),.string ⟨#[]⟩,.slice none 0 0,.bool false,.string ⟨#[]⟩],.bool false]) (by simp[results,Tryz.results34,go_sem,z0,z1,z2,z3,z4]) rfl ?_;have hne:r≠w.heap.size:=Om;exact⟨_,_,none,0,0,false,⟨#[]⟩,false,i+1,rfl,Om,Om,(BA _ hne _ _ _ _ _).trans HTW.out.blk,B0 (LK HTW.out.grown _) Nl _ _ _ _ _,IE⟩
   have q1':((i:Int)+1==(n:Int))=false:=Bq
   go_quiet (fail)
   have HTq:=Hd (HTW.out.drew nq)
   have IC:=Hd (IH.out (w'.drewN nq) r (HTq.out.rd HR.out (by have:=HNL.out;omega)))
   have hws:=HTW.out.size
   clear p0 p1 p2 p3 p4 z0 z1 z2 z3 z4 g0 g1 gf f60 f61 f62 f63 f64 f40 f41 f42 f43 f44 HTW IH q1' hend
   go_upto_region 17 with(go_at_call 34;(with_reducible refine IC.out.mono ?_);rintro e w2 ⟨k2,x2,A2,n2,c2,bt2,t2,ok2,i2,rfl,hi1,hi2,hblk,hgrow,hok⟩;have HOK:=Hd hok;have HGR:=Hd hgrow;have TW:=HTq.out.step hlt hgrow hblk;clear hok hgrow hblk;obtain⟨p0,p1,p2,p3,p4⟩:=AL TW.b6;obtain⟨z0,z1,z2,z3,z4⟩:=AL TW.b4;have f60:=AB TW.b6 0;have f61:=AB TW.b6 1;have f62:=AB TW.b6 2;have f63:=AB TW.b6 3;have f64:=AB TW.b6 4;have f40:=AB TW.b4 0;have f41:=AB TW.b4 1;have f42:=AB TW.b4 2;have f43:=AB TW.b4 3;have f44:=AB TW.b4 4;have HT2:=Hd TW;clear TW)
   change Code.wp _ _ _ _ (WX w2 (w.heap.size+1) (.int .i64 k2) (.string x2) (.slice A2 n2 c2) (.bool bt2) (.string t2))
   have hne:r≠w.heap.size:=Om
   have hne2:r≠w.heap.size+1:=Om
   have e6:=AI1 HT2.out.b6 (.int .i64 k2) (.string x2) (.slice A2 n2 c2) (.bool bt2) (.string t2)
   have e4:=(BA w2 (show w.heap.size≠w.heap.size+1 by omega) (.int .i64 k2) (.string x2) (.slice A2 n2 c2) (.bool bt2) (.string t2)).trans HT2.out.b4
   have eb:=(BA w2 hne2 (.int .i64 k2) (.string x2) (.slice A2 n2 c2) (.bool bt2) (.string t2)).trans HT2.out.blk
   have eg:=B0 HT2.out.grown (Nat.le_succ _) (.int .i64 k2) (.string x2) (.slice A2 n2 c2) (.bool bt2) (.string t2)
   have es:=AGc w2 (w.heap.size+1) (.int .i64 k2) (.string x2) (.slice A2 n2 c2) (.bool bt2) (.string t2)
   have ea:=λgg (h:gg≠w.heap.size+1)=>BA w2 h (.int .i64 k2) (.string x2) (.slice A2 n2 c2) (.bool bt2) (.string t2)
   change (WX w2 (w.heap.size+1) (.int .i64 k2) (.string x2) (.slice A2 n2 c2) (.bool bt2) (.string t2)).heap[w.heap.size]?=_ at e4
   change (WX w2 (w.heap.size+1) (.int .i64 k2) (.string x2) (.slice A2 n2 c2) (.bool bt2) (.string t2)).heap[r]?=_ at eb
   change w.grownBy (WX w2 (w.heap.size+1) (.int .i64 k2) (.string x2) (.slice A2 n2 c2) (.bool bt2) (.string t2)) _ at eg
   change ∀gg,gg≠w.heap.size+1->(WX w2 (w.heap.size+1) (.int .i64 k2) (.string x2) (.slice A2 n2 c2) (.bool bt2) (.string t2)).heap[gg]?=_ at ea
   generalize WX w2 (w.heap.size+1) (.int .i64 k2) (.string x2) (.slice A2 n2 c2) (.bool bt2) (.string t2)=w3 at *
   clear p0 p1 p2 p3 p4 z0 z1 z2 z3 z4 f60 f61 f62 f63 f64 f40 f41 f42 f43 f44
   obtain⟨p0,p1,p2,p3,p4⟩:=AL e6
   obtain⟨z0,z1,z2,z3,z4⟩:=AL e4
   have f63:=AB e6 3
   have f64:=AB e6 4
   have f40:=AB e4 0
   have f41:=AB e4 1
   have f42:=AB e4 2
   have f43:=AB e4 3
   have f44:=AB e4 4
   have E6:=Hd e6
   have E4:=Hd e4
   have EB:=Hd eb
   have EG:=Hd eg
   have ES:=Hd es
   have EA:=Hd ea
   clear e6 e4 eb eg es ea
   go_wp2_with fail
   refine bodyPost_ret (v:=.tuple #[.agg #[.int .i64 k2,.string x2,.slice A2 n2 c2,.bool true,.string sig],.bool ok2]) (by simp[results,Tryz.results34,go_sem,p0,p1,p2,p3,p4,z0,z1,z2,z3,z4]) rfl ?_
   refine⟨k2,x2,A2,n2,c2,true,sig,ok2,i2,rfl,Om,hi2,?_,?_,?_⟩
   .rw[BA _ hne,heap_set _ _ _ hne2,heap_set _ _ _ hne2];exact EB.out
   .exact B0 (BS (BS EG.out _ _ (.inl (Nat.le_succ _))) _ _ (.inl (Nat.le_succ _))) Nl _ _ _ _ _
   obtain⟨p,hP,hT⟩:=HOK.out
   cases p with
   |mk k' y kids ty=>
   refine⟨.mk k' y kids (some sig),?_,λhk=>?_⟩
   .refine(Z6 hP sig).same ?_ ?_ ?_
    .simp only[World.setCell,Array.size_modify];rw[ES.out];exact Nl
    .intro gg hgg hlt2
     have hgg':w'.heap.size<=gg:=hgg;have e1:gg≠w.heap.size:=Om;have e2:gg≠w.heap.size+1:=Om;rw[BA _ e1,heap_set _ _ _ e2,heap_set _ _ _ e2];exact EA.out gg e2
    intro gg hgg;have hgg':w'.heap.size<=gg:=hgg;omega
   obtain⟨hi3,hT⟩:=hT hk
   obtain⟨k3,y3,kids3,he⟩:=AC1 hT
   cases he
   exact⟨Om,HNM.out sig (HNQ.out HXP.out).symm _ _ _ _ _ hT rfl⟩
def U4(W:World)(b:Nat)(v0 v1 v2 v3 v4:Value):World:=((W.setCell ⟨b,2,none⟩ (.slice (some ⟨W.heap.size+1,0,none⟩) 1 1)).alloc (.cells #[v0,v1,v2,v3,v4] 37)).alloc (.cells #[v0,v1,v2,v3,v4] 37)
theorem AAy(W:World)(o o':Obj){g:Nat}(hl:g<W.heap.size):((W.alloc o).alloc o').heap[g]?=W.heap[g]?:=by show ((W.heap.push _).push _)[g]?=_;rw[Array.getElem?_push,if_neg (by simp;omega),Array.getElem?_push,if_neg Om]
theorem MH(W:World)(p:Addr)(v:Value):(W.setCell p v).heap.size=W.heap.size:=by simp[World.setCell]
theorem VH{W:World}{b g:Nat}(v0 v1 v2 v3 v4:Value)(hg:g≠b)(hl:g<W.heap.size):(U4 W b v0 v1 v2 v3 v4).heap[g]?=W.heap[g]?:=by unfold U4;rw[AAy _ _ _ (by rw[MH];exact hl),heap_set _ _ _ hg]
theorem AOa{W:World}{b:Nat}{u0 u1 u2 u3 u4:Value}(v0 v1 v2 v3 v4:Value)(h:W.heap[b]?=some (.cells #[u0,u1,u2,u3,u4] 37 (0,0))):(U4 W b v0 v1 v2 v3 v4).heap[b]?=some (.cells #[u0,u1,.slice (some ⟨W.heap.size+1,0,none⟩) 1 1,u3,u4] 37 (0,0)):=by have hl:b<W.heap.size:=(Array.getElem?_eq_some_iff.1 h).1;unfold U4;rw[AAy _ _ _ (by rw[MH];exact hl)];exact KK h 2 _
theorem AHn(W:World)(b:Nat)(v0 v1 v2 v3 v4:Value):(U4 W b v0 v1 v2 v3 v4).heap[W.heap.size+1]?=some (.cells #[v0,v1,v2,v3,v4] 37 (0,0)):=by unfold U4;show (((W.setCell _ _).heap.push _).push _)[W.heap.size+1]?=_;rw[Array.getElem?_push,if_pos (by rw[Array.size_push,MH])]
theorem AFc(W:World)(b:Nat)(v0 v1 v2 v3 v4:Value):(U4 W b v0 v1 v2 v3 v4).heap.size=W.heap.size+2:=by unfold U4;simp[World.setCell]
theorem ADz{w W:World}{r b:Nat}(hg:w.grownBy W (some r))(hb:w.heap.size<=b)(v0 v1 v2 v3 v4:Value):w.grownBy (U4 W b v0 v1 v2 v3 v4) (some r):=
 EL (EL (BS hg _ _ (.inl hb)) (DN _ (Bl.alloc Nl _))) (DN _ (Bl.alloc Nl _))
structure M0(w wx:World)(r:Nat)(A:Option Addr)(n c i q g:Nat):Prop where
 b4:wx.heap[w.heap.size]?=some (.cells z5 37 (0,0))
 b6:wx.heap[w.heap.size+1]?=some (.cells #[.int .i64 q,.string ⟨#[]⟩,.slice (some ⟨g,0,none⟩) 1 1,.bool false,.string ⟨#[]⟩] 37 (0,0))
 blk:wx.heap[r]?=some (.cells #[.slice A n c,.int .i64 i] 67 (0,0))
 size:w.heap.size+2<=wx.heap.size
 grown:w.grownBy wx (some r)
theorem M0.step{w W W':World}{r:Nat}{A:Option Addr}{n c i i' q g:Nat}(h:M0 w W r A n c i q g)(hr:r<w.heap.size)(hg:W.grownBy W' (some r))(hb:W'.heap[r]?=some (.cells #[.slice A n c,.int .i64 i'] 67 (0,0))):M0 w W' r A n c i' q g:=
 ⟨(hg.block _ (by have:=h.size;omega) (by intro e;simp at e;omega)).trans h.b4,(hg.block _ (by have:=h.size;omega) (by intro e;simp at e;omega)).trans h.b6,hb,Nat.le_trans h.size hg.size,EL h.grown hg⟩
theorem M0.rd{w W:World}{r:Nat}{A:Option Addr}{n c i j q g:Nat}{ts:List AW}(h:M0 w W r A n c i q g)(hr:FW w r A n c ts j)(hi:i<=ts.length):FW W r A n c ts i:=hr.move h.grown h.blk hi
theorem M0.drew1{w W:World}{r:Nat}{A:Option Addr}{n c i q g:Nat}(h:M0 w W r A n c i q g):M0 w W.drew r A n c i q g:=
 ⟨h.b4,h.b6,h.blk,h.size,⟨h.grown.os,h.grown.tape,h.grown.output,h.grown.size,h.grown.block⟩⟩
theorem AAo{W:World}{P:Nat->Prop}{g:Nat}{k:Nat}{x:ByteArray}{A:Option Addr}{n c:Nat}{bt:Bool}{t:ByteArray}{p:Ph}(q:Nat)(y:ByteArray)(hg:W.heap[g]?=some (.cells #[.int .i64 k,.string x,.slice A n c,.bool bt,.string t] 37 (0,0)))(hP:P g)(hp:PhAt W P (NX k x A n c bt t) p) :
 PhAt W P (NX q y (some ⟨g,0,none⟩) 1 1 false ⟨#[]⟩) (.mk q y [p] none):=by
 refine .mk q y (some ⟨g,0,none⟩) 1 1 [p] none (λ_=>NX k x A n c bt t) rfl ⟨rfl,.inr ⟨g,1,_,rfl,Nat.zero_le _,hg,Nl,De,rfl,rfl⟩⟩ ?_ ?_ ?_
 .intro b hb
  simp[Value.ownBlock]at hb;rw[<-hb];exact hP
 .intro _
  exact⟨g,rfl,(Array.getElem?_eq_some_iff.1 hg).1⟩
 intro i hi
 obtain rfl:i=0:=by simpa using hi
 exact hp
theorem AKp{w:World}{r:Nat}{A:Option Addr}{n c:Nat}{ts:List AW}{i:Nat}(h:FW w r A n c ts i)(b:Bool)(hk:AZ ts i=9)(ih:AB8 A n c ts (i+1) true) :
 Calls Tryz.prog 34 #[.pointer (some ⟨r,0,none⟩),.bool b] w (QZ w r A n c ts i b):=by
 have HR:=Hd h
 have hlt:=h.lt
 have hle:=h.le
 have hnl:=h.len
 have hns:=h.small
 have KC:=Hd (λ(W:World) (hb:Below w.heap.size w W)=>FJ (h.keep hb))
 have hi:i<ts.length:=by
  rcases Nat.lt_or_ge i ts.length with h1|h1
  .exact h1
  rw[FR Om]at hk;omega
 rw[hk]at KC
 have hki:=GA hi
 have HD:=Hd (show ts.drop i=(9,(ts[i]).2)::ts.drop (i+1) by rw[JM hi,<-hki,hk])
 clear h
 have hib:i<=100001:=Om
 have HNL:=Hd hnl
 have IH:=Hd ih
 clear hki hk ih hnl
 generalize (ts[i]).2=x at *
 go_enter Tryz.func34,Tryz.ntmps34
 go_upto_region 2 with(go_at_call 35;refine(KC.out _ (Bl.alloc Nl _)).mono ?_;rintro e w' ⟨rfl,m,rfl⟩)
 go_cut [16] from 12 to 15 (λv wx=>v=.int .i64 9/\UH w wx 9)
 case first=>clear KC HR;go_wp2_with fail;go_meet;exact⟨rfl,KR w m 9⟩
 obtain⟨rfl,TW0⟩:=hcut
 have TW:=DR.mk1 TW0 HR.out
 clear TW0 KC
 obtain⟨p0,p1,p2,p3,p4⟩:=AL TW.b6
 obtain⟨z0,z1,z2,z3,z4⟩:=AL TW.b4
 obtain⟨g0,g1,gf⟩:=(TW.rd HR.out Om).cells
 have f60:=AB TW.b6 0
 have f61:=AB TW.b6 1
 have f62:=AB TW.b6 2
 have f63:=AB TW.b6 3
 have f64:=AB TW.b6 4
 have f40:=AB TW.b4 0
 have f41:=AB TW.b4 1
 have f42:=AB TW.b4 2
 have f43:=AB TW.b4 3
 have f44:=AB TW.b4 4
 have HTW:=Hd TW
 clear TW
 have HTn:=Hd (show DR w (wc.setCell ⟨r,1,none⟩ (.int .i64 ((i:Int)+1))) r A n c (i+1) 9 from HTW.out.next hlt)
 have IC:=Hd (IH.out _ r (HTn.out.rd HR.out (by have:=HNL.out;omega)))
 have hws:=HTW.out.size
 clear IH
 go_upto_region 23 with(go_at_call 34;(with_reducible refine IC.out.mono ?_);rintro e w2 ⟨k2,x2,A2,n2,c2,bt2,t2,ok2,i2,rfl,hi1,hi2,hblk,hgrow,hok⟩;have HOK:=Hd hok;have HGR:=Hd hgrow;have TW:=HTn.out.step hlt hgrow hblk;clear hok hgrow hblk p0 p1 p2 p3 p4 z0 z1 z2 z3 z4 g0 g1 gf f60 f61 f62 f63 f64 f40 f41 f42 f43 f44;obtain⟨p0,p1,p2,p3,p4⟩:=AL TW.b6;obtain⟨z0,z1,z2,z3,z4⟩:=AL TW.b4;have f60:=AB TW.b6 0;have f61:=AB TW.b6 1;have f62:=AB TW.b6 2;have f63:=AB TW.b6 3;have f64:=AB TW.b6 4;have f40:=AB TW.b4 0;have f41:=AB TW.b4 1;have f42:=AB TW.b4 2;have f43:=AB TW.b4 3;have f44:=AB TW.b4 4;have HT2:=Hd TW;clear TW;have hl2:=HT2.out.size;have hl1:w.heap.size+1<w2.heap.size:=Om;have hl0:w.heap.size<w2.heap.size:=Om)
 change Code.wp _ _ _ _ (U4 w2 (w.heap.size+1) (.int .i64 k2) (.string x2) (.slice A2 n2 c2) (.bool bt2) (.string t2))
 have hne:r≠w.heap.size:=Om
 have hne2:r≠w.heap.size+1:=Om
 have e6:=AOa (.int .i64 k2) (.string x2) (.slice A2 n2 c2) (.bool bt2) (.string t2) HT2.out.b6
 have e4:=(VH (b:=w.heap.size+1) (.int .i64 k2) (.string x2) (.slice A2 n2 c2) (.bool bt2) (.string t2) (show w.heap.size≠w.heap.size+1 by omega) hl0).trans HT2.out.b4
 have eb:=(VH (b:=w.heap.size+1) (.int .i64 k2) (.string x2) (.slice A2 n2 c2) (.bool bt2) (.string t2) hne2 Om).trans HT2.out.blk
 have eg:=ADz HT2.out.grown (Nat.le_succ _) (.int .i64 k2) (.string x2) (.slice A2 n2 c2) (.bool bt2) (.string t2)
 have es:=AFc w2 (w.heap.size+1) (.int .i64 k2) (.string x2) (.slice A2 n2 c2) (.bool bt2) (.string t2)
 have er:=AHn w2 (w.heap.size+1) (.int .i64 k2) (.string x2) (.slice A2 n2 c2) (.bool bt2) (.string t2)
 have ea:=λgg (h:gg≠w.heap.size+1)=>VH (W:=w2) (.int .i64 k2) (.string x2) (.slice A2 n2 c2) (.bool bt2) (.string t2) h
 generalize U4 w2 (w.heap.size+1) (.int .i64 k2) (.string x2) (.slice A2 n2 c2) (.bool bt2) (.string t2)=w3 at *
 clear p0 p1 p2 p3 p4 z0 z1 z2 z3 z4 f60 f61 f62 f63 f64 f40 f41 f42 f43 f44
 have ER:=Hd er
 have ES:=Hd es
 have EA:=Hd ea
 have TW:M0 w w3 r A n c i2 9 (w2.heap.size+1):=⟨e4,e6,eb,by rw[es];omega,eg⟩
 clear e6 e4 eb eg es er ea
 have HT3:=Hd TW
 obtain⟨p0,p1,p2,p3,p4⟩:=AL TW.b6
 obtain⟨z0,z1,z2,z3,z4⟩:=AL TW.b4
 have f40:=AB TW.b4 0
 have f41:=AB TW.b4 1
 have f42:=AB TW.b4 2
 have f43:=AB TW.b4 3
 have f44:=AB TW.b4 4
 have TK:=Hd (F1 (TW.drew1.rd HR.out Om) 10)
 clear TW
 cases ok2 with
 |false=>
  clear TK
  go_region
  go_wp2_with fail
  refine bodyPost_ret (v:=.tuple #[.agg #[.int .i64 (9:Nat),.string ⟨#[]⟩,.slice (some ⟨w2.heap.size+1,0,none⟩) 1 1,.bool false,.string ⟨#[]⟩],.bool false]) (by simp[results,Tryz.results34,go_sem,z0,z1,z2,z3,z4]) rfl ?_
  refine⟨9,_,_,1,1,false,_,false,i2,rfl,Om,hi2,(BA _ hne _ _ _ _ _).trans HT3.out.blk,I7 (B0 HT3.out.grown Nl _ _ _ _ _),?_⟩
  have hws':w.heap.size+2<=(wc.setCell ⟨r,1,none⟩ (.int .i64 ((i:Int)+1))).heap.size:=HTn.out.size
  obtain⟨p,hP,_⟩:=HOK.out
  have hG:∀(W:World),W.heap.size=w3.heap.size->(∀gg,gg≠w.heap.size->W.heap[gg]?=w3.heap[gg]?)->∃p,PhAt W (λg=>w.heap.size<=g) (NX 9 ⟨#[]⟩ (some ⟨w2.heap.size+1,0,none⟩) 1 1 false ⟨#[]⟩) p/\(false=true->i<i2/\D7 b (ts.drop i) p (ts.drop i2)):=by
   intro W h1 h2;refine⟨.mk 9 ⟨#[]⟩ [p] none,AAo 9 ⟨#[]⟩ ((h2 _ Om).trans ER.out) Om (hP.same ?_ ?_ ?_),λh=>by simp at h⟩
   .have h3:=ES.out;omega
   .intro gg hgg hlt3
    have hgg':(wc.setCell ⟨r,1,none⟩ (.int .i64 ((i:Int)+1))).heap.size<=gg:=hgg;exact(h2 gg Om).trans (EA.out gg Om hlt3)
   intro gg hgg;have hgg':(wc.setCell ⟨r,1,none⟩ (.int .i64 ((i:Int)+1))).heap.size<=gg:=hgg;omega
  clear p0 p1 p2 p3 p4 z0 z1 z2 z3 z4 f40 f41 f42 f43 f44
  refine hG _ ?_ ?_
  .rw[SG]
   simp only[World.setCell,Array.size_modify]
  intro gg h
  rw[SG]
  exact BA _ h _ _ _ _ _
 |true=>
  have hk10:decide ((AZ ts i2:Int)=10)=true->i2<ts.length/\AZ ts i2=10:=by
   intro h;have h2:AZ ts i2=10:=by have:=of_decide_eq_true h;omega
   refine⟨?_,h2⟩;rcases Nat.lt_or_ge i2 ts.length with h1|h1
   .exact h1
   rw[FR Om]at h2;omega
  have HK10:=Hd hk10
  clear hk10
  generalize decide ((AZ ts i2:Int)=10)=dk at *
  go_region_with ((go_at_call 58;refine TK.out.mono ?_;rintro e w4 ⟨rfl,hb4,hg4,hs4⟩;have TW:=HT3.out.drew1.step hlt hg4 hb4;have HG4:=Hd hg4;clear hb4 hg4 hs4 p0 p1 p2 p3 p4 z0 z1 z2 z3 z4 f40 f41 f42 f43 f44;obtain⟨p0,p1,p2,p3,p4⟩:=AL TW.b6;obtain⟨z0,z1,z2,z3,z4⟩:=AL TW.b4;have f40:=AB TW.b4 0;have f41:=AB TW.b4 1;have f42:=AB TW.b4 2;have f43:=AB TW.b4 3;have f44:=AB TW.b4 4;have HT4:=Hd TW;clear TW))
  all_goals
   go_wp2_with fail;refine bodyPost_ret (v:=.tuple #[.agg #[.int .i64 (9:Nat),.string ⟨#[]⟩,.slice (some ⟨w2.heap.size+1,0,none⟩) 1 1,.bool false,.string ⟨#[]⟩],.bool dk]) (by simp[results,Tryz.results34,go_sem,z0,z1,z2,z3,z4]) rfl ?_;have hi5:i2<=(if dk=true then i2+1 else i2):=by split<;>omega
   have hi6:(if dk=true then i2+1 else i2)<=ts.length:=by
    split
    .rename_i hd;have:=(HK10.out hd).1;omega
    exact hi2
   refine⟨9,_,_,1,1,false,_,dk,(if dk=true then i2+1 else i2),rfl,Om,hi6,(BA _ hne _ _ _ _ _).trans HT4.out.blk,B0 HT4.out.grown Nl _ _ _ _ _,?_⟩;obtain⟨p,hP,hT0⟩:=HOK.out;obtain⟨hi3,hT⟩:=hT0 (by first|exact trivial|rfl);have hcs:∀gg,gg≠w.heap.size->gg≠w.heap.size+1->gg≠r->gg<w3.heap.size->(((((w4.setCell ⟨w.heap.size,0,none⟩ (.int .i64 9)).setCell ⟨w.heap.size,1,none⟩ (.string ⟨#[]⟩)).setCell ⟨w.heap.size,2,none⟩ (.slice (some ⟨w2.heap.size+1,0,none⟩) 1 1)).setCell ⟨w.heap.size,3,none⟩ (.bool false)).setCell ⟨w.heap.size,4,none⟩ (.string ⟨#[]⟩)).heap[gg]?=w3.heap[gg]?:=by intro gg g1 g2 g3 g4;rw[BA _ g1];exact HG4.out.block gg g4 (by intro e;simp at e;exact g3 e)
   have hws':w.heap.size+2<=(wc.setCell ⟨r,1,none⟩ (.int .i64 ((i:Int)+1))).heap.size:=HTn.out.size;refine⟨.mk 9 ⟨#[]⟩ [p] none,?_,λhd=>?_⟩
   .refine AAo 9 ⟨#[]⟩ ((hcs _ Om Om Om (by rw[ES.out];omega)).trans ER.out) Om ?_
    refine hP.same ?_ ?_ ?_
    .have h1:=HG4.out.size
     have h2:w3.drew.heap.size=w3.heap.size:=rfl;simp only[World.setCell,Array.size_modify];rw[ES.out]at h2;omega
    .intro gg hgg hlt3
     have hgg':(wc.setCell ⟨r,1,none⟩ (.int .i64 ((i:Int)+1))).heap.size<=gg:=hgg;rw[hcs gg Om Om Om (by rw[ES.out];omega)];exact EA.out gg Om hlt3
    intro gg hgg;have hgg':(wc.setCell ⟨r,1,none⟩ (.int .i64 ((i:Int)+1))).heap.size<=gg:=hgg;omega
   .obtain⟨hlt2,hk2⟩:=HK10.out hd
    rw[if_pos hd];refine⟨Om,?_⟩;rw[HD.out];refine .vrt (y:=(ts[i2]).2) ?_;rw[<-hk2,GA hlt2,<-JM hlt2];exact hT
theorem GV{w:World}{base:Nat}{e:TypeId}{size:Nat}{v:Value}{n:Nat}{xs:List Value}(h:w.ownsRow base e size v n xs):∀g,v.ownBlock=some g->g<w.heap.size:=by
 intro k hk;rcases h.2 with⟨rfl,_⟩|⟨g,cap,cur,rfl,hg,hh,_⟩
 .simp[Value.ownBlock]at hk
 simp[Value.ownBlock]at hk;subst hk;exact(Array.getElem?_eq_some_iff.1 hh).1
theorem PhAt.sameL{w w':World}{P P':Nat->Prop}{cs:List Value}{p:Ph}(h:PhAt w P cs p)(hs:w.heap.size<=w'.heap.size)(hb:∀g,P g->g<w.heap.size->w'.heap[g]?=w.heap[g]?)(hp:∀g,P g->g<w.heap.size->P' g):PhAt w' P' cs p:=by
 induction h with
 |mk k x A n c kids ty rows hn hrow hP hA _ ih=>exact .mk k x A n c kids ty rows hn (AR hrow λg e hg=>hb g (hP g e) hg) (λb e=>hp _ (hP b e) (GV hrow b e)) (λh=>by obtain⟨g,h1,h2⟩:=hA h;exact⟨g,h1,Om⟩) ih
def JS(w:World)(P:Nat->Prop)(rs:List (List Value))(ks:List Ph):Prop:=rs.length=ks.length/\∀(j:Nat) (h:j<ks.length) (h2:j<rs.length),PhAt w P rs[j] ks[j]
theorem JS.nil(w:World)(P:Nat->Prop):JS w P [] []:=⟨rfl,λj h=>absurd h Sm⟩
theorem JS.same{w w':World}{P P':Nat->Prop}{rs:List (List Value)}{ks:List Ph}(h:JS w P rs ks)(hs:w.heap.size<=w'.heap.size)(hb:∀g,P g->g<w.heap.size->w'.heap[g]?=w.heap[g]?)(hp:∀g,P g->g<w.heap.size->P' g):JS w' P' rs ks:=
 ⟨h.1,λj h1 h2=>(h.2 j h1 h2).sameL hs hb hp⟩
theorem JS.snoc{w:World}{P:Nat->Prop}{rs:List (List Value)}{ks:List Ph}{cs:List Value}{p:Ph}(h:JS w P rs ks)(hp:PhAt w P cs p):JS w P (rs++[cs]) (ks++[p]):=by
 refine⟨by simp[h.1],λj h1 h2=>?_⟩;have hl:=h.1;by_cases e:j<ks.length
 .rw[List.getElem_append_left Om,List.getElem_append_left e]
  exact h.2 j e Om
 have:j=ks.length:=by simp at h1;omega
 subst this;rw[List.getElem_append_right Om,List.getElem_append_right Om];simpa[hl] using hp
theorem WR(rs:List (List Value)):(List.range rs.length).flatMap (λj=>(rs[j]?).getD [])=rs.flatten:=by
 have:(List.range rs.length).map (λj=>(rs[j]?).getD [])=rs:=by
  apply List.ext_getElem
  .simp
  intro j h1 h2;simp[List.getElem?_eq_getElem h2]
 rw[List.flatMap,this]
theorem XH{w:World}{P:Nat->Prop}{rs:List (List Value)}{ks:List Ph}{A:Option Addr}{n c:Nat}(q:Nat)(y:ByteArray)(hn:n=ks.length)(hrow:w.ownsRow 0 37 5 (.slice A n c) n rs.flatten)(hP:∀b,(Value.slice A n c).ownBlock=some b->P b)(hk:JS w P rs ks) :
 PhAt w P (NX q y A n c false ⟨#[]⟩) (.mk q y ks none):=by
 obtain⟨A',c',he,hA⟩:=AF hrow
 simp only[Value.slice.injEq]at he
 obtain⟨rfl,_,rfl⟩:=he
 have hl:=hk.1
 refine .mk q y A n _ ks none (λj=>(rs[j]?).getD []) hn ?_ hP hA ?_
 .rw[hn,<-hl,WR,hl,<-hn];exact hrow
 intro j hj
 have hj2:j<rs.length:=Om
 simp only[List.getElem?_eq_getElem hj2,Option.getD_some]
 exact hk.2 j hj hj2
theorem BF{w:World}{base base':Nat}{e:TypeId}{size:Nat}{v:Value}{n:Nat}{xs:List Value}(h:w.ownsRow base e size v n xs)(hb:base'<=base):w.ownsRow base' e size v n xs:=by
 obtain⟨h1,h2⟩:=h;refine⟨h1,?_⟩;rcases h2 with h2|⟨g,cap,cur,rfl,hg,hr⟩
 .exact .inl h2
 exact .inr ⟨g,cap,cur,rfl,Om,hr⟩
def APu(B:Nat)(A:Option Addr)(n c:Nat)(g:Nat):Prop:=B<=g/\(Value.slice A n c).ownBlock≠some g
structure IA(w wx:World)(r:Nat)(A:Option Addr)(n c i q:Nat)(Ak:Option Addr)(nk ck:Nat)(rs:List (List Value))(ks:List Ph):Prop where
 b2:wx.heap[w.heap.size]?=some (.cells z5 37 (0,0))
 b4:wx.heap[w.heap.size+1]?=some (.cells #[.int .i64 q,.string ⟨#[]⟩,.slice Ak nk ck,.bool false,.string ⟨#[]⟩] 37 (0,0))
 blk:wx.heap[r]?=some (.cells #[.slice A n c,.int .i64 i] 67 (0,0))
 size:w.heap.size+2<=wx.heap.size
 grown:w.grownBy wx (some r)
 row:wx.ownsRow (w.heap.size+2) 37 5 (.slice Ak nk ck) nk rs.flatten
 kids:JS wx (APu (w.heap.size+2) Ak nk ck) rs ks
 len:nk=ks.length
theorem IA.rd{w W:World}{r:Nat}{A:Option Addr}{n c i j q:Nat}{Ak:Option Addr}{nk ck:Nat}{rs:List (List Value)}{ks:List Ph}{ts:List AW}(h:IA w W r A n c i q Ak nk ck rs ks)(hr:FW w r A n c ts j)(hi:i<=ts.length):FW W r A n c ts i:=hr.move h.grown h.blk hi
theorem IA.step{w W W':World}{r:Nat}{A:Option Addr}{n c i i' q:Nat}{Ak:Option Addr}{nk ck:Nat}{rs:List (List Value)}{ks:List Ph}(h:IA w W r A n c i q Ak nk ck rs ks)(hr:r<w.heap.size)(hg:W.grownBy W' (some r))(hb:W'.heap[r]?=some (.cells #[.slice A n c,.int .i64 i'] 67 (0,0))):IA w W' r A n c i' q Ak nk ck rs ks:=
 ⟨(hg.block _ (by have:=h.size;omega) (by intro e;simp at e;omega)).trans h.b2,(hg.block _ (by have:=h.size;omega) (by intro e;simp at e;omega)).trans h.b4,hb,Nat.le_trans h.size hg.size,EL h.grown hg,
  AR h.row λg e hlt=>hg.block g hlt (by have:=AG h.row g e;intro e2;simp at e2;omega),
  h.kids.same hg.size (λg hp hlt=>hg.block g hlt (by have:=hp.1;intro e2;simp at e2;omega)) (λg hp _=>hp),h.len⟩
theorem DM(W:World)(o:Obj){g:Nat}(hl:g<W.heap.size):(W.alloc o).heap[g]?=W.heap[g]?:=by show (W.heap.push _)[g]?=_;rw[Array.getElem?_push,if_neg Om]
theorem IA.app{w W W3:World}{r:Nat}{A:Option Addr}{n c i q:Nat}{Ak:Option Addr}{nk ck:Nat}{rs:List (List Value)}{ks:List Ph}{o:Obj}{gv:Nat}{cv:Nat}{cs:List Value}{p:Ph}{B:Nat}
 (h:IA w W r A n c i q Ak nk ck rs ks) (hr:r<w.heap.size)
 (hp:PhAt W (λg=>B<=g) cs p) (hB:∀g,(Value.slice Ak nk ck).ownBlock=some g->g<B) (hB2:w.heap.size+2<=B)
 (hown:W3.ownsRow (w.heap.size+2) 37 5 (.slice (some ⟨gv,0,none⟩) (nk+1) cv) (nk+1) (rs.flatten++cs)) (hg:(W.alloc o).grownBy W3 (Value.slice Ak nk ck).ownBlock)
 (hfr:(Value.slice Ak nk ck).ownBlock=some gv\/gv=W.heap.size+1) :
 IA w (W3.setCell ⟨w.heap.size+1,2,none⟩ (.slice (some ⟨gv,0,none⟩) (nk+1) cv)) r A n c i q (some ⟨gv,0,none⟩) (nk+1) cv (rs++[cs]) (ks++[p]):=by
 have hold:∀g,g<W.heap.size->(Value.slice Ak nk ck).ownBlock≠some g->W3.heap[g]?=W.heap[g]?:=λg hg1 hg2=>by rw[hg.block g (by simp;omega) (λe=>hg2 e.symm)];exact DM W o hg1
 have hbase:=AG h.row
 have hbase3:=AG hown
 have hs:=h.size
 have hs3:=hg.size
 simp at hs3
 have hnb:∀g,g<w.heap.size+2->(Value.slice Ak nk ck).ownBlock≠some g:=λg hg1 e=>by have:=hbase g e;omega
 have ho3:∀g,g≠w.heap.size+1->(W3.setCell ⟨w.heap.size+1,2,none⟩ (.slice (some ⟨gv,0,none⟩) (nk+1) cv)).heap[g]?=W3.heap[g]?:=λg hg=>heap_set _ _ _ hg
 have hkid:∀g,g<W.heap.size->w.heap.size+2<=g->(Value.slice Ak nk ck).ownBlock≠some g->(W3.setCell ⟨w.heap.size+1,2,none⟩ (.slice (some ⟨gv,0,none⟩) (nk+1) cv)).heap[g]?=W.heap[g]?:=λg h1 h2 h3=>by rw[ho3 g Om,hold g h1 h3]
 have hP':∀g,g<W.heap.size->w.heap.size+2<=g->(Value.slice Ak nk ck).ownBlock≠some g->APu (w.heap.size+2) (some ⟨gv,0,none⟩) (nk+1) cv g:=λg h1 h2 h3=>⟨h2,λe=>by
  have e':gv=g:=by simpa[Value.ownBlock] using e
  rcases hfr with h4|h4
  .exact h3 (by rw[h4,e'])
  omega⟩
 refine⟨?_,?_,?_,?_,?_,?_,?_,?_⟩
 .rw[ho3 _ Om,hold _ Om (hnb _ Om)];exact h.b2
 .have h1:=(hold _ Om (hnb _ Om)).trans h.b4
  exact KK h1 2 _
 .rw[ho3 _ Om,hold _ Om (hnb _ Om)];exact h.blk
 .rw[MH];omega
 .refine BS ⟨hg.os.trans h.grown.os,hg.tape.trans h.grown.tape,hg.output.trans h.grown.output,Om,λg hg1 hg2=>?_⟩ _ _ (.inl (Nat.le_succ _))
  rw[hold g Om (hnb _ Om)];exact h.grown.block g hg1 hg2
 .rw[List.flatten_append]
  simp only[List.flatten_cons,List.flatten_nil,List.append_nil];exact AR hown λg e _=>ho3 g (by have:=hbase3 g e;omega)
 .refine JS.snoc (h.kids.same (by rw[MH];omega) (λg hp hlt=>hkid g hlt hp.1 hp.2) (λg hp hlt=>hP' g hlt hp.1 hp.2)) (hp.sameL (by rw[MH];omega) (λg hgB hlt=>hkid g hlt (Nat.le_trans hB2 hgB) (λe=>by have:=hB g e;have:B<=g:=hgB;omega)) (λg hgB hlt=>hP' g hlt (Nat.le_trans hB2 hgB) (λe=>by have:=hB g e;have:B<=g:=hgB;omega)))
 simp[h.len]
theorem Tryz.info37:(Tryz.prog.info? 37).map (λi=>(i.zero,i.size,i.bytes))=some (some (.agg z5),5,72):=Kr
