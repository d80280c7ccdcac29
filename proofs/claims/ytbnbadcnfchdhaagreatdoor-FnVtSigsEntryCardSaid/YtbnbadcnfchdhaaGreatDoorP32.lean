/- Lemmas for FnVtSigsEntry; no conditions. -/
import Derived.Test.YtbnbadcnfchdhaaGreatDoorP31
set_option maxRecDepth 100000
set_option maxHeartbeats 16000000
set_option linter.all false
namespace Go.Proofs.YtbnbadcnfchdhaaGreatDoor
open Go.RowKit
section
variable{G:World->Prop}{B:Nat}{w wr:World}{r n c i b k:Nat}{A:Option Addr}{All rest:List AW}{x sg:ByteArray}{K:Act->World->Prop}{Q:Exit->Act->World->Prop}
theorem AN3(hG:DC G B)(hB:B<=r)(H:Hid (X6 G w wr r A n c All i b sg)){i':Nat}{S:ByteArray->Prop}(hQ:MQ w r A n c All i' b S Q)(hd:All.drop i=(5,x)::rest)(h:∀W,MM W r A n c All (i+1)->G W->B<=W.heap.size->Calls Tryz.prog 74 #[.pointer (some ⟨r,0,none⟩),.agg #[.string sg]] W (MkP W r A n c All i' S)):MW r b wr K Q:=by
 unfold MW;intros
 conv=>arg 2;whnf
 have hbl:b<wr.heap.size:=(Array.getElem?_eq_some_iff.1 H.out.sig).1;have hrb:=H.out.lt;have hrl:=H.out.P.lt;go_upto_region 3 with(go_at_call 69;refine(AO H.out.P hd).mono ?_;rintro e w2 ⟨rfl,hp2,hg2⟩);have hs2:w2.heap[b]?=some (.cells #[.string sg] 115 (0,0)):=(hg2.block b hbl (by simp;omega)).trans H.out.sig;have hb3:Below w2.heap.size w2 (w2.alloc (.cells #[.int .u8 5,.string x] 118)):=Bl.alloc Nl _;have hn3:=heap_alloc_new w2 (.cells #[.int .u8 5,.string x] 118);have hs3:=(hb3.block b (by have:=hg2.size;omega)).trans hs2;have HP3:=Hd (hp2.below hb3);have HG3:=Hd (hG _ _ (hG _ _ H.out.G ((⟨hg2.os,hg2.tape,hg2.output,hg2.size,λq hq=>hg2.block q Om (by simp;omega)⟩:Below B wr w2))) (hb3.mono (by have:=hg2.size;omega)));have HGR3:=Hd ((H.out.g.andThen hg2 (λj hj=>.inr hj)).andThen (⟨hb3.os,hb3.tape,hb3.output,hb3.size,λq hq _=>hb3.block q hq⟩:w2.grownBy (w2.alloc (.cells #[.int .u8 5,.string x] 118)) none) (λj hj=>by cases hj));obtain⟨q,hq⟩:∃q,w2.heap.size=q:=⟨_,rfl⟩;have hsz3:(w2.alloc (.cells #[.int .u8 5,.string x] 118)).heap.size=q+1:=by simp[hq]
 have hbq:b<q:=by have:=hg2.size;omega
 rw[hq]at hn3 ⊢;clear hg2 hp2 hb3 hs2 hq;generalize w2.alloc (.cells #[.int .u8 5,.string x] 118)=w3 at *;have x0:=(AY hn3).1;have x1:=(AY hn3).2;have y0:=BE hs3;have HS3:=Hd hs3;have HN3:=Hd hn3;clear hs3 hn3 hd;have HN:=Hd h;clear h;go_wp2_with (go_at_call 74;refine(HN.out _ HP3.out HG3.out Om).mono ?_;rintro e w4 ⟨v,X,rfl,hnode,hX,hp4,hg4⟩);(try simp only[Exit.inBlock,Exit.then]);exact hQ ⟨v,X,rfl,hnode,hX,hp4,HGR3.out.andThen hg4 (λj hj=>.inr hj)⟩
theorem AOx(hG:DC G B)(hB:B<=r)(H:Hid (X6 G w wr r A n c All i b sg)){i':Nat}{S:ByteArray->Prop}(hQ:MQ w r A n c All i' b S Q)(hd:All.drop i=(9,x)::rest)(h:∀W,MM W r A n c All (i+1)->G W->B<=W.heap.size->Calls Tryz.prog 75 #[.pointer (some ⟨r,0,none⟩),.agg #[.string sg]] W (MkP W r A n c All i' S)):MW r b wr K Q:=by
 unfold MW;intros
 conv=>arg 2;whnf
 have hbl:b<wr.heap.size:=(Array.getElem?_eq_some_iff.1 H.out.sig).1;have hrb:=H.out.lt;have hrl:=H.out.P.lt;go_upto_region 3 with(go_at_call 69;refine(AO H.out.P hd).mono ?_;rintro e w2 ⟨rfl,hp2,hg2⟩);have hs2:w2.heap[b]?=some (.cells #[.string sg] 115 (0,0)):=(hg2.block b hbl (by simp;omega)).trans H.out.sig;have hb3:Below w2.heap.size w2 (w2.alloc (.cells #[.int .u8 9,.string x] 118)):=Bl.alloc Nl _;have hn3:=heap_alloc_new w2 (.cells #[.int .u8 9,.string x] 118);have hs3:=(hb3.block b (by have:=hg2.size;omega)).trans hs2;have HP3:=Hd (hp2.below hb3);have HG3:=Hd (hG _ _ (hG _ _ H.out.G ((⟨hg2.os,hg2.tape,hg2.output,hg2.size,λq hq=>hg2.block q Om (by simp;omega)⟩:Below B wr w2))) (hb3.mono (by have:=hg2.size;omega)));have HGR3:=Hd ((H.out.g.andThen hg2 (λj hj=>.inr hj)).andThen (⟨hb3.os,hb3.tape,hb3.output,hb3.size,λq hq _=>hb3.block q hq⟩:w2.grownBy (w2.alloc (.cells #[.int .u8 9,.string x] 118)) none) (λj hj=>by cases hj));obtain⟨q,hq⟩:∃q,w2.heap.size=q:=⟨_,rfl⟩;have hsz3:(w2.alloc (.cells #[.int .u8 9,.string x] 118)).heap.size=q+1:=by simp[hq]
 have hbq:b<q:=by have:=hg2.size;omega
 rw[hq]at hn3 ⊢;clear hg2 hp2 hb3 hs2 hq;generalize w2.alloc (.cells #[.int .u8 9,.string x] 118)=w3 at *;have x0:=(AY hn3).1;have x1:=(AY hn3).2;have y0:=BE hs3;have HS3:=Hd hs3;have HN3:=Hd hn3;clear hs3 hn3 hd;have HN:=Hd h;clear h;go_wp2_with (go_at_call 75;refine(HN.out _ HP3.out HG3.out Om).mono ?_;rintro e w4 ⟨v,X,rfl,hnode,hX,hp4,hg4⟩);(try simp only[Exit.inBlock,Exit.then]);exact hQ ⟨v,X,rfl,hnode,hX,hp4,HGR3.out.andThen hg4 (λj hj=>.inr hj)⟩
theorem AMh(hG:DC G B)(hB:B<=r)(H:Hid (X6 G w wr r A n c All i b sg)){i':Nat}{S:ByteArray->Prop}(hQ:MQ w r A n c All i' b S Q)(hd:All.drop i=(7,x)::rest)(h:∀W,MM W r A n c All (i+1)->G W->B<=W.heap.size->Calls Tryz.prog 76 #[.pointer (some ⟨r,0,none⟩),.agg #[.string sg]] W (MkP W r A n c All i' S)):MW r b wr K Q:=by
 unfold MW;intros
 conv=>arg 2;whnf
 have hbl:b<wr.heap.size:=(Array.getElem?_eq_some_iff.1 H.out.sig).1;have hrb:=H.out.lt;have hrl:=H.out.P.lt;go_upto_region 3 with(go_at_call 69;refine(AO H.out.P hd).mono ?_;rintro e w2 ⟨rfl,hp2,hg2⟩);have hs2:w2.heap[b]?=some (.cells #[.string sg] 115 (0,0)):=(hg2.block b hbl (by simp;omega)).trans H.out.sig;have hb3:Below w2.heap.size w2 (w2.alloc (.cells #[.int .u8 7,.string x] 118)):=Bl.alloc Nl _;have hn3:=heap_alloc_new w2 (.cells #[.int .u8 7,.string x] 118);have hs3:=(hb3.block b (by have:=hg2.size;omega)).trans hs2;have HP3:=Hd (hp2.below hb3);have HG3:=Hd (hG _ _ (hG _ _ H.out.G ((⟨hg2.os,hg2.tape,hg2.output,hg2.size,λq hq=>hg2.block q Om (by simp;omega)⟩:Below B wr w2))) (hb3.mono (by have:=hg2.size;omega)));have HGR3:=Hd ((H.out.g.andThen hg2 (λj hj=>.inr hj)).andThen (⟨hb3.os,hb3.tape,hb3.output,hb3.size,λq hq _=>hb3.block q hq⟩:w2.grownBy (w2.alloc (.cells #[.int .u8 7,.string x] 118)) none) (λj hj=>by cases hj));obtain⟨q,hq⟩:∃q,w2.heap.size=q:=⟨_,rfl⟩;have hsz3:(w2.alloc (.cells #[.int .u8 7,.string x] 118)).heap.size=q+1:=by simp[hq]
 have hbq:b<q:=by have:=hg2.size;omega
 rw[hq]at hn3 ⊢;clear hg2 hp2 hb3 hs2 hq;generalize w2.alloc (.cells #[.int .u8 7,.string x] 118)=w3 at *;have x0:=(AY hn3).1;have x1:=(AY hn3).2;have y0:=BE hs3;have HS3:=Hd hs3;have HN3:=Hd hn3;clear hs3 hn3 hd;have HN:=Hd h;clear h;go_wp2_with (go_at_call 76;refine(HN.out _ HP3.out HG3.out Om).mono ?_;rintro e w4 ⟨v,X,rfl,hnode,hX,hp4,hg4⟩);(try simp only[Exit.inBlock,Exit.then]);exact hQ ⟨v,X,rfl,hnode,hX,hp4,HGR3.out.andThen hg4 (λj hj=>.inr hj)⟩
theorem X6.sets{G:World->Prop}{B:Nat}{w wr:World}{r n c i b:Nat}{A:Option Addr}{All:List AW}{sg:ByteArray}(hG:DC G B)(hB:B<=r)(hp:MM wr r A n c All i)(hs:wr.heap[b]?=some (.cells #[.string sg] 115 (0,0)))(hlt:r<b)(hnew:w.heap.size<=b)(hg:w.grownBy wr (some r))(hGw:G wr)(sg':ByteArray) :
 X6 G w (wr.setCell ⟨b,0,none⟩ (.string sg')) r A n c All i b sg':=by
 have hgs:=C9 wr b 0 (.string sg')
 have hbelow:Below B wr (wr.setCell ⟨b,0,none⟩ (.string sg')):=⟨hgs.os,hgs.tape,hgs.output,hgs.size,λq hq=>heap_set _ _ _ (by show q≠b;omega)⟩
 refine⟨⟨(heap_set _ _ _ (by show r≠b;omega)).trans hp.blk,AR hp.row λg hg2 hl=>heap_set _ _ _ ?_,hp.len,hp.ne,hp.fit,hp.small⟩,AH hs 0 (.string sg'),hlt,hnew,hG _ _ hGw hbelow,hg.andThen hgs (λj hj=>.inl (by cases hj;exact hnew))⟩
 show g≠b
 rintro rfl
 rcases hp.row.2 with⟨h1,_⟩|⟨g',cap,cur,h1,_,h3,_⟩
 .rw[h1]at hg2;cases hg2
 rw[h1]at hg2
 simp only[Value.ownBlock,Option.some.injEq]at hg2
 subst hg2
 rw[hs]at h3;cases h3
theorem AP9(hG:DC G B)(hB:B<=r)(H:Hid (X6 G w wr r A n c All i b sg))(hK:MK G w r A n c All (i+1) b (x.extract 1 x.size) K)(hd:All.drop i=(13,x)::rest)(hsg:sg=⟨#[]⟩)(h1:1<=x.size)(hs1:x.size<=100000)(h2:AA x 0=64):MW r b wr K Q:=by
 unfold MW;intros
 conv=>arg 2;whnf
 have hbl:b<wr.heap.size:=(Array.getElem?_eq_some_iff.1 H.out.sig).1;have hrb:=H.out.lt;have hrl:=H.out.P.lt;go_upto_region 3 with(go_at_call 69;refine(AO H.out.P hd).mono ?_;rintro e w2 ⟨rfl,hp2,hg2⟩);have hs2:w2.heap[b]?=some (.cells #[.string sg] 115 (0,0)):=(hg2.block b hbl (by simp;omega)).trans H.out.sig;have hb3:Below w2.heap.size w2 (w2.alloc (.cells #[.int .u8 13,.string x] 118)):=Bl.alloc Nl _;have hn3:=heap_alloc_new w2 (.cells #[.int .u8 13,.string x] 118);have hs3:=(hb3.block b (by have:=hg2.size;omega)).trans hs2;have HP3:=Hd (hp2.below hb3);have HG3:=Hd (hG _ _ (hG _ _ H.out.G ((⟨hg2.os,hg2.tape,hg2.output,hg2.size,λq hq=>hg2.block q Om (by simp;omega)⟩:Below B wr w2))) (hb3.mono (by have:=hg2.size;omega)));have HGR3:=Hd ((H.out.g.andThen hg2 (λj hj=>.inr hj)).andThen (⟨hb3.os,hb3.tape,hb3.output,hb3.size,λq hq _=>hb3.block q hq⟩:w2.grownBy (w2.alloc (.cells #[.int .u8 13,.string x] 118)) none) (λj hj=>by cases hj));obtain⟨q,hq⟩:∃q,w2.heap.size=q:=⟨_,rfl⟩;have hsz3:(w2.alloc (.cells #[.int .u8 13,.string x] 118)).heap.size=q+1:=by simp[hq]
 have hbq:b<q:=by have:=hg2.size;omega
 rw[hq]at hn3 ⊢;clear hg2 hp2 hb3 hs2 hq;generalize w2.alloc (.cells #[.int .u8 13,.string x] 118)=w3 at *;have x0:=(AY hn3).1;have x1:=(AY hn3).2;have y0:=BE hs3;have HS3:=Hd hs3;have HN3:=Hd hn3;clear hs3 hn3 hd;subst hsg;have hnw:=H.out.new;have e0:=AJ (show 0<x.size by omega);rw[h2]at e0;have g1:(1:Int)<=(x.size:Int):=Om;have g2:(0:Int)<(x.size:Int):=Om;have f0:=AB HS3.out 0;clear h2;go_wp2_with fail;exact hK (X6.sets hG hB HP3.out HS3.out hrb hnw HGR3.out HG3.out _)
theorem ALx(hG:DC G B)(hB:B<=r)(H:Hid (X6 G w wr r A n c All i b sg)){sg':ByteArray}(hK:MK G w r A n c All (i+1) b sg' K)(hd:All.drop i=(13,x)::rest)(hsg:sg=⟨#[]⟩)(h1:1<=x.size)(hs1:x.size<=100000)(h2:AA x 0≠64)(hw:G4 x=(sg',true)):MW r b wr K Q:=by
 unfold MW;intros
 conv=>arg 2;whnf
 have hbl:b<wr.heap.size:=(Array.getElem?_eq_some_iff.1 H.out.sig).1;have hrb:=H.out.lt;have hrl:=H.out.P.lt;go_upto_region 3 with(go_at_call 69;refine(AO H.out.P hd).mono ?_;rintro e w2 ⟨rfl,hp2,hg2⟩);have hs2:w2.heap[b]?=some (.cells #[.string sg] 115 (0,0)):=(hg2.block b hbl (by simp;omega)).trans H.out.sig;have hb3:Below w2.heap.size w2 (w2.alloc (.cells #[.int .u8 13,.string x] 118)):=Bl.alloc Nl _;have hn3:=heap_alloc_new w2 (.cells #[.int .u8 13,.string x] 118);have hs3:=(hb3.block b (by have:=hg2.size;omega)).trans hs2;have HP3:=Hd (hp2.below hb3);have HG3:=Hd (hG _ _ (hG _ _ H.out.G ((⟨hg2.os,hg2.tape,hg2.output,hg2.size,λq hq=>hg2.block q Om (by simp;omega)⟩:Below B wr w2))) (hb3.mono (by have:=hg2.size;omega)));have HGR3:=Hd ((H.out.g.andThen hg2 (λj hj=>.inr hj)).andThen (⟨hb3.os,hb3.tape,hb3.output,hb3.size,λq hq _=>hb3.block q hq⟩:w2.grownBy (w2.alloc (.cells #[.int .u8 13,.string x] 118)) none) (λj hj=>by cases hj));obtain⟨q,hq⟩:∃q,w2.heap.size=q:=⟨_,rfl⟩;have hsz3:(w2.alloc (.cells #[.int .u8 13,.string x] 118)).heap.size=q+1:=by simp[hq]
 have hbq:b<q:=by have:=hg2.size;omega
 rw[hq]at hn3 ⊢;clear hg2 hp2 hb3 hs2 hq;generalize w2.alloc (.cells #[.int .u8 13,.string x] 118)=w3 at *;have x0:=(AY hn3).1;have x1:=(AY hn3).2;have y0:=BE hs3;have HS3:=Hd hs3;have HN3:=Hd hn3;clear hs3 hn3 hd;subst hsg;have hnw:=H.out.new;have e0:=AJ (show 0<x.size by omega);have hin:=CJ x 0;have HZ:=Hd (λ(W:World)=>NR hw W);have g1:(1:Int)<=(x.size:Int):=Om;have g2:(0:Int)<(x.size:Int):=Om;have f0:=AB HS3.out 0;clear hw;generalize AA x 0=c0 at *;have u1:((c0:Int)==64)=false:=by rw[Bn];exact h2
 clear h2;go_wp2_with (go_at_call 77;refine(HZ.out _).mono ?_;rintro e w4 ⟨he,rfl⟩;subst he);exact hK (X6.sets hG hB HP3.out HS3.out hrb hnw HGR3.out HG3.out _)
end
inductive R3(G:World->Prop)(B r:Nat)(A:Option Addr)(n c:Nat)(All:List AW)(sg:ByteArray):Nat->Nat->(ByteArray->Prop)->Prop
 |num {i:Nat} {x:ByteArray} {rest:List AW} (hd:All.drop i=(2,x)::rest) (h:sg.size≠0->AD7 G sg x) (hsg:sg.size<=1000) (hx:x.size<=100000) (ha:∀i,i<x.size->AA x i<128):R3 G B r A n c All sg i (i+1) (λt=>t∈QH sg x)
 |str {i:Nat} {x:ByteArray} {rest:List AW} (hd:All.drop i=(3,x)::rest) (h:AEo G x) (hsg:sg=⟨#[]⟩\/sg=⟨#[115]⟩\/sg=⟨#[103]⟩\/sg=⟨#[111]⟩):R3 G B r A n c All sg i (i+1) (λt=>t∈YS sg)
 |bool {i:Nat} {x:ByteArray} {rest:List AW} (hd:All.drop i=(4,x)::rest) (h:x=⟨#[116,114,117,101]⟩\/x=⟨#[102,97,108,115,101]⟩) (hsg:sg=⟨#[]⟩\/sg=⟨#[98]⟩):R3 G B r A n c All sg i (i+1) (λt=>t=bW)
 |byt {i:Nat} {x:ByteArray} {rest:List AW} (hd:All.drop i=(14,x)::rest) (h:AEx G x) (hsg:sg=⟨#[]⟩\/sg=⟨#[97,121]⟩):R3 G B r A n c All sg i (i+1) (λt=>t=ayW)
 |arr {i i':Nat} {x:ByteArray} {rest:List AW} {S:ByteArray->Prop} (hd:All.drop i=(5,x)::rest) (h:∀W,MM W r A n c All (i+1)->G W->B<=W.heap.size->Calls Tryz.prog 74 #[.pointer (some ⟨r,0,none⟩),.agg #[.string sg]] W (MkP W r A n c All i' S)):R3 G B r A n c All sg i i' S
 |vrt {i i':Nat} {x:ByteArray} {rest:List AW} {S:ByteArray->Prop} (hd:All.drop i=(9,x)::rest) (h:∀W,MM W r A n c All (i+1)->G W->B<=W.heap.size->Calls Tryz.prog 75 #[.pointer (some ⟨r,0,none⟩),.agg #[.string sg]] W (MkP W r A n c All i' S)):R3 G B r A n c All sg i i' S
 |dict {i i':Nat} {x:ByteArray} {rest:List AW} {S:ByteArray->Prop} (hd:All.drop i=(7,x)::rest) (h:∀W,MM W r A n c All (i+1)->G W->B<=W.heap.size->Calls Tryz.prog 76 #[.pointer (some ⟨r,0,none⟩),.agg #[.string sg]] W (MkP W r A n c All i' S)):R3 G B r A n c All sg i i' S
theorem AEl{G:World->Prop}{B:Nat}{w wr:World}{r n c i i' b:Nat}{A:Option Addr}{All:List AW}{sg:ByteArray}{S:ByteArray->Prop}{K:Act->World->Prop}{Q:Exit->Act->World->Prop}(hG:DC G B)(hB:B<=r)(H:Hid (X6 G w wr r A n c All i b sg))(hQ:MQ w r A n c All i' b S Q)(h:R3 G B r A n c All sg i i' S):MW r b wr K Q:=by
 cases h with
 |num hd h hsg hx ha=>exact ANz hG hB H hQ hd h hsg hx ha
 |str hd h hsg=>exact ANk hG hB H hQ hd h hsg
 |bool hd h hsg=>
  rcases hsg with hsg|hsg
  .exact AHk hG hB H hQ hd h hsg
  exact AIs hG hB H hQ hd h hsg
 |byt hd h hsg=>
  rcases hsg with hsg|hsg
  .exact AMj hG hB H hQ hd h hsg
  exact ALf hG hB H hQ hd h hsg
 |arr hd h=>exact AN3 hG hB H hQ hd h
 |vrt hd h=>exact AOx hG hB H hQ hd h
 |dict hd h=>exact AMh hG hB H hQ hd h
def KP(G:World->Prop)(B r:Nat)(A:Option Addr)(n c:Nat)(All:List AW)(i i':Nat)(S:ByteArray->Prop):Prop:=
 R3 G B r A n c All ⟨#[]⟩ i i' S\/∃x sg rest,All.drop i=(13,x)::rest/\CA x=(sg,true)/\1<=x.size/\x.size<=100000/\R3 G B r A n c All sg (i+1) i' S
theorem FD{G:World->Prop}{B:Nat}{w:World}{r n c i i':Nat}{A:Option Addr}{All:List AW}{S:ByteArray->Prop}(hG:DC G B)(hB:B<=r)(hp:MM w r A n c All i)(hw:G w)(h:KP G B r A n c All i i' S):Calls Tryz.prog 45 #[.pointer (some ⟨r,0,none⟩)] w (MkP w r A n c All i' S):=by
 have hrl:=hp.lt;have hb0:Below w.heap.size w (w.alloc (.cells #[.string ⟨#[]⟩] 115)):=Bl.alloc Nl _;have hk:X6 G w (w.alloc (.cells #[.string ⟨#[]⟩] 115)) r A n c All i w.heap.size ⟨#[]⟩:=⟨hp.below hb0,heap_alloc_new _ _,hrl,Nl,hG _ _ hw (hb0.mono Om),⟨hb0.os,hb0.tape,hb0.output,hb0.size,λq hq _=>hb0.block q hq⟩⟩;have HK:=Hd hk;have HM:=Hd h;clear hb0 hk h hp hw;go_enter Tryz.func45,Tryz.ntmps45;go_wp2_with fail;go_loopg [] 1 (λg wr=>∃(i1:Nat) (sg:ByteArray),Hid (X6 G w wr r A n c All i1 w.heap.size sg)/\(g=1/\sg=⟨#[]⟩/\i1=i\/g=0/\Hid (R3 G B r A n c All sg i1 i' S)))
 case atStart=>exact⟨i,_,HK,.inl ⟨rfl,rfl,rfl⟩⟩
 rename_i J0 K0 hJ0 hK0;obtain⟨i1,sg,H,hgs⟩:=hrel;have hQ:MQ w r A n c All i' w.heap.size S (Exit.inBlock 0 (bodyPost Tryz.prog Tryz.f45 (MkP w r A n c All i' S))):=by unfold MQ;intros;rename_i w' h;go_ret2;exact h
 rcases hgs with⟨rfl,rfl,rfl⟩|⟨rfl,HH⟩
 .rcases HM.out with h|⟨x,sg,rest,h1,h2,h3,h4,h5⟩
  .exact AEl hG hB H hQ h
  have hK:∀sg',sg'=sg->MK G w r A n c All (i1+1) w.heap.size sg' K0:=by rintro sg' rfl;unfold MK;intros;rename_i w' h;refine hK0 _ _ (Handed.intro 0 Om (hJ0 _ _ _ ?_));(repeat apply Exists.intro);refine⟨?rel,rfl⟩;exact⟨i1+1,sg',h,.inr ⟨rfl,h5⟩⟩
  by_cases h64:AA x 0=64
  .have:x.extract 1 x.size=sg:=by unfold CA at h2;rw[if_pos h64]at h2;exact(Prod.mk.inj h2).1
   exact AP9 hG hB H (hK _ this) h1 rfl h3 h4 h64
  have:G4 x=(sg,true):=by unfold CA at h2;rw[if_neg h64]at h2;exact h2
  exact ALx hG hB H (hK _ rfl) h1 rfl h3 h4 h64 this
 exact AEl hG hB H hQ HH.out
theorem TH{G:World->Prop}{B:Nat}{w:World}{r n c i i':Nat}{A:Option Addr}{All rest:List AW}{S:ByteArray->Prop}{y sg:ByteArray}(hG:DC G B)(hB:B<=r)(hp:MM w r A n c All i)(hw:G w)(h:KP G B r A n c All i i' S)(hd:All.drop i'=(10,y)::rest)(hsg:sg=⟨#[]⟩\/sg=⟨#[118]⟩) :
 Calls Tryz.prog 75 #[.pointer (some ⟨r,0,none⟩),.agg #[.string sg]] w (MkP w r A n c All (i'+1) (λt=>t=vW)):=by
 have hrl:=hp.lt
 have hb0:Below w.heap.size w (w.alloc (.cells #[.string sg] 115)):=Bl.alloc Nl _
 have hg0:w.grownBy (w.alloc (.cells #[.string sg] 115)) (some r):=⟨hb0.os,hb0.tape,hb0.output,hb0.size,λq hq _=>hb0.block q hq⟩
 have hc0:=heap_alloc_new w (.cells #[.string sg] 115)
 have hs0:(w.alloc (.cells #[.string sg] 115)).heap.size=w.heap.size+1:=by simp
 have HP0:=Hd (hp.below hb0)
 have HG0:=Hd (hG _ _ hw (hb0.mono Om))
 have HM:=Hd h
 have HD:=Hd hd
 clear hp hw h hd
 go_enter Tryz.func75,Tryz.ntmps75
 go_upto_region 1 with fail
 generalize w.alloc (.cells #[.string sg] 115)=wb at *
 have HGR0:=Hd hg0
 have HC0:=Hd hc0
 clear hg0 hb0 hc0
 go_upto_region 5 with(first
  |(go_at_call 45;refine(FD hG hB HP0.out HG0.out HM.out).mono ?_;rintro e w2 ⟨v,X,rfl,hnode,hX,hp2,hg2⟩;obtain⟨T,xv,f,rfl,_⟩:=hnode;have HP2:=Hd hp2;have HGR2:=Hd (HGR0.out.andThen hg2 (λj hj=>.inr hj));have HC2:=Hd ((hg2.block w.heap.size Om (by simp;omega)).trans HC0.out);have HS2:=Hd (show w.heap.size<w2.heap.size by have:=hg2.size;omega);clear hX hp2 hg2)
  |(go_at_call 69;refine(AO HP2.out HD.out).mono ?_;rintro e w3 ⟨rfl,hp3,hg3⟩))
 have hsz2:=HS2.out
 have hc3:=(hg3.block w.heap.size hsz2 (by simp;omega)).trans HC2.out
 have hgr3:=HGR2.out.andThen hg3 (λj hj=>.inr hj)
 have hs3:=hg3.size
 have hb4:Below w3.heap.size w3 (w3.alloc (.cells #[.int .u8 10,.string y] 118)):=Bl.alloc Nl _
 have hn4:=heap_alloc_new w3 (.cells #[.int .u8 10,.string y] 118)
 have hc4:=(hb4.block w.heap.size Om).trans hc3
 have HP4:=Hd (hp3.below hb4)
 have HGR4:=Hd (hgr3.andThen (⟨hb4.os,hb4.tape,hb4.output,hb4.size,λq hq _=>hb4.block q hq⟩:w3.grownBy (w3.alloc (.cells #[.int .u8 10,.string y] 118)) none) (λj hj=>by cases hj))
 obtain⟨q,hq⟩:∃q,w3.heap.size=q:=⟨_,rfl⟩
 have hs4:(w3.alloc (.cells #[.int .u8 10,.string y] 118)).heap.size=q+1:=by simp[hq]
 rw[hq]at hn4 hs3 ⊢
 clear hg3 hp3 hb4 hc3 hgr3 hq
 generalize w3.alloc (.cells #[.int .u8 10,.string y] 118)=w4 at *
 have x0:=(AY hn4).1
 have HC4:=Hd hc4
 have HN4:=Hd hn4
 clear hc4 hn4
 go_upto_region 8 with fail
 have hb5:Below w4.heap.size w4 (w4.alloc (.cells #[.iface T xv] 163)):=Bl.alloc Nl _
 have hc5:=(hb5.block w.heap.size Om).trans HC4.out
 have HP5:=Hd (HP4.out.below hb5)
 have HGR5:=Hd (HGR4.out.andThen (⟨hb5.os,hb5.tape,hb5.output,hb5.size,λq hq _=>hb5.block q hq⟩:w4.grownBy (w4.alloc (.cells #[.iface T xv] 163)) none) (λj hj=>by cases hj))
 clear hb5
 generalize w4.alloc (.cells #[.iface T xv] 163)=w5 at *
 have x5:=BE hc5
 clear x0 hc5
 rcases hsg with rfl|rfl
 all_goals
  go_wp2_with fail
  first|(rw[Exit.noGoto_ret];go_ret2)|go_ret2
  exact⟨_,_,rfl,AI9 _,λt=>by rw[List.mem_singleton];exact Iff.rfl,HP5.out,HGR5.out⟩
section
theorem EY{X L:List ByteArray}(h:X.Nodup)(hs:∀t,t∈X->t∈L):X.length<=L.length:=by
 induction X generalizing L with
 |nil=>simp
 |cons x X ih=>
  obtain⟨h1,h2⟩:=List.nodup_cons.1 h;obtain⟨a,b,rfl⟩:=List.append_of_mem (hs x Sm);have:=ih h2 (L:=a++b) (λt ht=>by
   have:=hs t (by simp[ht]);simp only[List.mem_append,List.mem_cons]at this ⊢;rcases this with h|rfl|h
   .exact .inl h
   .exact absurd ht h1
   exact .inr h)
  simp only[List.length_append,List.length_cons]at this ⊢;omega
def Few(S:ByteArray->Prop)(m:Nat):Prop:=(∃L:List ByteArray,L.length<=m/\∀t,S t->t∈L)/\∀t,S t->t.size<=900
theorem Few.len{S:ByteArray->Prop}{m:Nat}(h:Few S m){X:List ByteArray}(hx:X.Nodup)(hs:∀t,t∈X↔S t):X.length<=m:=by obtain⟨⟨L,h1,h2⟩,_⟩:=h;exact Nat.le_trans (EY hx λt ht=>h2 t ((hs t).1 ht)) h1
theorem Tryz.info77:(Tryz.prog.info? 77).map (λi=>(i.zero,i.size,i.bytes))=some (some .nilIface,1,16):=Kr
structure T5(G:World->Prop)(w wr:World)(r:Nat)(A:Option Addr)(n c:Nat)(All:List AW)(i b:Nat)(m:Value)(Ac:Option Addr)(nc cc:Nat)(X:List ByteArray):Prop where
 P:MM wr r A n c All i
 G:G wr
 g:w.grownBy wr (some r)
 new:w.heap.size<b
 rb:r<w.heap.size
 blk:wr.heap[b]?=some (.cells #[m,.slice Ac nc cc] 160 (0,0))
 set:DX wr m X
 row:∃xs,wr.ownsRow (b+1) 77 1 (.slice Ac nc cc) nc xs
section
variable{G:World->Prop}{B:Nat}{w wr W:World}{r n c i b nc cc:Nat}{A Ac:Option Addr}{All:List AW}{m:Value}{X:List ByteArray}
theorem T5.lt(h:T5 G w wr r A n c All i b m Ac nc cc X):b<wr.heap.size:=(Array.getElem?_eq_some_iff.1 h.blk).1
theorem T5.step(hG:DC G B)(hB:B<=r)(h:T5 G w wr r A n c All i b m Ac nc cc X)(hg:wr.grownBy W (some r)){j:Nat}(hp:MM W r A n c All j):T5 G w W r A n c All j b m Ac nc cc X:=by
 have hlt:=h.lt;have hnew:=h.new;have hrb:=h.rb;obtain⟨xs,hrow⟩:=h.row;exact⟨hp,hG _ _ h.G ⟨hg.os,hg.tape,hg.output,hg.size,λq hq=>hg.block q (by have:=h.P.lt;omega) (by simp;omega)⟩,h.g.andThen hg (λj hj=>.inr hj),h.new,h.rb,
  (hg.block b hlt (by simp;omega)).trans h.blk,h.set.maps (h.P.maps hg),xs,AR hrow λg hg2 hl=>hg.block g hl (by have:=AG hrow g hg2;simp;omega)⟩
theorem T5.below(hG:DC G B)(hB:B<=r)(h:T5 G w wr r A n c All i b m Ac nc cc X)(hb:Below wr.heap.size wr W):T5 G w W r A n c All i b m Ac nc cc X:=
 h.step hG hB ⟨hb.os,hb.tape,hb.output,hb.size,λq hq _=>hb.block q hq⟩ (h.P.below hb)
theorem T5.cells(h:T5 G w wr r A n c All i b m Ac nc cc X):wr.cell? ⟨b,0,none⟩=some m/\wr.cell? ⟨b,1,none⟩=some (.slice Ac nc cc)/\wr.frozen? ⟨b,0,none⟩=false/\wr.frozen? ⟨b,1,none⟩=false:=by obtain⟨h0,h1⟩:=AY h.blk;exact⟨h0,h1,AB h.blk 0,AB h.blk 1⟩
theorem T5.setM(hG:DC G B)(hB:B<=r)(h:T5 G w wr r A n c All i b m Ac nc cc X){m':Value}{X':List ByteArray}(hs:DX wr m' X'):T5 G w (wr.setCell ⟨b,0,none⟩ m') r A n c All i b m' Ac nc cc X':=by
 have hnew:=h.new;have hrb:=h.rb;have hgs:=C9 wr b 0 m';obtain⟨xs,hrow⟩:=h.row;have hmk:BZ wr (wr.setCell ⟨b,0,none⟩ m'):=BZ.grown hgs (λq hq=>by cases hq;exact⟨_,_,_,h.blk⟩);refine⟨⟨(heap_set _ _ _ (by show r≠b;omega)).trans h.P.blk,AR h.P.row λg hg2 hl=>heap_set _ _ _ ?_,h.P.len,h.P.ne,h.P.fit,h.P.small⟩,hG _ _ h.G ⟨hgs.os,hgs.tape,hgs.output,hgs.size,λq hq=>heap_set _ _ _ (by show q≠b;omega)⟩,h.g.andThen hgs (λj hj=>.inl (by cases hj;omega)),h.new,h.rb,AH h.blk 0 m',hs.maps hmk,xs,AR hrow λg hg2 hl=>heap_set _ _ _ (by have:=AG hrow g hg2;show g≠b;omega)⟩;show g≠b;rintro rfl;rcases h.P.row.2 with⟨h1,_⟩|⟨g',cap,cur,h1,_,h3,_⟩
 .rw[h1]at hg2;cases hg2
 rw[h1]at hg2;simp only[Value.ownBlock,Option.some.injEq]at hg2;subst hg2;rw[h.blk]at h3;cases h3
end
inductive Els(G:World->Prop)(B r:Nat)(A:Option Addr)(n c:Nat)(All:List AW):Nat->List (ByteArray->Prop)->Nat->Prop
 |one {i i1:Nat} {S:ByteArray->Prop} {y:ByteArray} {rest:List AW} (h:KP G B r A n c All i i1 S) (hn:∃k x l,All.drop i=(k,x)::l/\2<=k/\k<=14/\k≠6/\k≠8) (hd:All.drop i1=(6,y)::rest):Els G B r A n c All i [S] (i1+1)
 |cons {i i1 i':Nat} {S:ByteArray->Prop} {Ss:List (ByteArray->Prop)} {y:ByteArray} {rest:List AW} (h:KP G B r A n c All i i1 S) (hn:∃k x l,All.drop i=(k,x)::l/\2<=k/\k<=14/\k≠6/\k≠8) (hd:All.drop i1=(11,y)::rest) (hr:Els G B r A n c All (i1+1) Ss i'):Els G B r A n c All i (S::Ss) i'
theorem Els.inv{G:World->Prop}{B r:Nat}{A:Option Addr}{n c:Nat}{All:List AW}{i i':Nat}{Ss:List (ByteArray->Prop)}(h:Els G B r A n c All i Ss i'):∃S Ss' i1 y rest k,Ss=S::Ss'/\KP G B r A n c All i i1 S/\(∃k x l,All.drop i=(k,x)::l/\2<=k/\k<=14/\k≠6/\k≠8)/\All.drop i1=(k,y)::rest/\(k=6/\Ss'=[]/\i'=i1+1\/k=11/\Els G B r A n c All (i1+1) Ss' i'):=by
 cases h with
 |one h hn hd=>exact⟨_,_,_,_,_,6,rfl,h,hn,hd,.inl ⟨rfl,rfl,rfl⟩⟩
 |cons h hn hd hr=>exact⟨_,_,_,_,_,11,rfl,h,hn,hd,.inr ⟨rfl,hr⟩⟩
theorem Els.first{G:World->Prop}{B r:Nat}{A:Option Addr}{n c:Nat}{All:List AW}{i i':Nat}{Ss:List (ByteArray->Prop)}(h:Els G B r A n c All i Ss i'):∃k x l,All.drop i=(k,x)::l/\2<=k/\k<=14/\k≠6/\k≠8:=by
 cases h with
 |one _ hn _=>exact hn
 |cons _ hn _ _=>exact hn
def FP(acc:ByteArray->Prop)(Ss:List (ByteArray->Prop)):ByteArray->Prop:=Ss.foldl (λa S=>GE (R4 S) a) acc
theorem RT{N acc:ByteArray->Prop}(h:¬∃s,N s):GE N acc=acc:=by funext t;apply propext;unfold GE;exact⟨λg=>g.elim (λg=>g.2) (λg=>absurd g.1 h),λg=>.inl ⟨h,g⟩⟩
theorem PW{N acc:ByteArray->Prop}(h:∃s,N s)(h2:¬∃s,acc s):GE N acc=N:=by funext t;apply propext;unfold GE;exact⟨λg=>g.elim (λg=>absurd h g.1) (λg=>g.2.1),λg=>.inr ⟨h,g,λk=>absurd k h2⟩⟩
theorem RJ{N acc:ByteArray->Prop}(h:∃s,N s)(h2:∃s,acc s):GE N acc=λt=>N t/\acc t:=by funext t;apply propext;unfold GE;exact⟨λg=>g.elim (λg=>absurd h g.1) (λg=>⟨g.2.1,g.2.2 h2⟩),λg=>.inr ⟨h,g.1,λ_=>g.2⟩⟩
theorem JR{X:List ByteArray}{S:ByteArray->Prop}(h:∀t,t∈X↔S t):(∃s,S s)↔X≠[]:=by
 constructor
 .rintro ⟨s,hs⟩ e
  have:=(h s).2 hs;rw[e]at this;simp at this
 intro hx
 cases X with
 |nil=>exact absurd rfl hx
 |cons q l=>exact⟨q,(h q).1 Sm⟩
theorem RM{S:ByteArray->Prop}:(∃s,R4 S s)↔∃s,S s:=⟨λ⟨_,q,h,_⟩=>⟨q,h⟩,λ⟨q,h⟩=>⟨_,q,h,rfl⟩⟩
theorem T5.mid{G:World->Prop}{w wr W:World}{r n c i b nc cc:Nat}{A Ac:Option Addr}{All:List AW}{m:Value}{X:List ByteArray}(h:T5 G w wr r A n c All i b m Ac nc cc X)(hg:wr.grownBy W (Value.slice Ac nc cc).ownBlock):W.heap[b]?=some (.cells #[m,.slice Ac nc cc] 160 (0,0)):=by obtain⟨xs0,hrow0⟩:=h.row;have hob:=AG hrow0;exact(hg.block b h.lt (λe=>by have:=hob b e.symm;omega)).trans h.blk
theorem DX.form{w:World}{v:Value}{X:List ByteArray}(h:DX w v X):∃o,v=.map o:=by
 rcases h with⟨rfl,_⟩|⟨b,rfl,_⟩
 .exact⟨_,rfl⟩
 exact⟨_,rfl⟩
theorem AEw{w:World}{v:Value}{Y Z:List ByteArray}(h:DX w v Z)(hz:∀t,t∈Z↔∃s∈Y,t=ET s)(hy:Y.length<=5000):Z.length<=10000:=by have:=EY (L:=Y.map ET) h.nd (λt ht=>by obtain⟨s,h1,h2⟩:=(hz t).1 ht;exact List.mem_map.2 ⟨s,h1,h2.symm⟩);simp at this;omega
theorem T5.setC{G:World->Prop}{B:Nat}{w wr W:World}{r n c i b nc cc nc' cc':Nat}{A Ac Ac':Option Addr}{All:List AW}{m:Value}{X:List ByteArray}(hG:DC G B)(hB:B<=r)(h:T5 G w wr r A n c All i b m Ac nc cc X)(hg:wr.grownBy W (Value.slice Ac nc cc).ownBlock){xs:List Value}(hrow:W.ownsRow (b+1) 77 1 (.slice Ac' nc' cc') nc' xs):T5 G w (W.setCell ⟨b,1,none⟩ (.slice Ac' nc' cc')) r A n c All i b m Ac' nc' cc' X:=by
 have hnew:=h.new;have hrb:=h.rb;have hlt:=h.lt;obtain⟨xs0,hrow0⟩:=h.row;have hob:=AG hrow0;have hblk:W.heap[b]?=some (.cells #[m,.slice Ac nc cc] 160 (0,0)):=(hg.block b hlt (λe=>by have:=hob b e.symm;omega)).trans h.blk;have hgs:=C9 W b 1 (.slice Ac' nc' cc');have hmk1:BZ wr W:=BZ.grown hg (λq hq=>by
  rcases hrow0.2 with⟨h1,_⟩|⟨g',cap,cur,h1,_,h3,_⟩
  .rw[h1]at hq;cases hq
  rw[h1]at hq;simp only[Value.ownBlock,Option.some.injEq]at hq;subst hq;exact⟨_,_,_,h3⟩)
 have hmk2:BZ W (W.setCell ⟨b,1,none⟩ (.slice Ac' nc' cc')):=BZ.grown hgs (λq hq=>by cases hq;exact⟨_,_,_,hblk⟩);have hgr:w.grownBy W (some r):=by refine h.g.andThen hg (λj hj=>.inl ?_);have:=hob j hj;omega
 have hpr:W.heap[r]?=some (.cells #[.slice A n c,.int .i64 i] 84 (0,0)):=(hg.block r h.P.lt (λe=>by have:=hob r e.symm;omega)).trans h.P.blk;have hprow:W.ownsRow 0 118 2 (.slice A n c) n (FH All):=AR h.P.row λg hg2 hl=>hg.block g hl (λe=>by
  rcases hrow0.2 with⟨h1,_⟩|⟨g',cap,cur,h1,_,h3,_⟩
  .rw[h1]at e;cases e
  rw[h1]at e;simp only[Value.ownBlock,Option.some.injEq]at e;subst e;rcases h.P.row.2 with⟨k1,_⟩|⟨g2,cap2,cur2,k1,_,k3,_⟩
  .rw[k1]at hg2;cases hg2
  rw[k1]at hg2;simp only[Value.ownBlock,Option.some.injEq]at hg2;subst hg2;rw[h3]at k3;cases k3)
 refine⟨⟨(heap_set _ _ _ (by show r≠b;omega)).trans hpr,AR hprow λg hg2 hl=>heap_set _ _ _ ?_,h.P.len,h.P.ne,h.P.fit,h.P.small⟩,hG _ _ (hG _ _ h.G ⟨hg.os,hg.tape,hg.output,hg.size,λq hq=>hg.block q Om (λe=>by have:=hob q e.symm;omega)⟩) ⟨hgs.os,hgs.tape,hgs.output,hgs.size,λq hq=>heap_set _ _ _ (by show q≠b;omega)⟩,hgr.andThen hgs (λj hj=>.inl (by cases hj;omega)),h.new,h.rb,AH hblk 1 (.slice Ac' nc' cc'),(h.set.maps hmk1).maps hmk2,xs,AR hrow λg hg2 hl=>heap_set _ _ _ (by have:=AG hrow g hg2;show g≠b;omega)⟩;show g≠b;rintro rfl;rcases hprow.2 with⟨h1,_⟩|⟨g',cap,cur,h1,_,h3,_⟩
 .rw[h1]at hg2;cases hg2
 rw[h1]at hg2;simp only[Value.ownBlock,Option.some.injEq]at hg2;subst hg2;rw[hblk]at h3;cases h3
end
