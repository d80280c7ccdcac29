/- Lemmas for FnVtSigsEntry; no conditions. -/
import Derived.Test.YtbnbadcnfchdhaaGreatDoorP11
import Derived.Deep.AppendLies
import Derived.StillTailTactics
set_option maxRecDepth 100000
set_option maxHeartbeats 16000000
set_option linter.all false
namespace Go.Proofs.YtbnbadcnfchdhaaGreatDoor
open Go.RowKit
theorem Q4(s:ByteArray)(k:Nat):(s.extract k s.size).data.toList=s.data.toList.drop k:=by simp[ByteArray.data_extract,List.extract_eq_take_drop];rw[List.take_of_length_le Sm]
theorem M3(s:ByteArray)(k n:Nat):(s.extract k s.size).extract n (s.extract k s.size).size=s.extract (k+n) s.size:=by refine Go.WideShapes.bytes_inj ?_;rw[Q4,Q4,Q4,List.drop_drop]
theorem JK(s:ByteArray):s.extract 0 s.size=s:=by refine Go.WideShapes.bytes_inj ?_;rw[Q4];rfl
theorem ABw(s:ByteArray)(j m:Nat)(h:j+m<=s.size):(s.extract j s.size).extract 0 m=s.extract j (j+m):=by refine Go.WideShapes.bytes_inj ?_;simp only[ByteArray.data_extract,Array.toList_extract,List.extract_eq_take_drop,List.drop_zero,Nat.sub_zero,List.take_take];rw[show min m (s.size-j)=m by omega,show j+m-j=m by omega]
theorem Tryz.info48:(Tryz.prog.info? 48).map (λi=>(i.zero,i.size,i.bytes))=some (some (.agg #[.int .i64 0,.string ⟨#[]⟩]),2,24):=Kr
def ZG(s:ByteArray)(w:World)(en:Ending)(w':World):Prop:=
 ∃(A:Option Addr) (n c:Nat) (ok:Bool),en=.returned (.tuple #[.slice A n c,.bool ok])/\Below w.heap.size w w'/\
  match EJ s with
  |none=>ok=false
  |some ts=>ok=true/\n=ts.length/\n<=s.size+1/\w'.ownsRow w.heap.size 48 2 (.slice A n c) n (DO ts)
theorem NB{s:ByteArray}{w w':World}(h:EJ s=none)(hb:Below w.heap.size w w'):ZG s w (.returned (.tuple #[.slice none 0 0,.bool false])) w':=
 ⟨none,0,0,false,rfl,hb,by rw[h]⟩
theorem QU{s:ByteArray}{w w':World}{A:Option Addr}{n c:Nat}{ts:List AW}(h:EJ s=some ts)(hb:Below w.heap.size w w')(hn:n=ts.length)(hn2:n<=s.size+1)(ho:w'.ownsRow w.heap.size 48 2 (.slice A n c) n (DO ts)):ZG s w (.returned (.tuple #[.slice A n c,.bool true])) w':=
 ⟨A,n,c,true,rfl,hb,by rw[h];exact⟨rfl,hn,hn2,ho⟩⟩
theorem LO(ts:List AW)(k:Nat)(x:ByteArray):DO (ts++[(k,x)])=DO ts++[.int .i64 k,.string x]:=by unfold DO;simp
theorem NE(s:ByteArray)(hs:s.size<=100000)(w:World):Calls Tryz.prog 10 #[.string s] w (ZG s w):=by
 obtain⟨i0,hi,hz0,hz1,hz2⟩:=info_parts Tryz.info48;have UC:=Hd (λW=>AD4 s hs W);have AC:=Hd (λW=>B4 0 s hs W);have BL:=Hd (λ(c:Int) (w:World)=>JW c w);have HS:=Hd (λ(k:Nat) (h:k<s.size)=>AJ h)
 cases hu:ABd s with
 |false=>have HU:=Hd hu;have HT:=Hd (show EJ s=none by unfold EJ;rw[if_pos (.inl hu)]);clear hu;go_enter Tryz.func10,Tryz.ntmps10;go_wp2_with (go_at_call 30;refine(UC.out _).mono ?_;rintro e w' ⟨rfl,rfl⟩;rw[HU.out]);go_ret2;exact NB HT.out Bl
 |true=>
  have HU:=Hd hu
  cases ha:BT 0 s with
  |true=>have HA:=Hd ha;have HT:=Hd (show EJ s=none by unfold EJ;rw[if_pos (.inr ha)]);clear hu ha;go_enter Tryz.func10,Tryz.ntmps10;go_wp2_with (first|(go_at_call 30;refine(UC.out _).mono ?_;rintro e w' ⟨rfl,rfl⟩;rw[HU.out])|(go_at_call 31;refine(AC.out _).mono ?_;rintro e w' ⟨rfl,rfl⟩;rw[HA.out]));go_ret2;exact NB HT.out Bl
  |false=>
   have HA:=Hd ha;have HT:=Hd (show EJ s=BO s by unfold EJ;rw[if_neg (by rw[hu,ha];simp)]);clear hu ha;have HT0:=Hd (show EJ s=(BO (s.extract 0 s.size)).map (([]:List AW)++·) by rw[HT.out,JK];simp);go_enter Tryz.func10,Tryz.ntmps10;go_wp2_with (first|(go_at_call 30;refine(UC.out _).mono ?_;rintro e w' ⟨rfl,rfl⟩;rw[HU.out])|(go_at_call 31;refine(AC.out _).mono ?_;rintro e w' ⟨rfl,rfl⟩;rw[HA.out]));clear UC AC HU HA;go_loopw [4,5] (λv4 v5 wr=>∃(acc:List AW) (A:Option Addr) (n c k:Nat),v4=.slice A n c/\v5=.int .i64 k/\n<=k/\k<=s.size/\wr.ownsRow w.heap.size 48 2 (.slice A n c) n (DO acc)/\Below w.heap.size w wr/\Hid (n=acc.length)/\Hid (EJ s=(BO (s.extract k s.size)).map (acc++·))) (λ_ v _=>s.size-(intOf v).toNat)
   case atStart=>exact⟨[],none,0,0,0,rfl,rfl,Om,Om,⟨rfl,.inl ⟨rfl,rfl⟩⟩,Bl,rfl,HT0⟩
   obtain⟨acc,A,n,c,k,rfl,rfl,hnk,hk,hown,hbel,HN,HK⟩:=hrel;obtain⟨wo,rfl⟩:∃wo:World,wo=wr:=⟨_,rfl⟩;clear HT HT0;go_upto_block 2 with fail;go_cut [5] from 16 to 27 (λv wx=>wo=wx/\∃k':Nat,k<=k'/\k'<=s.size/\v=.int .i64 k'/\Hid (EJ s=(BO (s.extract k' s.size)).map (acc++·))/\Hid (k'<s.size->AX (AA s k')=false))
   case first=>
    go_wp2_with fail;go_loop [5] (λv=>∃k':Nat,k<=k'/\k'<=s.size/\v=.int .i64 k'/\Hid (EJ s=(BO (s.extract k' s.size)).map (acc++·))) (λv=>s.size-(intOf v).toNat)
    case atStart=>exact⟨k,Om,hk,rfl,HK⟩
    obtain⟨j,hj1,hj,rfl,HJ⟩:=hrel;by_cases hlt:(j:Int)<(s.size:Int)
    .have hjs:j<s.size:=Om
     have ej:=HS.out j hjs
     cases hb:AX (AA s j) with
     |true=>
      have HB:=Hd hb;have HJ2:=Hd (show EJ s=(BO (s.extract (j+1) s.size)).map (acc++·) by rw[HJ.out,F2 (by simp;omega) (by rw[BC];exact hb),M3 s j 1])
      clear hb HJ;generalize AA s j=d at *;go_wp2_with (go_at_call 32;refine(BL.out _ _).mono ?_;rintro e w' ⟨rfl,rfl⟩;rw[HB.out]);go_round
      case rel=>exact⟨j+1,Om,Om,by go_num,HJ2⟩
      simp[intOf];omega
     |false=>have HB:=Hd hb;have HE:=Hd (show j<s.size->AX (AA s j)=false from λ_=>hb);clear hb;go_wp2_with (go_at_call 32;refine(BL.out _ _).mono ?_;rintro e w' ⟨rfl,rfl⟩;rw[HB.out]);go_meet;exact⟨rfl,j,hj1,hj,rfl,HJ,HE⟩
    have HE:=Hd (show j<s.size->AX (AA s j)=false from λh=>absurd h Om);go_wp2_with fail;go_meet;exact⟨rfl,j,hj1,hj,rfl,HJ,HE⟩
   obtain⟨rfl,j,hj1,hj,rfl,HJ,HE⟩:=hcut;clear HK;have hbs:=hbel.size;by_cases hend:j=s.size
   .have q1:((j:Int)==(s.size:Int))=true:=by rw[beq_iff_eq];omega
    have HR:=Hd (show EJ s=some (acc++[(0,⟨#[]⟩)]) by rw[HJ.out,GZ (by simp;omega)];rfl);clear HJ HE;go_wp2_with (at_builtin;refine wpList_append_own _ rfl _ _ 40 rfl w.heap.size 48 i0 (.agg #[.int .i64 0,.string ⟨#[]⟩]) 2 24 Tryz.underlying40 hi hz0 hz1 hz2 rfl De _ _ _ rfl (AD hown (Bl.alloc Nl _)) ⟨wo.heap.size,0,none⟩ 1 1 [.int .i64 0,.string ⟨#[]⟩] rfl rfl ?c1 ?c2 ?c3 ?c4 ?c5 ?_)
    case c1=>exact World.news_of_block (cs:=#[.int .i64 0,.string ⟨#[]⟩]) (t:=48) (fr:=(0,0)) (heap_alloc_new wo _)
    case c2=>simp[Value.oneCell']
    case c3=>unfold maxLen;omega
    case c4=>omega
    case c5=>simp;omega
    intro v' w1 hown1 hgrow hnil;clear hnil;have hbel1:=(hbel.alloc hbs (.cells #[.int .i64 0,.string ⟨#[]⟩] 48)).grown hgrow (by simp;omega) (AG hown);obtain⟨A1,c1,rfl,_⟩:=AF hown1;clear hgrow hown hbel hi hz0 hz1 hz2;go_wp2_with fail;go_ret2;exact QU HR.out hbel1 (by rw[HN.out];simp) Om (by rw[LO];exact hown1)
   have q1:((j:Int)==(s.size:Int))=false:=Bq;have hjs:j<s.size:=Om;have hsz:(s.extract j s.size).size=s.size-j:=by simp
   have hb:AX (AA (s.extract j s.size) 0)=false:=by rw[BC];exact HE.out hjs
   have hp2:0<(s.extract j s.size).size:=by rw[hsz];omega
   have TC:=Hd (λW=>AB0 (s.extract j s.size) (by rw[hsz];omega) hp2 hb W);have h0:(s.extract j s.size).size≠0:=Om;have hnone:=KT h0 hb;have herr:=L9 h0 hb;have hstep:=GW h0 hb;have hlen:=ML hp2 hb;clear hb;rw[M3]at hstep;unfold AMc at TC;generalize hr:B3 (s.extract j s.size)=r at *;obtain⟨m,kd,ok⟩:=r;have hji:(j:Int)<=(s.size:Int):=Om
   cases ok with
   |false=>have HR:=Hd (show EJ s=none by rw[HJ.out,hnone rfl];rfl);clear hnone herr hstep hlen hr HJ HE;go_wp2_with (go_at_call 33;refine(TC.out _).mono ?_;rintro e w' ⟨rfl,hb1⟩;unfold WK);go_ret2;exact NB HR.out (hbel.trans (hb1.mono hbs))
   |true=>
    by_cases hk1:kd=1
    .subst hk1
     have HR:=Hd (show EJ s=some (acc++[(1,⟨#[]⟩)]) by rw[HJ.out,herr rfl rfl];rfl);clear hnone herr hstep hlen hr HJ HE;go_upto_region 13 with(go_at_call 33;refine(TC.out _).mono ?_;rintro e w' ⟨rfl,hb1⟩;unfold WK);have hown0:=AD hown hb1;have hbel0:=hbel.trans (hb1.mono hbs);have hbs0:=hbel0.size;clear hown hbel hb1;go_wp2_with (at_builtin;refine wpList_append_own _ rfl _ _ 40 rfl w.heap.size 48 i0 (.agg #[.int .i64 0,.string ⟨#[]⟩]) 2 24 Tryz.underlying40 hi hz0 hz1 hz2 rfl De _ _ _ rfl (AD hown0 (Bl.alloc Nl _)) ⟨w'.heap.size,0,none⟩ 1 1 [.int .i64 1,.string ⟨#[]⟩] rfl rfl ?c1 ?c2 ?c3 ?c4 ?c5 ?_)
     case c1=>exact World.news_of_block (cs:=#[.int .i64 1,.string ⟨#[]⟩]) (t:=48) (fr:=(0,0)) (heap_alloc_new w' _)
     case c2=>simp[Value.oneCell']
     case c3=>unfold maxLen;omega
     case c4=>omega
     case c5=>simp;omega
     intro v' w1 hown1 hgrow hnil;clear hnil;have hbel1:=(hbel0.alloc hbs0 (.cells #[.int .i64 1,.string ⟨#[]⟩] 48)).grown hgrow (by simp;omega) (AG hown0);obtain⟨A1,c1,rfl,_⟩:=AF hown1;clear hgrow hown0 hbel0 hi hz0 hz1 hz2;go_wp2_with fail;go_ret2;exact QU HR.out hbel1 (by rw[HN.out];simp) Om (by rw[LO];exact hown1)
    have hl:=hlen rfl hk1;have hm1:1<=m:=hl.1;have hm2:j+m<=s.size:=by have:=hl.2.1;omega
    have HR:=Hd (show EJ s=(BO (s.extract (j+m) s.size)).map (acc++[(kd,s.extract j (j+m))]++·) by rw[HJ.out,hstep rfl hk1 ⟨hl.1,hl.2.1⟩,ABw s j m hm2,Option.map_map];congr 1;funext x;simp)
    have q2:((kd:Int)==1)=false:=Bq;clear hnone herr hstep hlen hr HJ HE hl hk1;go_upto_region 14 with(go_at_call 33;refine(TC.out _).mono ?_;rintro e w' ⟨rfl,hb1⟩;unfold WK);have hown0:=AD hown hb1;have hbel0:=hbel.trans (hb1.mono hbs);have hbs0:=hbel0.size;clear hown hbel hb1;have hjmi:(j:Int)+(m:Int)<=(s.size:Int):=Om;go_wp2_with (at_builtin;refine wpList_append_own _ rfl _ _ 40 rfl w.heap.size 48 i0 (.agg #[.int .i64 0,.string ⟨#[]⟩]) 2 24 Tryz.underlying40 hi hz0 hz1 hz2 rfl De _ _ _ rfl (AD hown0 (Bl.alloc Nl _)) ⟨w'.heap.size,0,none⟩ 1 1 [.int .i64 kd,.string (s.extract j (j+m))] rfl rfl ?c1 ?c2 ?c3 ?c4 ?c5 ?_)
    case c1=>exact World.news_of_block (cs:=#[.int .i64 kd,.string (s.extract j (j+m))]) (t:=48) (fr:=(0,0)) (heap_alloc_new w' _)
    case c2=>simp[Value.oneCell']
    case c3=>unfold maxLen;omega
    case c4=>omega
    case c5=>simp;omega
    intro v' w1 hown1 hgrow hnil;clear hnil;have hbel1:=(hbel0.alloc hbs0 (.cells #[.int .i64 kd,.string (s.extract j (j+m))] 48)).grown hgrow (by simp;omega) (AG hown0);obtain⟨A1,c1,rfl,_⟩:=AF hown1;rw[<-LO]at hown1;have HN2:=Hd (show n+1=(acc++[(kd,s.extract j (j+m))]).length by rw[HN.out];simp);clear hgrow hown0 hbel0 hi hz0 hz1 hz2;go_wp2_with fail;go_roundw
    case rel=>exact⟨_,A1,n+1,c1,j+m,rfl,by go_num,Om,hm2,hown1,hbel1,HN2,HR⟩
    simp[intOf];omega
structure FW(w:World)(r:Nat)(A:Option Addr)(n c:Nat)(ts:List AW)(i:Nat):Prop where
 blk:w.heap[r]?=some (.cells #[.slice A n c,.int .i64 i] 67 (0,0))
 le:i<=ts.length
 len:n=ts.length
 row:w.ownsRow 0 48 2 (.slice A n c) n (DO ts)
 ne:(Value.slice A n c).ownBlock≠some r
 small:n<=100001
def AZ(ts:List AW)(i:Nat):Nat:=match ts[i]? with|some t=>t.1|none=>0
theorem M6(w:World)(r:Option Nat):w.grownBy w r:=⟨rfl,rfl,rfl,Nl,λ_ _ _=>rfl⟩
theorem EL{a b c:World}{r:Option Nat}(h:a.grownBy b r)(k:b.grownBy c r):a.grownBy c r:=
 ⟨k.os.trans h.os,k.tape.trans h.tape,k.output.trans h.output,Nat.le_trans h.size k.size,λi hi hn=>(k.block i (Nat.lt_of_lt_of_le hi h.size) hn).trans (h.block i hi hn)⟩
theorem DN{a b:World}(r:Option Nat)(h:Below a.heap.size a b):a.grownBy b r:=⟨h.os,h.tape,h.output,h.size,λi hi _=>h.block i hi⟩
theorem FW.move{w w':World}{r:Nat}{A:Option Addr}{n c:Nat}{ts:List AW}{i j:Nat}(h:FW w r A n c ts i)(hg:w.grownBy w' (some r))(hb:w'.heap[r]?=some (.cells #[.slice A n c,.int .i64 j] 67 (0,0)))(hj:j<=ts.length):FW w' r A n c ts j:=
 ⟨hb,hj,h.len,AR h.row λg hg' hlt=>hg.block g hlt (λe=>h.ne (by rw[hg',e])),h.ne,h.small⟩
theorem FW.lt{w:World}{r:Nat}{A:Option Addr}{n c:Nat}{ts:List AW}{i:Nat}(h:FW w r A n c ts i):r<w.heap.size:=(Array.getElem?_eq_some_iff.1 h.blk).1
theorem FW.keep{w w':World}{r:Nat}{A:Option Addr}{n c:Nat}{ts:List AW}{i:Nat}(h:FW w r A n c ts i)(hb:Below w.heap.size w w'):FW w' r A n c ts i:=
 h.move (DN _ hb) ((hb.block r h.lt).trans h.blk) h.le
theorem FW.cells{w:World}{r:Nat}{A:Option Addr}{n c:Nat}{ts:List AW}{i:Nat}(h:FW w r A n c ts i) :
 w.cell? ⟨r,0,none⟩=some (.slice A n c)/\w.cell? ⟨r,1,none⟩=some (.int .i64 i)/\w.frozen? ⟨r,1,none⟩=false:=by
 refine⟨?_,?_,?_⟩
 .simp[World.cell?,h.blk]
 .simp[World.cell?,h.blk]
 simp[World.frozen?,h.blk]
theorem OG(ts:List AW)(i:Nat)(h:i<ts.length):(DO ts)[i*2]?=some (.int .i64 (ts[i]).1)/\(DO ts)[i*2+1]?=some (.string (ts[i]).2):=by
 have hf:DO ts=(List.range ts.length).flatMap λj=>match ts[j]? with|some t=>[.int .i64 t.1,.string t.2]|none=>[.int .i64 0,.string ⟨#[]⟩]:=by
  unfold DO;have:ts=(List.range ts.length).map λj=>(ts[j]?).getD (0,⟨#[]⟩):=by
   apply List.ext_getElem
   .simp
   intro j h1 h2;simp[List.getElem?_eq_getElem h1]
  conv=>lhs;rw[this]
  rw[List.flatMap_map];simp only[List.flatMap];congr 1;apply List.map_congr_left;intro j hj;have:j<ts.length:=by simpa using hj
  simp[List.getElem?_eq_getElem this]
 have hl:∀j,j<ts.length->(match ts[j]? with|some t=>[Value.int .i64 t.1,.string t.2]|none=>[.int .i64 0,.string ⟨#[]⟩]).length=2:=by intro j _;split<;>rfl
 rw[hf];have h0:=ZM hl i 0 h Om;have h1:=ZM hl i 1 h Om;rw[Nat.add_zero]at h0;rw[h0,h1,List.getElem?_eq_getElem h];exact⟨rfl,rfl⟩
theorem FW.tok{w:World}{r:Nat}{A:Option Addr}{n c:Nat}{ts:List AW}{i:Nat}(h:FW w r A n c ts i)(hi:i<ts.length) :
 ∃g,A=some ⟨g,0,none⟩/\g<w.heap.size/\g≠r/\w.cell? ⟨g,i*2,none⟩=some (.int .i64 (ts[i]).1)/\w.cell? ⟨g,i*2+1,none⟩=some (.string (ts[i]).2):=by
 obtain⟨A',c',he,hA⟩:=AF h.row
 simp only[Value.slice.injEq]at he
 obtain⟨rfl,_,rfl⟩:=he
 obtain⟨g,rfl,hg⟩:=hA (by rw[h.len];omega)
 have hl:=h.len
 have h2:=OG ts i hi
 refine⟨g,rfl,hg,λe=>h.ne (by rw[e];rfl),?_,?_⟩
 .rw[AV h.row g _ rfl _ Om,h2.1]
 rw[AV h.row g _ rfl _ Om,h2.2]
theorem GA{ts:List AW}{i:Nat}(h:i<ts.length):AZ ts i=(ts[i]).1:=by unfold AZ;rw[List.getElem?_eq_getElem h]
theorem FR{ts:List AW}{i:Nat}(h:¬i<ts.length):AZ ts i=0:=by unfold AZ;rw[List.getElem?_eq_none Om]
theorem AFj(w:World)(a b:Nat):(w.drewN a).drewN b=w.drewN (a+b):=by unfold World.drewN;simp[Nat.add_assoc]
def AQg(k:Nat)(w:World)(en:Ending)(w':World):Prop:=en=.returned (.int .i64 k)/\∃m,w'=w.drewN m
theorem FJ{w:World}{r:Nat}{A:Option Addr}{n c:Nat}{ts:List AW}{i:Nat}(h:FW w r A n c ts i) :
 Calls Tryz.prog 35 #[.pointer (some ⟨r,0,none⟩)] w (AQg (AZ ts i) w):=by
 obtain⟨c0,c1,_⟩:=h.cells
 have hl:=h.len
 have hs:=h.small
 by_cases hi:i<ts.length
 .obtain⟨g,rfl,hg,hgr,t0,t1⟩:=h.tok hi
  rw[GA hi];have hii:(i:Int)<(n:Int):=Om;have hi2:decide ((i:Int)<(n:Int))=true:=by simp;omega
  have hi3:decide (i<n)=true:=by simp;omega
  generalize (ts[i]).1=k at *;clear h hl;go_enter Tryz.func35,Tryz.ntmps35;go_wp2_with fail;go_quiet (fail);go_wp2_with fail;go_quiet (fail);go_wp2_with fail;go_ret;exact⟨rfl,_,AFj _ _ _⟩
 rw[FR hi]
 have hii:¬(i:Int)<(n:Int):=Om
 have hi2:decide ((i:Int)<(n:Int))=false:=by simp;omega
 have hi3:decide (i<n)=false:=by simp;omega
 clear h hl
 go_enter Tryz.func35,Tryz.ntmps35
 go_wp2_with fail
 go_quiet (fail)
 go_wp2_with fail
 go_ret
 exact⟨rfl,_,rfl⟩
theorem AC7{w:World}{r:Nat}{v x:Value}(h:w.heap[r]?=some (.cells #[v,x] 67 (0,0)))(y:Value) :
 (w.setCell ⟨r,1,none⟩ y).heap[r]?=some (.cells #[v,y] 67 (0,0))/\w.grownBy (w.setCell ⟨r,1,none⟩ y) (some r)/\(w.setCell ⟨r,1,none⟩ y).heap.size=w.heap.size:=by
 refine⟨?_,⟨rfl,rfl,rfl,by simp[World.setCell],λk _ hk=>Below.heap_setCell _ _ _ _ (λe=>hk (by rw[e]))⟩,by simp[World.setCell]⟩
 simp only[World.setCell,Array.getElem?_modify]
 simp[h]
def APt(w:World)(r:Nat)(A:Option Addr)(n c:Nat)(i:Nat)(ok:Bool)(en:Ending)(w':World):Prop:=
 en=.returned (.bool ok)/\w'.heap[r]?=some (.cells #[.slice A n c,.int .i64 ((if ok then i+1 else i:Nat):Int)] 67 (0,0))/\w.grownBy w' (some r)/\w'.heap.size=w.heap.size
theorem F1{w:World}{r:Nat}{A:Option Addr}{n c:Nat}{ts:List AW}{i:Nat}(h:FW w r A n c ts i)(k:Int) :
 Calls Tryz.prog 58 #[.pointer (some ⟨r,0,none⟩),.int .i64 k] w (APt w r A n c i (decide ((AZ ts i:Int)=k))):=by
 have KC:=FJ h
 have hb:=h.blk
 have hlei:=h.le
 have hnl:=h.len
 have hns:=h.small
 obtain⟨c0,c1,f1⟩:=h.cells
 have HB:=Hd hb
 have HK:=Hd KC
 clear h hb KC
 generalize AZ ts i=q at *
 by_cases hq:(q:Int)=k
 .have t1:((q:Int)==k)=true:=by simp[hq]
  have hd:decide ((q:Int)=k)=true:=by simp[hq]
  rw[hd];clear hq hd;go_enter Tryz.func58,Tryz.ntmps58;go_wp2_with (go_at_call 35;refine HK.out.mono ?_;rintro e w' ⟨rfl,m,rfl⟩);go_ret;obtain⟨s1,s2,s3⟩:=AC7 (w:=w.drewN m) HB.out (.int .i64 ((i+1:Nat):Int));exact⟨rfl,s1,⟨s2.os,s2.tape,s2.output,s2.size,s2.block⟩,s3⟩
 have t1:((q:Int)==k)=false:=by simp[hq]
 have hd:decide ((q:Int)=k)=false:=by simp[hq]
 rw[hd]
 clear hq hd
 go_enter Tryz.func58,Tryz.ntmps58
 go_wp2_with (go_at_call 35;refine HK.out.mono ?_;rintro e w' ⟨rfl,m,rfl⟩)
 go_ret
 exact⟨rfl,HB.out,⟨rfl,rfl,rfl,Nl,λ_ _ _=>rfl⟩,rfl⟩
mutual
inductive D7:Bool->List AW->Ph->List AW->Prop
 |leaf {b:Bool} {k:Nat} {x:ByteArray} {r:List AW} (hk:k=2\/k=3\/k=4\/k=14):D7 b ((k,x)::r) (.mk k x [] none) r
 |typ {x sig:ByteArray} {r r':List AW} {k:Nat} {y:ByteArray} {kids:List Ph} (hn:CA x=(sig,true)) (h:D7 false r (.mk k y kids none) r'):D7 true ((13,x)::r) (.mk k y kids (some sig)) r'
 |vrt {b:Bool} {x y:ByteArray} {r r':List AW} {p:Ph} (h:D7 true r p ((10,y)::r')):D7 b ((9,x)::r) (.mk 9 ⟨#[]⟩ [p] none) r'
 |nil {b:Bool} {k:Nat} {x y:ByteArray} {r:List AW} (hk:k=5\/k=7):D7 b ((k,x)::(k+1,y)::r) (.mk k ⟨#[]⟩ [] none) r
 |lst {b:Bool} {k:Nat} {x:ByteArray} {r r':List AW} {kids:List Ph} (hk:k=5\/k=7) (h:IU k r kids r'):D7 b ((k,x)::r) (.mk k ⟨#[]⟩ kids none) r'
inductive IU:Nat->List AW->List Ph->List AW->Prop
 |one5 {y:ByteArray} {r r':List AW} {p:Ph} (h:D7 true r p ((6,y)::r')):IU 5 r [p] r'
 |cons5 {y:ByteArray} {r r1 r':List AW} {p:Ph} {kids:List Ph} (h:D7 true r p ((11,y)::r1)) (h2:IU 5 r1 kids r'):IU 5 r (p::kids) r'
 |one7 {y z:ByteArray} {r r1 r':List AW} {p q:Ph} (h:D7 true r p ((12,y)::r1)) (h2:D7 true r1 q ((8,z)::r')):IU 7 r [p,q] r'
 |cons7 {y z:ByteArray} {r r1 r2 r':List AW} {p q:Ph} {kids:List Ph} (h:D7 true r p ((12,y)::r1)) (h2:D7 true r1 q ((11,z)::r2)) (h3:IU 7 r2 kids r'):IU 7 r (p::q::kids) r'
end
def ON(t:AW):Prop:=t.1<=14/\t.2.size<=100000/\(t.1=13->0<t.2.size/\(EU t.2\/AA t.2 0≠64))
def MB(ts:List AW):Prop:=∀t,t∈ts->ON t
theorem JM{ts:List AW}{i:Nat}(h:i<ts.length):ts.drop i=((ts[i]).1,(ts[i]).2)::ts.drop (i+1):=List.drop_eq_getElem_cons h
def QZ(w:World)(r:Nat)(A:Option Addr)(n c:Nat)(ts:List AW)(i:Nat)(b:Bool)(en:Ending)(w':World):Prop:=
 ∃(k:Nat) (x:ByteArray) (A1:Option Addr) (n1 c1:Nat) (bt:Bool) (t:ByteArray) (ok:Bool) (i':Nat),
  en=.returned (.tuple #[.agg #[.int .i64 k,.string x,.slice A1 n1 c1,.bool bt,.string t],.bool ok])/\i<=i'/\i'<=ts.length/\
  w'.heap[r]?=some (.cells #[.slice A n c,.int .i64 i'] 67 (0,0))/\w.grownBy w' (some r)/\
  (∃p,PhAt w' (λg=>w.heap.size<=g) (NX k x A1 n1 c1 bt t) p/\(ok=true->i<i'/\D7 b (ts.drop i) p (ts.drop i')))
theorem OV(w:World)(P:Nat->Prop)(k:Nat)(x:ByteArray):PhAt w P (NX k x none 0 0 false ⟨#[]⟩) (.mk k x [] none):=
 .mk k x none 0 0 [] none (λ_=>[]) rfl ⟨rfl,.inl ⟨rfl,rfl⟩⟩ (λb h=>by simp[Value.ownBlock]at h) (λh=>absurd h Om) (λi h=>absurd h Sm)
theorem IE{W:World}{P:Nat->Prop}{k:Nat}{x:ByteArray}{Q:Ph->Prop}:∃p,PhAt W P (NX k x none 0 0 false ⟨#[]⟩) p/\(false=true->Q p):=⟨_,OV W P k x,λh=>by simp at h⟩
theorem ZO{W:World}{P:Nat->Prop}{cs:List Value}{ok:Bool}{Q:Prop}{R:Ph->Prop}(h:∃p,PhAt W P cs p/\(ok=true->Q/\R p)):ok=true->Q/\∃p,R p/\PhAt W P cs p:=λhk=>by obtain⟨p,h1,h2⟩:=h;exact⟨(h2 hk).1,p,(h2 hk).2,h1⟩
theorem N8{W:World}{P:Nat->Prop}{cs:List Value}{Q:Prop}{R:Ph->Prop}(h:Q/\∃p,R p/\PhAt W P cs p):∃p,PhAt W P cs p/\(true=true->Q/\R p):=by obtain⟨h1,p,h2,h3⟩:=h;exact⟨p,h3,λ_=>⟨h1,h2⟩⟩
def z5:Array Value:=#[.int .i64 0,.string ⟨#[]⟩,.slice none 0 0,.bool false,.string ⟨#[]⟩]
def k5(q:Nat):Array Value:=#[.int .i64 q,.string ⟨#[]⟩,.slice none 0 0,.bool false,.string ⟨#[]⟩]
structure UH(w wx:World)(q:Nat):Prop where
 b4:wx.heap[w.heap.size]?=some (.cells z5 37 (0,0))
 b6:wx.heap[w.heap.size+1]?=some (.cells (k5 q) 37 (0,0))
 size:wx.heap.size=w.heap.size+2
 below:Below w.heap.size w wx
theorem KR(w:World)(m q:Nat):UH w (((w.alloc (.cells z5 37)).drewN m).alloc (.cells (k5 q) 37)) q:=by
 refine⟨?_,?_,by simp[World.drewN],?_⟩
 .show ((w.heap.push _).push _)[w.heap.size]?=_
  rw[Array.getElem?_push,if_neg Sm];simp
 .show ((w.heap.push _).push _)[w.heap.size+1]?=_
  rw[Array.getElem?_push,if_pos Sm]
 exact(B7 (Bl.alloc Nl _) m).alloc (by simp[World.drewN]) _
theorem AL{wx:World}{b:Nat}{v0 v1 v2 v3 v4:Value}(h:wx.heap[b]?=some (.cells #[v0,v1,v2,v3,v4] 37 (0,0))) :
 wx.cell? ⟨b,0,none⟩=some v0/\wx.cell? ⟨b,1,none⟩=some v1/\wx.cell? ⟨b,2,none⟩=some v2/\wx.cell? ⟨b,3,none⟩=some v3/\wx.cell? ⟨b,4,none⟩=some v4:=by
 simp[World.cell?,h]
theorem AB{wx:World}{b:Nat}{cs:Array Value}{t:TypeId}(h:wx.heap[b]?=some (.cells cs t (0,0)))(o:Nat):wx.frozen? ⟨b,o,none⟩=false:=by simp[World.frozen?,h]
theorem heap_set(W:World)(p:Addr)(v:Value){b:Nat}(h:b≠p.block):(W.setCell p v).heap[b]?=W.heap[b]?:=Below.heap_setCell W p v b h
theorem BS{w W:World}{r:Nat}(h:w.grownBy W (some r))(p:Addr)(v:Value)(hp:w.heap.size<=p.block\/p.block=r):w.grownBy (W.setCell p v) (some r):=
 ⟨h.os,h.tape,h.output,by simpa[World.setCell] using h.size,λk hk hn=>(heap_set W p v (λe=>by
  rcases hp with hp|hp
  .omega
  exact hn (by rw[e,hp]))).trans (h.block k hk hn)⟩
theorem SG(W:World):W.drew.heap=W.heap:=rfl
theorem I7{w W:World}{r:Nat}(h:w.grownBy W (some r)):w.grownBy W.drew (some r):=⟨h.os,h.tape,h.output,h.size,h.block⟩
theorem AFi{w:World}{r:Nat}{A:Option Addr}{n c:Nat}{ts:List AW}{i:Nat}(h:FW w r A n c ts i)(b:Bool)(hk:AZ ts i=2\/AZ ts i=3\/AZ ts i=4\/AZ ts i=14) :
 Calls Tryz.prog 34 #[.pointer (some ⟨r,0,none⟩),.bool b] w (QZ w r A n c ts i b):=by
 have hi:i<ts.length:=by
  rcases Nat.lt_or_ge i ts.length with h1|h1
  .exact h1
  rw[FR Om]at hk;omega
 have HR:=Hd h
 have hlt:=h.lt
 have hle:=h.le
 have hnl:=h.len
 have hns:=h.small
 obtain⟨g,rfl,hg,hgr,t0,t1⟩:=h.tok hi
 obtain⟨c0,c1,f1⟩:=h.cells
 have hki:=GA hi
 have HT:=Hd (show D7 b (ts.drop i) (.mk (ts[i]).1 (ts[i]).2 [] none) (ts.drop (i+1)) by rw[JM hi];exact .leaf (by rw[<-hki];exact hk))
 have KC:=Hd (λ(W:World) (hb:Below w.heap.size w W)=>FJ (h.keep hb))
 rw[hki]at KC hk
 clear h hki
 generalize (ts[i]).1=q at *
 generalize (ts[i]).2=x at *
 go_enter Tryz.func34,Tryz.ntmps34
 go_upto_region 2 with(go_at_call 35;refine(KC.out _ (Bl.alloc Nl _)).mono ?_;rintro e w' ⟨rfl,m,rfl⟩)
 go_cut [16] from 12 to 15 (λv wx=>v=.int .i64 q/\UH w wx q)
 case first=>clear KC HR hk HT;go_wp2_with fail;go_meet;exact⟨rfl,KR w m q⟩
 obtain⟨rfl,TW⟩:=hcut
 have hwx:Below w.heap.size w wc:=TW.below
 obtain⟨p0,p1,p2,p3,p4⟩:=AL TW.b6
 obtain⟨z0,z1,z2,z3,z4⟩:=AL TW.b4
 have g0:=(hwx.cell (p:=⟨r,0,none⟩) hlt).trans c0
 have g1:=(hwx.cell (p:=⟨r,1,none⟩) hlt).trans c1
 have g2:=(hwx.cell (p:=⟨g,i*2,none⟩) hg).trans t0
 have g3:=(hwx.cell (p:=⟨g,i*2+1,none⟩) hg).trans t1
 have gf:=(hwx.frozen (p:=⟨r,1,none⟩) hlt).trans f1
 have f60:=AB TW.b6 0
 have f6:=AB TW.b6 1
 have f62:=AB TW.b6 2
 have f63:=AB TW.b6 3
 have f64:=AB TW.b6 4
 have f40:=AB TW.b4 0
 have f41:=AB TW.b4 1
 have f42:=AB TW.b4 2
 have f43:=AB TW.b4 3
 have f44:=AB TW.b4 4
 have hii:(i:Int)<(n:Int):=Om
 have hsz:=TW.size
 have HSZ:=Hd hsz
 have HBW:=Hd hwx
 have HRB:=Hd ((hwx.block r hlt).trans HR.out.blk)
 have HTW:=Hd TW
 clear hsz hwx TW c0 c1 t0 t1 f1 KC
 have hne1:r≠w.heap.size:=Om
 have hne2:r≠w.heap.size+1:=Om
 have hne3:g≠w.heap.size:=Om
 have hne4:g≠w.heap.size+1:=Om
 rcases hk with rfl|rfl|rfl|rfl
 all_goals
  go_upto_region 7 with fail;go_still_tail 12,Kr;change wpList _ _ _ _ _ wc.drew;go_wp2_with fail;refine bodyPost_ret (v:=.tuple #[.agg #[.int .i64 (_:Nat),.string x,.slice none 0 0,.bool false,.string ⟨#[]⟩],.bool true]) (by simp[results,Tryz.results34,go_sem,p0,p1,p2,p3,p4,z0,z1,z2,z3,z4,hne1,hne2];rfl) rfl ?_;refine⟨_,x,none,0,0,false,⟨#[]⟩,true,i+1,rfl,Om,Om,?_,?_,N8 ⟨Om,_,HT.out,OV _ _ _ _⟩⟩
  .rw[SG,heap_set _ _ _ hne1,heap_set _ _ _ hne1,heap_set _ _ _ hne1,heap_set _ _ _ hne1,heap_set _ _ _ hne1]
   exact(AC7 ((heap_set _ _ _ hne2).trans (HRB.out)) _).1
  .refine I7 ?_
   refine BS ?_ _ _ (.inl Nl);refine BS ?_ _ _ (.inl Nl);refine BS ?_ _ _ (.inl Nl);refine BS ?_ _ _ (.inl Nl);refine BS ?_ _ _ (.inl Nl);refine BS ?_ _ _ (.inr rfl);refine BS ?_ _ _ (.inl (Nat.le_succ _));exact DN _ HBW.out
theorem OU{b:Bool}{t:AW}{ts r:List AW}{p:Ph}(h:D7 b (t::ts) p r):t.1≠6/\t.1≠8:=by
 cases h with
 |leaf hk=>show _≠6/\_≠8;omega
 |typ hn h=>show (13:Nat)≠6/\(13:Nat)≠8;omega
 |vrt h=>show (9:Nat)≠6/\(9:Nat)≠8;omega
 |nil hk=>show _≠6/\_≠8;omega
 |lst hk h=>show _≠6/\_≠8;omega
theorem UV{k:Nat}{t:AW}{ts r:List AW}{l:List Ph}(h:IU k (t::ts) l r):t.1≠6/\t.1≠8:=by
 cases h with
 |one5 h=>exact OU h
 |cons5 h _=>exact OU h
 |one7 h _=>exact OU h
 |cons7 h _ _=>exact OU h
theorem ABp{b:Bool}{ts:List AW}{p:Ph}{r:List AW}(h:D7 b ts p r):∀p' r',D7 b ts p' r'->p=p'/\r=r':=by
 induction h using D7.rec (motive_2:=λk ts l r _=>∀l' r',IU k ts l' r'->l=l'/\r=r') with
 |leaf hk=>
  intro p' r' h'
  cases h' with
  |leaf _=>exact⟨rfl,rfl⟩
  |typ _ _=>omega
  |vrt _=>omega
  |nil _=>omega
  |lst _ _=>omega
 |typ hn h ih=>
  intro p' r' h'
  cases h' with
  |leaf _=>omega
  |typ hn' h''=>
   obtain⟨e1,e2⟩:=ih _ _ h''
   cases e1
   rw[hn]at hn'
   cases hn'
   exact⟨rfl,e2⟩
  |nil _=>omega
  |lst _ _=>omega
 |vrt h ih=>
  intro p' r' h'
  cases h' with
  |leaf _=>omega
  |vrt h''=>
   obtain⟨e1,e2⟩:=ih _ _ h''
   cases e1;cases e2
   exact⟨rfl,rfl⟩
  |nil _=>omega
  |lst _ _=>omega
 |nil hk=>
  intro p' r' h'
  cases h' with
  |leaf _=>omega
  |typ _ _=>omega
  |vrt _=>omega
  |nil _=>exact⟨rfl,rfl⟩
  |lst _ h''=>have:=UV h'';simp at this;omega
 |lst hk h ih=>
  intro p' r' h'
  cases h' with
  |leaf _=>omega
  |typ _ _=>omega
  |vrt _=>omega
  |nil _=>have:=UV h;simp at this;omega
  |lst _ h''=>obtain⟨e1,e2⟩:=ih _ _ h'';exact⟨by rw[e1],e2⟩
 |one5 h ih=>
  rename_i h'
  cases h' with
  |one5 h''=>obtain⟨e1,e2⟩:=ih _ _ h'';cases e1;cases e2;exact⟨rfl,rfl⟩
  |cons5 h'' _=>obtain⟨e1,e2⟩:=ih _ _ h'';cases e2
 |cons5 h h2 ih ih2=>
  rename_i h'
  cases h' with
  |one5 h''=>obtain⟨e1,e2⟩:=ih _ _ h'';cases e2
  |cons5 h'' h3=>
   obtain⟨e1,e2⟩:=ih _ _ h''
   cases e1;cases e2
   obtain⟨e3,e4⟩:=ih2 _ _ h3;exact⟨by rw[e3],e4⟩
 |one7 h h2 ih ih2=>
  rename_i h'
  cases h' with
  |one7 h'' h3=>
   obtain⟨e1,e2⟩:=ih _ _ h''
   cases e1;cases e2
   obtain⟨e3,e4⟩:=ih2 _ _ h3
   cases e3;cases e4
   exact⟨rfl,rfl⟩
  |cons7 h'' h3 _=>
   obtain⟨e1,e2⟩:=ih _ _ h''
   cases e1;cases e2
   obtain⟨e3,e4⟩:=ih2 _ _ h3
   cases e4
 |cons7 h h2 h3 ih ih2 ih3=>
  rename_i h'
  cases h' with
  |one7 h'' h4=>
   obtain⟨e1,e2⟩:=ih _ _ h''
   cases e1;cases e2
   obtain⟨e3,e4⟩:=ih2 _ _ h4
   cases e4
  |cons7 h'' h4 h5=>
   obtain⟨e1,e2⟩:=ih _ _ h''
   cases e1;cases e2
   obtain⟨e3,e4⟩:=ih2 _ _ h4
   cases e3;cases e4
   obtain⟨e5,e6⟩:=ih3 _ _ h5;exact⟨by rw[e5],e6⟩
