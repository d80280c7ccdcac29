/- Lemmas for FnVtSigsEntry; no conditions. -/
import Derived.Test.YtbnbadcnfchdhaaGreatDoorP27
import Derived.Test.YtbnbadcnfchdhaaGreatDoorP28
import Derived.Sort.OwnSorted
set_option maxRecDepth 100000
set_option maxHeartbeats 16000000
set_option linter.all false
namespace Go.Proofs.YtbnbadcnfchdhaaGreatDoor
open Go.RowKit
section
variable(w:World){ops:Array Oper}{rest:List Oper}{o:Oper}{a:Act}{Q:Exit->Act->World->Prop}
theorem L0(hg:o.guard=none)(m:Operand)(hop:o.op=Op.range 9 m)(s:ByteArray)(hm:a.eval m=.string s)
 (hK:∀w',w'.heap[w.heap.size]?=some (.stringIter s 0)->w.grownBy w' none->w'.heap.size=w.heap.size+1->wpList Tryz.prog ops Q rest (a.put o.dst (.pointer (some ⟨w.heap.size,0,none⟩))) w') :
 wpList Tryz.prog ops Q (o::rest) a w:=by
 refine wpList_plain hg λK' hK'=>?_
 have hrun:(Instr.range 9 (.string s)).run Tryz.prog w=.ok (.pointer (some ⟨w.heap.size,0,none⟩)) (w.alloc (.stringIter s 0)):=by simp[Instr.range,run_underlying Tryz.u9]
 unfold Oper.wp
 simp[execOp,hop,hm,hrun,Result.andThen]
 exact hK' _ _ (hK _ (heap_alloc_new _ _) (World.grownBy_alloc w _ none) Sm)
theorem EI(hg:o.guard=none)(it:Operand)(hop:o.op=Op.next it true)(s:ByteArray)(r i:Nat)(hit:a.eval it=.pointer (some ⟨r,0,none⟩))(h:w.heap[r]?=some (.stringIter s i))(ha:i<s.size->AA s i<128)
 (hDone:¬i<s.size->wpList Tryz.prog ops Q rest (a.put o.dst (.tuple #[.bool false])) w)
 (hMore:∀w',i<s.size->w'.heap[r]?=some (.stringIter s (i+1))->w.grownBy w' (some r)->w'.heap.size=w.heap.size->wpList Tryz.prog ops Q rest (a.put o.dst (.tuple #[.bool true,.int .i64 i,.int .i32 (AA s i)])) w') :
 wpList Tryz.prog ops Q (o::rest) a w:=by
 refine wpList_plain hg λK' hK'=>?_
 unfold Oper.wp
 by_cases hi:i<s.size
 .have h128:(s[i]'hi).toNat<128:=by have:=AJ hi;have:=ha hi;omega
  have hset:=MapKept.heap_set (o':=.stringIter s (i+1)) h;have hrun:(Instr.next (.pointer (some ⟨r,0,none⟩)) true o.type).run Tryz.prog w=.ok (.tuple #[.bool true,.int .i64 i,.int .i32 (AA s i)]) (ChangeMaps.setBlock w r (.stringIter s (i+1))):=by simp only[Instr.next,getObj,setObj,Sem.run_bind,Sem.run,h,Result.andThen,hi,if_true,decode_ascii s i hi h128];simp[goInt,Sem.run,h,ChangeMaps.setBlock,AJ hi]
  simp[execOp,hop,hit,hrun,Result.andThen];refine hK' _ _ (hMore _ hi hset.1 ⟨rfl,rfl,rfl,by simp[ChangeMaps.setBlock],λk _ hk=>hset.2 k (λe=>hk (by rw[e]))⟩ (by simp[ChangeMaps.setBlock]))
 have hrun:(Instr.next (.pointer (some ⟨r,0,none⟩)) true o.type).run Tryz.prog w=.ok (.tuple #[.bool false]) w:=by simp[Instr.next,getObj,Sem.run,h,hi]
 simp[execOp,hop,hit,hrun,Result.andThen]
 exact hK' _ _ (hDone hi)
end
theorem R7(s:ByteArray)(hs:s.size<=100000)(ha:∀i,i<s.size->AA s i<128)(w:World) :
 Calls Tryz.prog 243 #[.string s,.string ⟨#[46,101]⟩] w λe w'=>∃k:Int,e=.returned (.int .i64 k)/\decide (0<=k)=NV s/\Below w.heap.size w w':=by
 have HA:=Hd ha
 clear ha
 go_enter Tryz.func243,Tryz.ntmps243
 go_wp2_with (first|(at_range;refine L0 _ rfl _ rfl s rfl ?_;intro w1 hi1 hg1 hsz1)|go_in)
 go_frame
 have hb1:Below w.heap.size w w1:=Bl.grown hg1 Nl (λk hk=>by cases hk)
 clear hg1
 go_loopg [] s.size (λg wr=>∃i:Nat,i+g=s.size/\Hid (wr.heap[w.heap.size]?=some (.stringIter s i))/\Hid (Below w.heap.size w wr)/\w.heap.size<wr.heap.size/\Hid (NV s=OH s i))
 case atStart=>exact⟨0,Om,hi1,hb1,Om,rfl⟩
 obtain⟨i,hg,HI,HB,hsz,HD⟩:=hrel
 go_upto_block 2 with(first
  |(at_next;refine EI _ rfl _ rfl s w.heap.size i rfl HI.out (HA.out i) (λhn=>?_) (λw2 hlt hi2 hg2 hsz2=>?_);rotate_left;have hb2:=HB.out.grown hg2 (Nat.le_of_lt hsz) (λk hk=>by cases hk;exact Nl);rotate_right)
  |(at_range;refine L0 _ rfl _ rfl ⟨#[46,101]⟩ rfl ?_;intro w3 hi3 hg3 hsz3))
 .go_ret
  refine⟨-1,rfl,?_,HB.out⟩;rw[HD.out,VK hn];rfl
 have hi3s:=(hg3.block w.heap.size Om Sm).trans hi2
 have hb3:=hb2.grown hg3 Om (λk hk=>by cases hk)
 have HDI:=HD
 obtain⟨c,hc⟩:∃c,AA s i=c:=⟨_,rfl⟩
 have HC:=Hd hc
 rw[hc]
 clear hc hg3 hg2 hi2 HI HD HB hb2
 have hlt2:w.heap.size<w2.heap.size:=Om
 clear hsz2 hsz
 go_wp2_with fail
 go_frame
 go_loopg [] 2 (λg wx=>∃j:Nat,j+g=2/\Hid (wx.heap[w2.heap.size]?=some (.stringIter ⟨#[46,101]⟩ j))/\Hid (wx.heap[w.heap.size]?=some (.stringIter s (i+1)))/\Hid (Below w.heap.size w wx)/\w2.heap.size<wx.heap.size/\Hid ((1<=j->c≠46)/\(2<=j->c≠101)))
 case atStart=>exact⟨0,Om,hi3,hi3s,hb3,Om,⟨λh=>Om,λh=>Om⟩⟩
 obtain⟨j,hgj,HJ,HS,HBx,hszx,HN⟩:=hrel
 obtain rfl|rfl|rfl:j=0\/j=1\/j=2:=Om
 .have e0:AA ⟨#[46,101]⟩ 0=46:=rfl
  by_cases h46:c=46
  .have u:((c:Int)==46)=true:=by rw[beq_iff_eq];exact h46
   have HH:=Hd h46;clear h46;go_wp2_with (at_next;refine EI _ rfl _ rfl ⟨#[46,101]⟩ w2.heap.size 0 rfl HJ.out (λ_=>by decide) (λhn=>absurd De hn) (λw4 hlt4 hi4 hg4 hsz4=>?_);rw[e0]);go_ret;refine⟨i,rfl,?_,HBx.out.grown hg4 Om (λk hk=>by cases hk;omega)⟩;rw[HDI.out,QE hlt (.inl (HC.out.trans HH.out))];exact decide_eq_true Om
  have u:((c:Int)==46)=false:=by rw[Bn];exact h46
  have HH:=Hd h46;clear h46;go_wp2_with (at_next;refine EI _ rfl _ rfl ⟨#[46,101]⟩ w2.heap.size 0 rfl HJ.out (λ_=>by decide) (λhn=>absurd De hn) (λw4 hlt4 hi4 hg4 hsz4=>?_);rw[e0]);go_roundg 1
  case rel=>exact⟨1,Om,hi4,(hg4.block _ Om (by simp;omega)).trans HS.out,HBx.out.grown hg4 Om (λk hk=>by cases hk;omega),Om,⟨λ_=>HH.out,λh=>Om⟩⟩
  omega
 .have e0:AA ⟨#[46,101]⟩ 1=101:=rfl
  by_cases h46:c=101
  .have u:((c:Int)==101)=true:=by rw[beq_iff_eq];exact h46
   have HH:=Hd h46;clear h46;go_wp2_with (at_next;refine EI _ rfl _ rfl ⟨#[46,101]⟩ w2.heap.size 1 rfl HJ.out (λ_=>by decide) (λhn=>absurd De hn) (λw4 hlt4 hi4 hg4 hsz4=>?_);rw[e0]);go_ret;refine⟨i,rfl,?_,HBx.out.grown hg4 Om (λk hk=>by cases hk;omega)⟩;rw[HDI.out,QE hlt (.inr (HC.out.trans HH.out))];exact decide_eq_true Om
  have u:((c:Int)==101)=false:=by rw[Bn];exact h46
  have HH:=Hd h46;clear h46;go_wp2_with (at_next;refine EI _ rfl _ rfl ⟨#[46,101]⟩ w2.heap.size 1 rfl HJ.out (λ_=>by decide) (λhn=>absurd De hn) (λw4 hlt4 hi4 hg4 hsz4=>?_);rw[e0]);go_roundg 0
  case rel=>exact⟨2,Om,hi4,(hg4.block _ Om (by simp;omega)).trans HS.out,HBx.out.grown hg4 Om (λk hk=>by cases hk;omega),Om,⟨λ_=>HN.out.1 Om,λ_=>HH.out⟩⟩
  omega
 go_wp2_with (at_next;refine EI _ rfl _ rfl ⟨#[46,101]⟩ w2.heap.size 2 rfl HJ.out (λh=>absurd h De) (λhn=>?_) (λw4 hlt4 hi4 hg4 hsz4=>absurd hlt4 De))
 go_roundg (s.size-(i+1))
 case rel=>exact⟨i+1,Om,HS,HBx,Om,by show NV s=_;rw[HDI.out,O7 hlt (by rw[HC.out];intro h;exact h.elim (HN.out.1 Om) (HN.out.2 Om))]⟩
 omega
theorem PD(s:ByteArray)(hs:s.size<=100000)(ha:∀i,i<s.size->AA s i<128)(w:World) :
 Calls Tryz.prog 241 #[.string s,.string ⟨#[46,101]⟩] w λe w'=>e=.returned (.bool (NV s))/\Below w.heap.size w w':=by
 have HI:=Hd (λ(W:World)=>R7 s hs ha W)
 clear ha
 go_enter Tryz.func241,Tryz.ntmps241
 go_wp2_with (go_at_call 243;refine(HI.out _).mono ?_;rintro e w2 ⟨k,rfl,hk,hb⟩;have HK:=Hd hk;clear hk)
 go_ret
 exact⟨by rw[<-HK.out]<;>rfl,hb⟩
def TT:List ByteArray:=[⟨#[121]⟩,⟨#[110]⟩,⟨#[113]⟩,⟨#[105]⟩,⟨#[117]⟩,⟨#[120]⟩,⟨#[116]⟩,⟨#[100]⟩]
def AAb:List ByteArray:=[⟨#[115]⟩,⟨#[103]⟩,⟨#[111]⟩]
def QH(sg st:ByteArray):List ByteArray:=if sg.size=0 then(if NV st=true then [⟨#[100]⟩] else TT) else [sg]
def YS(sg:ByteArray):List ByteArray:=if sg.size=0 then AAb else [sg]
theorem EX(w:World){ops:Array Oper}{rest:List Oper}{o:Oper}{a:Act}{Q:Exit->Act->World->Prop}(hg:o.guard=none)(m x y:Operand)(hop:o.op=Op.insert 87 m x y)(b n:Nat)(X:List ByteArray)(s:ByteArray)(hm:a.eval m=.map (some b))(hx:a.eval x=.agg #[.string s])(hy:a.eval y=.bool true)
 (h:CD w b n X) (hn:n<=100000) (hs:s.size<=100000)
 (hK:∀w' X',CD w' b (n+1) X'->(∀t,t∈X'↔t∈X\/t=s)->w.grownBy w' (some b)->wpList Tryz.prog ops Q rest (a.put o.dst undef) w') :
 wpList Tryz.prog ops Q (o::rest) a w:=DP w hg m x y (.inr hop) b n X s hm hx hy h hn hs hK
theorem O6{s:ByteArray}(h:s.size=0):s=⟨#[]⟩:=by
 apply B8;have:s.data.toList.length=0:=by simpa using h
 simp[List.length_eq_zero_iff.1 this]
theorem LS{s:ByteArray}(h:¬s.size=0):s.toList.isEmpty=false:=by rw[ByteArray.toList_eq,<-Bool.not_eq_true,List.isEmpty_iff];intro e;exact h (by simpa using congrArg List.length e)
theorem AL5{wx:World}{b:Nat}{v0 v1:Value}{t:TypeId}(h:wx.heap[b]?=some (.cells #[v0,v1] t (0,0))):wx.cell? ⟨b,0,none⟩=some v0/\wx.cell? ⟨b,1,none⟩=some v1:=by refine⟨?_,?_⟩<;>simp[World.cell?,h]
theorem WM(sg st:ByteArray)(vl:Value)(hg:sg.size<=1000)(hs:st.size<=100000)(ha:∀i,i<st.size->AA st i<128)(w:World):Calls Tryz.prog 238 #[.agg #[.string sg,.string st,vl]] w (TN (QH sg st) w):=by
 have hmm:=@run_makeMap Tryz.prog;have HD:=Hd (λ(W:World)=>PD st hs ha W);obtain⟨c0,c1,c2⟩:=DT (heap_alloc_new w (.cells #[.string sg,.string st,vl] 151));have HB0:=Hd (show Below w.heap.size w (w.alloc (.cells #[.string sg,.string st,vl] 151)) from Bl.alloc Nl _);have HSW:=Hd (show (w.alloc (.cells #[.string sg,.string st,vl] 151)).heap.size=w.heap.size+1 by simp);clear ha;go_enter Tryz.func238,Tryz.ntmps238;go_upto_region 1 with fail;generalize w.alloc (.cells #[.string sg,.string st,vl] 151)=wb at *;by_cases hz:sg.size=0
 .have hx:QH sg st=if NV st=true then [⟨#[100]⟩] else TT:=if_pos hz
  obtain rfl:=O6 hz;have HX:=Hd hx;clear hx hz;generalize NV st=d at *
  cases d with
  |true=>
   go_upto_if 13 with(go_at_call 241;refine(HD.out _).mono ?_;rintro e w2 ⟨rfl,hb2⟩;have HS2:=Hd (C6 w2);have HB2:=Hd ((HB0.out.trans (hb2.mono (by rw[HSW.out];omega))).alloc (by have:=hb2.size;rw[HSW.out]at this;omega) (.map #[] 0));have HSL2:=Hd (show w.heap.size<=w2.heap.size by have:=hb2.size;rw[HSW.out]at this;omega);clear hb2);go_wp2_with (refine DP _ rfl _ _ _ (.inr rfl) w2.heap.size 0 [] ⟨#[100]⟩ rfl rfl rfl HS2.out Om De ?_;intro w3 Y3 hset hy hg3)
   first|(rw[Exit.noGoto_ret];go_ret)|go_ret
   exact⟨_,Y3,rfl,.inr ⟨_,rfl,hset.tight⟩,(λt=>by rw[hy,show QH ⟨#[]⟩ st=[⟨#[100]⟩] by rw[HX.out];simp];simp),HB2.out.grown hg3 (by have:=HSL2.out;simp;omega) (λk hk=>by cases hk;exact HSL2.out)⟩
  |false=>
   go_wp2_with (first
    |(go_at_call 241;refine(HD.out _).mono ?_;rintro e w2 ⟨rfl,hb2⟩;have HB2:=Hd (HB0.out.trans (hb2.mono (by rw[HSW.out];omega)));clear hb2)
    |(go_at_call 242;refine(YE _).mono ?_;rintro e w3 ⟨m,Y,rfl,h1,h2,h3⟩;have HB3:=Hd (HB2.out.trans (h3.mono HB2.out.size));have HM:=Hd (⟨h1,h2⟩:DX w3 m Y/\∀t,t∈Y↔t∈TT);clear h1 h2 h3))
   first|(rw[Exit.noGoto_ret];go_ret)|go_ret
   exact⟨m,Y,rfl,HM.out.1,(λt=>by rw[show QH ⟨#[]⟩ st=TT by rw[HX.out];simp];exact HM.out.2 t),HB3.out⟩
 have hx:QH sg st=[sg]:=if_neg hz;have HX:=Hd hx;have hne:¬sg=ByteArray.empty:=λh=>hz (by rw[h];rfl);have hne2:(sg.toList==(⟨#[]⟩:ByteArray).toList)=false:=ADu (λh=>hz (by rw[h];rfl));have HS2:=Hd (C6 wb);have HB2:=Hd (HB0.out.alloc (by rw[HSW.out];omega) (.map #[] 0));have HSL2:=Hd (show w.heap.size<=wb.heap.size by rw[HSW.out];omega);clear hx;have hie:=LS hz;have c0m:(wb.alloc (.map #[] 0)).cell? ⟨w.heap.size,0,none⟩=some (.string sg):=(((Below.refl wb.heap.size wb).alloc Nl _).cell (p:=⟨w.heap.size,0,none⟩) (by show w.heap.size<_;rw[HSW.out];omega)).trans c0;clear hne hne2;go_wp2_with (refine EX _ rfl _ _ _ rfl wb.heap.size 0 [] sg rfl rfl rfl HS2.out Om Om ?_;intro w3 Y3 hset hy hg3)
 first|(rw[Exit.noGoto_ret];go_ret)|go_ret
 exact⟨_,Y3,rfl,.inr ⟨_,rfl,hset.tight⟩,(λt=>by rw[hy,HX.out];simp),HB2.out.grown hg3 (by have:=HSL2.out;simp;omega) (λk hk=>by cases hk;exact HSL2.out)⟩
theorem WL(sg st:ByteArray)(vl:Value)(hg:sg.size<=1000)(w:World):Calls Tryz.prog 245 #[.agg #[.string sg,.string st,vl]] w (TN (YS sg) w):=by
 have hmm:=@run_makeMap Tryz.prog;obtain⟨c0,c1,c2⟩:=DT (heap_alloc_new w (.cells #[.string sg,.string st,vl] 156));have HB0:=Hd (show Below w.heap.size w (w.alloc (.cells #[.string sg,.string st,vl] 156)) from Bl.alloc Nl _);have HSW:=Hd (show (w.alloc (.cells #[.string sg,.string st,vl] 156)).heap.size=w.heap.size+1 by simp);go_enter Tryz.func245,Tryz.ntmps245;go_upto_region 1 with fail;generalize w.alloc (.cells #[.string sg,.string st,vl] 156)=wb at *;by_cases hz:sg.size=0
 .have HX:=Hd (show YS sg=AAb from if_pos hz)
  obtain rfl:=O6 hz;clear hz;go_wp2_with (go_at_call 248;refine(X9 _).mono ?_;rintro e w3 ⟨m,Y,rfl,h1,h2,h3⟩;have HB3:=Hd (HB0.out.trans (h3.mono HB0.out.size));have HM:=Hd (⟨h1,h2⟩:DX w3 m Y/\∀t,t∈Y↔t∈AAb);clear h1 h2 h3)
  first|(rw[Exit.noGoto_ret];go_ret)|go_ret
  exact⟨m,Y,rfl,HM.out.1,(λt=>by rw[HX.out];exact HM.out.2 t),HB3.out⟩
 have HX:=Hd (show YS sg=[sg] from if_neg hz);have HS2:=Hd (C6 wb);have HB2:=Hd (HB0.out.alloc (by rw[HSW.out];omega) (.map #[] 0));have HSL2:=Hd (show w.heap.size<=wb.heap.size by rw[HSW.out];omega);have hie:=LS hz;have c0m:(wb.alloc (.map #[] 0)).cell? ⟨w.heap.size,0,none⟩=some (.string sg):=(((Below.refl wb.heap.size wb).alloc Nl _).cell (p:=⟨w.heap.size,0,none⟩) (by show w.heap.size<_;rw[HSW.out];omega)).trans c0;go_wp2_with (refine EX _ rfl _ _ _ rfl wb.heap.size 0 [] sg rfl rfl rfl HS2.out Om Om ?_;intro w3 Y3 hset hy hg3)
 first|(rw[Exit.noGoto_ret];go_ret)|go_ret
 exact⟨_,Y3,rfl,.inr ⟨_,rfl,hset.tight⟩,(λt=>by rw[hy,HX.out];simp),HB2.out.grown hg3 (by have:=HSL2.out;simp;omega) (λk hk=>by cases hk;exact HSL2.out)⟩
theorem WU{w:World}{m:Value}{X:List ByteArray}(h:DX w m X)(v:Value):Calls Tryz.prog 251 #[.agg #[m,v]] w (TN X w):=by have c0:(w.alloc (.cells #[m,v] 160)).cell? ⟨w.heap.size,0,none⟩=some m:=(AL5 (heap_alloc_new w (.cells #[m,v] 160))).1;have HB0:=Hd (show Below w.heap.size w (w.alloc (.cells #[m,v] 160)) from Bl.alloc Nl _);have HV:=Hd (h.below HB0.out);clear h;go_enter Tryz.func251,Tryz.ntmps251;go_wp2_with fail;go_ret;exact⟨m,X,rfl,HV.out,λt=>Iff.rfl,HB0.out⟩
def D5(k v:ByteArray):ByteArray:=⟨#[97,123]⟩++k++v++⟨#[125]⟩
theorem I3(k v:ByteArray):(D5 k v).size=k.size+v.size+3:=by unfold D5;simp only[ByteArray.size_append];show 2+k.size+v.size+1=_;omega
theorem AIk{a b y:Nat}(h:a<b):a*y+y<=b*y:=by have:=Nat.mul_le_mul_right y (show a+1<=b from h);rw[Nat.succ_mul]at this;exact this
theorem BE{wx:World}{b:Nat}{v0:Value}{t:TypeId}(h:wx.heap[b]?=some (.cells #[v0] t (0,0))):wx.cell? ⟨b,0,none⟩=some v0:=by simp[World.cell?,h]
structure DW(w wr:World)(m1 m2 vl:Value):Prop where
 below:Below w.heap.size w wr
 box:wr.heap[w.heap.size]?=some (.cells #[m1,m2,vl] 167 (0,0))
 size:w.heap.size+2<=wr.heap.size
theorem DW.grown{w wr w':World}{m1 m2 vl:Value}{row:Option Nat}(h:DW w wr m1 m2 vl)(hg:wr.grownBy w' row)(hrow:∀k,row=some k->w.heap.size+1<=k):DW w w' m1 m2 vl:=
 ⟨h.below.grown hg (by have:=h.size;omega) (λk hk=>by have:=hrow k hk;omega),(hg.block _ (by have:=h.size;omega) (λe=>by have:=hrow _ e.symm;omega)).trans h.box,Nat.le_trans h.size hg.size⟩
theorem DW.set{w wr:World}{m1 m2 vl m:Value}{X:List ByteArray}(h:DW w wr m1 m2 vl)(hs:DX w m X):DX wr m X:=hs.below h.below
theorem UT{w:World}{m1 m2:Value}{X Y:List ByteArray}(h1:DX w m1 X)(h2:DX w m2 Y)(vl:Value)(hx:∀s∈X,s.size<=1000)(hy:∀s∈Y,s.size<=1000)(hn:X.length*Y.length<=90000) :
 Calls Tryz.prog 259 #[.agg #[m1,m2,vl]] w λe w'=>∃m Z,e=.returned m/\DX w' m Z/\(∀t,t∈Z↔∃k∈X,∃v∈Y,t=D5 k v)/\Below w.heap.size w w':=by
 have hmm:=@run_makeMap Tryz.prog
 have HX:=Hd hx
 have HY:=Hd hy
 have HN:=Hd hn
 have HV1:=Hd h1
 have HV2:=Hd h2
 obtain⟨c0,c1,c2⟩:=DT (heap_alloc_new w (.cells #[m1,m2,vl] 167))
 have hb0:Below w.heap.size w (w.alloc (.cells #[m1,m2,vl] 167)):=Bl.alloc Nl _
 have hs0:(w.alloc (.cells #[m1,m2,vl] 167)).heap.size=w.heap.size+1:=by simp
 clear hx hy hn h1 h2
 go_enter Tryz.func259,Tryz.ntmps259
 go_upto_region 1 with fail
 have hst:CD ((w.alloc (.cells #[m1,m2,vl] 167)).alloc (.map #[] 0)) (w.heap.size+1) 0 []:=by have:=C6 (w.alloc (.cells #[m1,m2,vl] 167));rw[hs0]at this;exact this
 have hbl:Below (w.heap.size+1) (w.alloc (.cells #[m1,m2,vl] 167)) ((w.alloc (.cells #[m1,m2,vl] 167)).alloc (.map #[] 0)):=Bl.alloc (by rw[hs0];exact Nl) _
 have hs1:((w.alloc (.cells #[m1,m2,vl] 167)).alloc (.map #[] 0)).heap.size=w.heap.size+2:=by simp
 go_upto_region 2 with fail
 have hdw:DW w ((w.alloc (.cells #[m1,m2,vl] 167)).alloc (.map #[] 0)) m1 m2 vl:=⟨hb0.trans (hbl.mono Om),(hbl.block _ Om).trans (heap_alloc_new _ _),by rw[hs1];exact Nl⟩
 generalize (w.alloc (.cells #[m1,m2,vl] 167)).alloc (.map #[] 0)=wb at *
 clear hb0 hbl hs0 c0 c1 c2 hmm
 obtain⟨c0,c1,c2⟩:=DT hdw.box
 go_wp2_with (at_range;refine FA _ rfl _ rfl m1 X rfl (hdw.set HV1.out) ?_;intro w2 hR0 hg0 hsz0;rw[hs1]at hR0 hsz0 ⊢)
 go_frame
 have hdw2:=hdw.grown hg0 (λk hk=>by cases hk)
 have hst2:CD w2 (w.heap.size+1) 0 []:=hst.same (hg0.block _ Om Sm)
 clear hg0 c0 c1 c2 hs1 hdw hst
 go_loopg [] X.length (λg wr=>∃(c n:Nat) (todo Z:List ByteArray),c=g/\n+c*Y.length<=90000/\Hid (CK wr m1 (w.heap.size+2) X todo c)/\Hid (CD wr (w.heap.size+1) n Z)/\Hid (∀t,t∈Z↔∃k∈X,k∉todo/\∃v∈Y,t=D5 k v)/\Hid (DW w wr m1 m2 vl)/\w.heap.size+3<=wr.heap.size)
 case atStart=>exact⟨_,0,X,[],rfl,by have:=HN.out;omega,hR0,hst2,(λt=>by simp;intro x h1 h2;exact absurd h1 h2),hdw2,Om⟩
 obtain⟨c,n,todo,Z,rfl,hng,HR,HSt,HZ,HD,hsz⟩:=hrel
 obtain⟨c0,c1,c2⟩:=DT HD.out.box
 go_upto_region 5 with(first
  |(at_next;refine FQ _ rfl _ rfl m1 (w.heap.size+2) _ X todo rfl HR.out (λh0=>?_) (λs x w3 cnt todo1 hmem hf hR3 hlt hg3 hsz3 hen=>?_);rotate_left;rotate_right))
 .go_ret
  exact⟨_,Z,rfl,.inr ⟨_,rfl,HSt.out.tight⟩,λt=>by rw[HZ.out,h0];simp,HD.out.below⟩
 have hga:w3.grownBy (w3.alloc (.cells #[.string s] 115)) none:=World.grownBy_alloc _ _ _
 have hD4:=(HD.out.grown hg3 (λk hk=>by cases hk;omega)).grown hga (λk hk=>by cases hk)
 have hR4:CK (w3.alloc (.cells #[.string s] 115)) m1 (w.heap.size+2) X todo1 cnt:=hR3.grown (B:=w.heap.size) hga Om Sm (λb hb=>HV1.out.lt hb) Om (λk hk=>by cases hk)
 have hst4:CD (w3.alloc (.cells #[.string s] 115)) (w.heap.size+1) n Z:=(HSt.out.same (hg3.block _ Om Sm)).same (hga.block _ Om Sm)
 have hcl4:(w3.alloc (.cells #[.string s] 115)).heap[wr.heap.size]?=some (.cells #[.string s] 115 (0,0)):=by rw[<-hsz3];exact heap_alloc_new _ _
 have hsz4:(w3.alloc (.cells #[.string s] 115)).heap.size=wr.heap.size+1:=by simp[hsz3]
 clear hga hen hg3 hR3 hsz3 c0 c1 c2
 obtain⟨q,hq⟩:∃q,wr.heap.size=q:=⟨_,rfl⟩
 rw[hq]at hcl4 hsz4 hsz ⊢
 clear hq
 generalize w3.alloc (.cells #[.string s] 115)=w4 at *
 obtain⟨c0,c1,c2⟩:=DT hD4.box
 go_wp2_with (at_range;refine FA _ rfl _ rfl m2 Y rfl (hD4.set HV2.out) ?_;intro w5 hR5 hg5 hsz5;rw[hsz4]at hR5 hsz5 ⊢)
 go_frame
 have HD5:=Hd (hD4.grown hg5 (λk hk=>by cases hk))
 have HR5:=Hd (hR4.grown (B:=w.heap.size) hg5 Om Sm (λb hb=>HV1.out.lt hb) Om (λk hk=>by cases hk))
 have HS5:=Hd (hst4.same (hg5.block _ Om Sm))
 have HC5:=Hd ((hg5.block _ Om Sm).trans hcl4)
 have HK:=Hd (HX.out s (HR.out.sub hmem).1)
 have HKM:=Hd (HR.out.sub hmem).1
 have HF:=Hd hf
 have HMD:=Hd (AIk (y:=Y.length) hlt)
 clear hD4 hR4 hst4 hcl4 hg5 c0 c1 c2 hsz4 hf
 go_loopg [] Y.length (λg wx=>∃(d n2:Nat) (todo2 Z2:List ByteArray),d=g/\n2+d<=n+Y.length/\Hid (CK wx m2 (q+1) Y todo2 d)/\Hid (CK wx m1 (w.heap.size+2) X todo1 cnt)/\Hid (CD wx (w.heap.size+1) n2 Z2)/\Hid (∀t,t∈Z2↔t∈Z\/∃v∈Y,v∉todo2/\t=D5 s v)/\Hid (DW w wx m1 m2 vl)/\Hid (wx.heap[q]?=some (.cells #[.string s] 115 (0,0)))/\q+2<=wx.heap.size)
 case atStart=>exact⟨_,n,Y,Z,rfl,Nl,hR5,HR5,HS5,(λt=>by simp;intro x h1 h2;exact absurd h1 h2),HD5,HC5,Om⟩
 obtain⟨d,n2,todo2,Z2,rfl,hnd,HQ2,HQ1,HS2,HZ2,HDx,HCx,hszx⟩:=hrel
 go_wp2_with (first
  |(at_next;refine FQ _ rfl _ rfl m2 (q+1) _ Y todo2 rfl HQ2.out (λh1=>?_) (λv x2 w6 cnt2 todo3 hmem2 hf2 hR6 hlt2 hg6 hsz6 hen2=>?_);rotate_left;have hvs:=HY.out v (HQ2.out.sub hmem2).1;have hks:=HK.out;have hcv:(w6.alloc (.cells #[.string v] 115)).cell? ⟨w6.heap.size,0,none⟩=some (.string v):=BE (heap_alloc_new _ _);have hck:(w6.alloc (.cells #[.string v] 115)).cell? ⟨q,0,none⟩=some (.string s):=(BE ((Ha Om).trans ((hg6.block _ Om Sm).trans HCx.out)));have hst6:CD (w6.alloc (.cells #[.string v] 115)) (w.heap.size+1) n2 Z2:=(HS2.out.same (hg6.block _ Om (by simp;omega))).same (Ha Om);rotate_right)
  |(at_mapUpdate;refine DP _ rfl _ _ _ (.inl rfl) (w.heap.size+1) n2 Z2 (D5 s v) rfl rfl rfl hst6 (by have:=HMD.out;omega) (by rw[I3];omega) ?_;intro w7 Z7 hset7 hz7 hg7))
 all_goals try (exfalso;(try simp only[ByteArray.size_append]at *);omega)
 .go_roundg cnt
  case rel=>exact⟨cnt,n2,todo1,Z2,rfl,by have:=HMD.out;omega,HQ1,HS2,(λt=>by
   rw[HZ2.out,HZ.out,h1];constructor
   .rintro (⟨k,k1,k2,k3⟩|⟨v,v1,_,v3⟩)
    .exact⟨k,k1,λh=>k2 ((HF.out k).1 h).1,k3⟩
    exact⟨s,HKM.out,λh=>((HF.out s).1 h).2 rfl,v,v1,v3⟩
   rintro ⟨k,k1,k2,v,v1,v3⟩;by_cases hk:k=s
   .exact .inr ⟨v,v1,by simp,by rw[<-hk];exact v3⟩
   exact .inl ⟨k,k1,λh=>k2 ((HF.out k).2 ⟨h,hk⟩),v,v1,v3⟩),HDx,Om⟩
  omega
 have hga:w6.grownBy (w6.alloc (.cells #[.string v] 115)) none:=World.grownBy_alloc _ _ _
 have hsa:(w6.alloc (.cells #[.string v] 115)).heap.size=w6.heap.size+1:=by simp
 have hD7:=((HDx.out.grown hg6 (λk hk=>by cases hk;omega)).grown hga (λk hk=>by cases hk)).grown hg7 (λk hk=>by cases hk;omega)
 have hQ2:=(hR6.grown (B:=w.heap.size) hga Om Sm (λb hb=>HV2.out.lt hb) Om (λk hk=>by cases hk)).grown (B:=w.heap.size) hg7 Om (by simp;omega) (λb hb=>HV2.out.lt hb) Om (λk hk=>by cases hk;omega)
 have hQ1:=((HQ1.out.grown (B:=w.heap.size) hg6 Om (by simp;omega) (λb hb=>HV1.out.lt hb) Om (λk hk=>by cases hk;omega)).grown (B:=w.heap.size) hga Om Sm (λb hb=>HV1.out.lt hb) Om (λk hk=>by cases hk)).grown (B:=w.heap.size) hg7 Om Sm (λb hb=>HV1.out.lt hb) Om (λk hk=>by cases hk;omega)
 have hc7:=(hg7.block q Om (by simp;omega)).trans ((hga.block q Om Sm).trans ((hg6.block q Om Sm).trans HCx.out))
 have hs7:=hg7.size
 go_roundg cnt2
 case rel=>exact⟨cnt2,n2+1,todo3,Z7,rfl,Om,hQ2,hQ1,hset7,(λt=>by
  rw[hz7,HZ2.out];constructor
  .rintro ((h|⟨u,u1,u2,u3⟩)|h)
   .exact .inl h
   .exact .inr ⟨u,u1,λh=>u2 ((hf2 u).1 h).1,u3⟩
   exact .inr ⟨v,(HQ2.out.sub hmem2).1,λh=>((hf2 v).1 h).2 rfl,h⟩
  rintro (h|⟨u,u1,u2,u3⟩)
  .exact .inl (.inl h)
  by_cases hu:u=v
  .exact .inr (by rw[u3,hu])
  exact .inl (.inr ⟨u,u1,λh=>u2 ((hf2 u).2 ⟨h,hu⟩),u3⟩)),hD7,hc7,Om⟩
 omega
def I1(xs:List ByteArray):List ByteArray:=((xs.map λs=>s.data.toList).mergeSort λx y=>decide (x<=y)).map λl=>⟨l.toArray⟩
theorem I9(xs:List ByteArray):(I1 xs).length=xs.length:=by simp[I1]
theorem XW(xs:List ByteArray):AQ xs=(xs.map λs=>s.data.toList).map encStr:=by
 unfold AQ;rw[List.map_map];refine List.map_congr_left λs _=>?_
 cases s;simp[encStr]
theorem PJ{w:World}{B n c:Nat}{A:Option Addr}{xs:List ByteArray}(h:w.ownsRow B 9 1 (.slice A n c) n (AQ xs))(hn:n=xs.length)(hs:n<=1000000) :
 Calls Tryz.prog 7 #[.slice A n c] w λe w'=>e=.returned (.tuple #[])/\w'.ownsRow B 9 1 (.slice A n c) n (AQ (I1 xs))/\w.grownBy w' (Value.slice A n c).ownBlock:=by
 rcases h.2 with⟨h1,h2⟩|⟨g,cap,cur,h1,h2,h3,h4,h5,h6,h7⟩
 .simp only[Value.slice.injEq]at h1
  obtain⟨rfl,rfl,rfl⟩:=h1;obtain rfl:xs=[]:=List.length_eq_zero_iff.1 hn.symm;refine(Tryz.sort_Strings_none none 0 w).mono ?_;rintro e w' ⟨rfl,rfl⟩;exact⟨rfl,⟨by simp[I1,AQ],.inl ⟨rfl,rfl⟩⟩,⟨rfl,rfl,rfl,Nl,λ_ _ _=>rfl⟩⟩
 simp only[Value.slice.injEq]at h1
 obtain⟨rfl,_,rfl⟩:=h1
 subst hn
 rw[XW]at h7
 have hl:(xs.map λs=>s.data.toList).length=xs.length:=by simp
 have:=Tryz.sort_Strings g 0 c (xs.map λs=>s.data.toList) w (holds_of_block h3 (by rw[hl];simpa using h7)) (Array.getElem?_eq_some_iff.1 h3).1 (by rw[hl];omega)
 rw[hl]at this
 refine this.mono ?_
 rintro e w' ⟨rfl,m,os,rfl⟩
 refine⟨rfl,?_,grownBy_sorted _⟩
 have:=ownsRow_sorted (w:=w) (n:=m) (os:=os) (ss:=xs.map λs=>s.data.toList) (ts:=(xs.map λs=>s.data.toList).mergeSort λx y=>decide (x<=y)) Sm h2 h3 (by rw[hl];exact h4) h5 h6
 rw[hl]at this
 rw[XW (I1 xs)]
 rw[show ((I1 xs).map λs=>s.data.toList)=(xs.map λs=>s.data.toList).mergeSort λx y=>decide (x<=y) by unfold I1;rw[List.map_map];simp[Function.comp_def]]
 exact this
theorem WG{w:World}{v:Value}{X:List ByteArray}(h:DX w v X)(hn:X.length<=100000) :
 Calls Tryz.prog 47 #[v] w λe w'=>∃(A:Option Addr) (n c:Nat) (xs:List ByteArray),e=.returned (.slice A n c)/\xs.Nodup/\(∀t,t∈xs↔t∈X)/\n=xs.length/\w'.ownsRow w.heap.size 9 1 (.slice A n c) n (AQ (I1 xs))/\Below w.heap.size w w':=by
 obtain⟨i0,hi,hz0,hz1,hz2⟩:=info_parts Tryz.info9
 have HV:=Hd h
 clear h
 go_enter Tryz.func47,Tryz.ntmps47
 go_wp2_with (first|(at_range;refine FA _ rfl _ rfl v X rfl HV.out ?_;intro w1 hR0 hg0 hsz0)|go_in)
 go_frame
 have hb1:Below w.heap.size w w1:=Bl.grown hg0 Nl (λk hk=>by cases hk)
 clear hg0
 go_loopg [3] X.length (λg v3 wr=>∃(d:Nat) (A:Option Addr) (n c:Nat) (xs todo:List ByteArray),d=g/\v3=.slice A n c/\n+d<=100000/\Hid (n=xs.length)/\Hid (xs.Nodup)/\Hid (CK wr v w.heap.size X todo d)/\wr.ownsRow (w.heap.size+1) 9 1 (.slice A n c) n (AQ xs)/\Hid (∀t,t∈xs↔t∈X/\t∉todo)/\Hid (Below w.heap.size w wr)/\w.heap.size+1<=wr.heap.size)
 case atStart=>exact⟨_,none,0,0,[],X,rfl,rfl,Om,rfl,List.nodup_nil,hR0,⟨rfl,.inl ⟨rfl,rfl⟩⟩,(λt=>by simp),hb1,Om⟩
 obtain⟨d,A,n,c,xs,todo,rfl,rfl,hnd,HNX,HXD,HR,hown,HM,HB,hsz⟩:=hrel
 have HOW:=Hd hown
 clear hown
 go_upto_region 5 with(at_next;refine FQ _ rfl _ rfl v w.heap.size _ X todo rfl HR.out (λh0=>?_) (λs x w3 cnt todo1 hmem hf hR3 hlt hg3 hsz3 hen=>?_))
 .have hos:=HOW.out
  have HH0:=Hd h0;clear h0;go_wp2_with (go_at_call 7;refine(PJ HOW.out HNX.out Om).mono ?_;rintro e w5 ⟨rfl,ho5,hg5⟩);go_ret;refine⟨A,n,c,xs,rfl,HXD.out,(λt=>by rw[HM.out,HH0.out];simp),HNX.out,?_,HB.out.grown hg5 Om (λk hk=>by have:=AG hos k hk;omega)⟩;obtain⟨h1,h2⟩:=ho5;refine⟨h1,h2.imp id ?_⟩;rintro ⟨g,cap,cur,e1,e2,e3⟩;exact⟨g,cap,cur,e1,Om,e3⟩
 have hga:w3.grownBy (w3.alloc (.cells #[.string s] 115)) none:=World.grownBy_alloc _ _ _
 have hc4:(w3.alloc (.cells #[.string s] 115)).cell? ⟨wr.heap.size,0,none⟩=some (.string s):=by rw[<-hsz3];exact BE (heap_alloc_new _ _)
 have hR4:CK (w3.alloc (.cells #[.string s] 115)) v w.heap.size X todo1 cnt:=hR3.grown (B:=w.heap.size) hga Om Sm (λb hb=>HV.out.lt hb) Om (λk hk=>by cases hk)
 have hown4:(w3.alloc (.cells #[.string s] 115)).ownsRow (w.heap.size+1) 9 1 (.slice A n c) n (AQ xs):=AR HOW.out λg hg hl=>(hga.block g Om Sm).trans (hg3.block g hl (by intro e;have:=AG HOW.out g hg;simp at e;omega))
 have hb4:Below w.heap.size w (w3.alloc (.cells #[.string s] 115)):=(HB.out.grown hg3 Om (λk hk=>by cases hk;exact Nl)).alloc Om _
 have hsz4:(w3.alloc (.cells #[.string s] 115)).heap.size=wr.heap.size+1:=by simp[hsz3]
 obtain⟨q,hq⟩:∃q,wr.heap.size=q:=⟨_,rfl⟩
 rw[hq]at hc4 hsz4 hsz ⊢
 have HMEM:=Hd (HR.out.sub hmem)
 have HMT:=Hd hmem
 clear hga hen hg3 hR3 hsz3 hq
 generalize w3.alloc (.cells #[.string s] 115)=w4 at *
 have HH4:=Hd hown4
 have HB4:=Hd hb4
 have HR4:=Hd hR4
 have HF:=Hd hf
 have hz4:q+1<=w4.heap.size/\w4.heap.size<=q+1:=Om
 clear hown4 hb4 hR4 hf hmem hsz4
 go_wp2_with (at_builtin;refine wpList_append_own _ rfl _ _ 29 rfl (w.heap.size+1) 9 i0 (.string ⟨#[]⟩) 1 16 Tryz.underlying29 hi hz0 hz1 hz2 rfl De _ _ _ rfl (AD HH4.out (Bl.alloc Nl _)) ⟨w4.heap.size,0,none⟩ 1 1 [.string s] rfl rfl ?c1 ?c2 ?c3 ?c4 ?c5 ?_)
 case c1=>exact cell_one_new _ _ _
 case c2=>intro u hu;obtain rfl:=(by simpa using hu);rfl
 case c3=>unfold maxLen;omega
 case c4=>omega
 case c5=>simp;omega
 intro v' w5 hown5 hgrow hnil
 clear hnil
 obtain⟨A1,c1,rfl,_⟩:=AF hown5
 have hob:=AG HH4.out
 have hga2:w4.grownBy (w4.alloc (.cells #[.string s] 9)) none:=World.grownBy_alloc _ _ _
 have hb5:Below w.heap.size w w5:=(HB4.out.alloc Om (.cells #[.string s] 9)).grown hgrow (by simp;omega) (λk hk=>by have:=hob k hk;omega)
 have hR5:CK w5 v w.heap.size X todo1 cnt:=(HR4.out.grown (B:=w.heap.size) hga2 Om Sm (λb hb=>HV.out.lt hb) Om (λk hk=>by cases hk)).grown (B:=w.heap.size) hgrow (by simp;omega) (λe=>by have:=hob _ e;omega) (λb hb=>HV.out.lt hb) (by simp;omega) (λk hk=>by have:=hob k hk;omega)
 have hs5:=hgrow.size
 have hs6:(w4.alloc (.cells #[.string s] 9)).heap.size=w4.heap.size+1:=by simp
 clear hgrow
 go_wp2_with fail
 go_roundg cnt
 case rel=>exact⟨cnt,A1,n+1,c1,xs++[s],todo1,rfl,rfl,Om,(by have:=HNX.out;show _=_;simp;omega),(by
  show List.Nodup _;rw[List.nodup_append];refine⟨HXD.out,by simp,λa ha b hb=>?_⟩;rw[List.mem_singleton.1 hb];rintro rfl;exact((HM.out _).1 ha).2 HMT.out),hR5,(by simpa[AQ] using hown5),(λt=>by
  rw[List.mem_append,List.mem_singleton,HM.out];constructor
  .rintro (⟨h1,h2⟩|h)
   .exact⟨h1,λh=>h2 ((HF.out t).1 h).1⟩
   rw[h];exact⟨HMEM.out.1,λh2=>((HF.out s).1 h2).2 rfl⟩
  rintro ⟨h1,h2⟩;by_cases h:t=s
  .exact .inr h
  exact .inl ⟨h1,λh3=>h2 ((HF.out t).2 ⟨h3,h⟩)⟩),hb5,Om⟩
 omega
def P9(K V:ByteArray->Prop)(t:ByteArray):Prop:=∃k v,K k/\V v/\t=D5 k v
def GE(N acc:ByteArray->Prop)(t:ByteArray):Prop:=((¬∃s,N s)/\acc t)\/((∃s,N s)/\N t/\((∃s,acc s)->acc t))
def R4(N:ByteArray->Prop)(t:ByteArray):Prop:=∃s,N s/\t=ET s
def BZ(w W:World):Prop:=w.heap.size<=W.heap.size/\∀(b:Nat) (es:Array MapEntry) (clock:Nat),w.heap[b]?=some (Obj.map es clock)->W.heap[b]?=some (Obj.map es clock)
theorem BZ.refl(w:World):BZ w w:=⟨Nl,λ_ _ _ h=>h⟩
theorem BZ.grown{w W:World}{row:Option Nat}(h:w.grownBy W row)(hr:∀r,row=some r->∃cs t f,w.heap[r]?=some (.cells cs t f)):BZ w W:=
 ⟨h.size,λb es clock hb=>(h.block b (Array.getElem?_eq_some_iff.1 hb).1 (λe=>by obtain⟨cs,t,f,hc⟩:=hr b e.symm;rw[hc]at hb;cases hb)).trans hb⟩
theorem DX.maps{w W:World}{v:Value}{X:List ByteArray}(h:DX w v X)(hk:BZ w W):DX W v X:=by
 rcases h with h|⟨b,rfl,D,⟨es,clock,h1,h2⟩,h3⟩
 .exact .inl h
 exact .inr ⟨b,rfl,D,⟨es,clock,hk.2 b es clock h1,h2⟩,h3⟩
def MN(w:World)(v:Value)(X:List ByteArray):Prop:=
 ∃(T:TypeId) (x:Value) (f:FuncId),v=.iface T x/\(∀W,(method 414 T x "Sigs").run Tryz.prog W=.ok (f,x) W)/\(∀W args,(callFunc f args).run Tryz.prog W=.ok (.enter f args) W)/\∀W,BZ w W->Calls Tryz.prog f #[x] W (TN X W)
def EF(X Y:List ByteArray):List ByteArray:=X.flatMap λk=>Y.map λv=>D5 k v
theorem KF{X Y:List ByteArray}{t:ByteArray}:t∈EF X Y↔∃k∈X,∃v∈Y,t=D5 k v:=by
 unfold EF;simp only[List.mem_flatMap,List.mem_map];constructor
 .rintro ⟨k,h1,v,h2,rfl⟩;exact⟨k,h1,v,h2,rfl⟩
 rintro ⟨k,h1,v,h2,rfl⟩;exact⟨k,h1,v,h2,rfl⟩
theorem AJ1{w:World}(sg st:ByteArray)(vl:Value):(method 414 151 (.agg #[.string sg,.string st,vl]) "Sigs").run Tryz.prog w=.ok (238,.agg #[.string sg,.string st,vl]) w:=Kr
theorem AIm(w:World)(args:Array Value):(callFunc 238 args).run Tryz.prog w=.ok (.enter 238 args) w:=Kr
theorem ABr{w:World}(sg st:ByteArray)(vl:Value)(hg:sg.size<=1000)(hs:st.size<=100000)(ha:∀i,i<st.size->AA st i<128):MN w (.iface 151 (.agg #[.string sg,.string st,vl])) (QH sg st):=
 ⟨151,_,238,rfl,λW=>AJ1 sg st vl,AIm,λW _=>WM sg st vl hg hs ha W⟩
theorem AKz{w:World}(sg st:ByteArray)(vl:Value):(method 414 156 (.agg #[.string sg,.string st,vl]) "Sigs").run Tryz.prog w=.ok (245,.agg #[.string sg,.string st,vl]) w:=Kr
theorem AJ0(w:World)(args:Array Value):(callFunc 245 args).run Tryz.prog w=.ok (.enter 245 args) w:=Kr
theorem QG{w:World}(sg st:ByteArray)(vl:Value)(hg:sg.size<=1000):MN w (.iface 156 (.agg #[.string sg,.string st,vl])) (YS sg):=
 ⟨156,_,245,rfl,λW=>AKz sg st vl,AJ0,λW _=>WL sg st vl hg W⟩
theorem AFx{w:World}(b:Bool):(method 414 126 (.bool b) "Sigs").run Tryz.prog w=.ok (227,.bool b) w:=Kr
theorem AFg(w:World)(args:Array Value):(callFunc 227 args).run Tryz.prog w=.ok (.enter 227 args) w:=Kr
theorem W5{w:World}(b:Bool):MN w (.iface 126 (.bool b)) ([⟨#[98]⟩]):=
 ⟨126,_,227,rfl,λW=>AFx b,AFg,λW _=>UU b W⟩
theorem AI2{w:World}(A:Option Addr)(n c:Nat):(method 414 130 (.slice A n c) "Sigs").run Tryz.prog w=.ok (232,.slice A n c) w:=Kr
theorem AJo(w:World)(args:Array Value):(callFunc 232 args).run Tryz.prog w=.ok (.enter 232 args) w:=Kr
theorem ABq{w:World}(A:Option Addr)(n c:Nat):MN w (.iface 130 (.slice A n c)) ([⟨#[97,121]⟩]):=
 ⟨130,_,232,rfl,λW=>AI2 A n c,AJo,λW _=>U3 _ W⟩
theorem AKf{w:World}(v:Value):(method 414 163 (.agg #[v]) "Sigs").run Tryz.prog w=.ok (255,.agg #[v]) w:=Kr
theorem AKn(w:World)(args:Array Value):(callFunc 255 args).run Tryz.prog w=.ok (.enter 255 args) w:=Kr
theorem AI9{w:World}(v:Value):MN w (.iface 163 (.agg #[v])) ([⟨#[118]⟩]):=
 ⟨163,_,255,rfl,λW=>AKf v,AKn,λW _=>QM v W⟩
theorem AHl{w:World}(m v:Value)(X:List ByteArray):(method 414 160 (.agg #[m,v]) "Sigs").run Tryz.prog w=.ok (251,.agg #[m,v]) w:=Kr
theorem AH7(w:World)(args:Array Value):(callFunc 251 args).run Tryz.prog w=.ok (.enter 251 args) w:=Kr
theorem JG{w:World}(m v:Value)(X:List ByteArray)(hm:DX w m X):MN w (.iface 160 (.agg #[m,v])) (X):=
 ⟨160,_,251,rfl,λW=>AHl m v X,AH7,λW hW=>WU (hm.maps hW) v⟩
theorem AFs{w:World}(m1 m2 v:Value)(X Y:List ByteArray):(method 414 167 (.agg #[m1,m2,v]) "Sigs").run Tryz.prog w=.ok (259,.agg #[m1,m2,v]) w:=Kr
theorem AHd(w:World)(args:Array Value):(callFunc 259 args).run Tryz.prog w=.ok (.enter 259 args) w:=Kr
theorem XG{w:World}(m1 m2 v:Value)(X Y:List ByteArray)(h1:DX w m1 X)(h2:DX w m2 Y)(hx:∀s∈X,s.size<=1000)(hy:∀s∈Y,s.size<=1000)(hn:X.length*Y.length<=90000):MN w (.iface 167 (.agg #[m1,m2,v])) (EF X Y):=
 ⟨167,_,259,rfl,λW=>AFs m1 m2 v X Y,AHd,λW hW=>(UT (h1.maps hW) (h2.maps hW) v hx hy hn).mono λe w' ⟨m,Z,e1,e2,e3,e4⟩=>⟨m,Z,e1,e2,λt=>by rw[e3,KF],e4⟩⟩
