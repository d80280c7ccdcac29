/- Lemmas for FnVtSigsEntry; no conditions. -/
import Derived.Test.YtbnbadcnfchdhaaGreatDoorP05
import Derived.Test.YtbnbadcnfchdhaaGreatDoorRows
import Derived.ProofKit
import Derived.PinnedBridge
import Derived.Lay
import Derived.LaidOnce
import Derived.Lib.LaidU8
import Derived.Lib.LaidPrint
set_option maxRecDepth 100000
set_option maxHeartbeats 16000000
set_option linter.all false
namespace Go.Proofs.YtbnbadcnfchdhaaGreatDoor
section
open Go.ChangeShapes Go.WideShapes Go.ChangeAt Go.RowKit Go.Lib
noncomputable abbrev trU(fuel:Nat)(w:World)(t:TypeId)(cs:List Value):=DataW.trod (λ_:TypeId×Value=>()) Tryz.prog w 0 (λ_=>true) false fuel t cs
theorem ADy{w:World}{fuel:Nat}{t:TypeId}{k:FloatKind}{cs:List Value}{x:DataW Unit×List MemPlace}(ht:Tryz.prog.underlying t=some (.float k))(h:trU fuel w t cs=some x):∃n,cs=[.float k n]/\x=(.lit (.float k n),[]):=by
 unfold trU at h
 cases fuel with
 |zero=>simp[DataW.trod]at h
 |succ n=>unfold DataW.trod at h;rw[ht]at h;split at h<;>simp_all
theorem AC6{w:World}{fuel:Nat}{t:TypeId}{m:Array (String×TypeId)}{cs:List Value}{n:String}{d:DataW Unit}{p:List MemPlace}(ht:Tryz.prog.underlying t=some (.interface m))(h:trU fuel w t cs=some (.iface n d,p)):∃u v,cs=[.iface u v]:=by
 unfold trU at h
 cases fuel with
 |zero=>simp[DataW.trod]at h
 |succ k=>unfold DataW.trod at h;rw[ht]at h;split at h<;>simp_all
noncomputable def K5(t:TypeId):List (TypeId×Nat):=match Tryz.prog.underlying t with
 |some (.struct fs)=>fs.toList.map λf=>(f.type,f.offset)
 |_=>[]
theorem VN{w:World}{fuel:Nat}{t:TypeId}{cs:List Value}{ds:List (DataW Unit)}{p:List MemPlace}{i:Nat}{ty:TypeId}{off:Nat}(hi:(K5 t)[i]?=some (ty,off))(h:trU fuel w t cs=some (.agg ds,p)) :
 ∃f d q,ds[i]?=some d/\trU f w ty ((cs.drop off).take (Tryz.prog.cellsOf ty))=some (d,q):=by
 unfold K5 at hi
 split at hi
 .rename_i fs hfs
  obtain⟨xs,n,_,hx,_,hxl,hall⟩:=DataW.trod_struct hfs h;rw[List.getElem?_map,Option.map_eq_some_iff]at hi;obtain⟨f,hf,he⟩:=hi;simp only[Prod.mk.injEq]at he;have hf2:fs[i]?=some f:=by simpa using hf
  have:=hall i f hf2;rw[he.1,he.2]at this;have hlt:i<xs.length:=by have:=(Array.getElem?_eq_some_iff.1 hf2).1;omega
  obtain⟨b,hb⟩:∃b,xs[i]?=some b:=⟨xs[i],List.getElem?_eq_getElem hlt⟩;rw[hb]at this;have hds:ds=xs.map (·.1):=by have:=congrArg Prod.fst hx;simpa using this
  exact⟨n,b.1,b.2,by rw[hds,List.getElem?_map,hb];rfl,this⟩
 simp at hi
theorem TF{w:World}{name:String}{g:Nat}{t e:TypeId}{sz:Nat}{ds:List (DataW Unit)}(hn:Tryz.prog.globalNamed name=some g)(hy:(Tryz.prog.globals[g]?).map (·.type)=some t)(ht:Tryz.prog.underlying t=some (.slice e))(hc:Tryz.prog.cellsOf e=sz)
 (h:VarReads Tryz.prog w name (.slice ds [])):∃(a:Addr) (cap:Nat),w.cell? ⟨g,0,none⟩=some (.slice (some a) ds.length cap)/\∀i d,ds[i]?=some d->∃f ce q,(∀j,j<sz->w.cell? ((a.add (i*sz)).add j)=ce[j]?)/\trU f w e ce=some (d,q):=by
 obtain⟨g',t',cs,fuel,p,hg,hty,hvar,hd⟩:=h
 obtain rfl:=Option.some.inj (hn.symm.trans hg)
 obtain rfl:=Option.some.inj (hy.symm.trans hty)
 rcases DataW.trod_slice ht hd with⟨_,hx⟩|⟨a,len,cap,el,rs,m,rfl,hcs,hx,_,_,_,hel,helem,_,_⟩
 .cases hx
 have e0:=congrArg Prod.fst hx
 simp only[DataW.slice.injEq]at e0
 obtain⟨eE,eR⟩:=e0
 have hlen:ds.length=len:=by have:=congrArg List.length eE;simp at this;omega
 refine⟨a,cap,?_,λi d hi=>?_⟩
 .rw[World.var?_cell hg hvar 0,<-Array.getElem?_toList,hcs,hlen];rfl
 have hil:i<len:=by have:=(List.getElem?_eq_some_iff.1 hi).1;omega
 have h1:=helem i hil
 obtain⟨b,hb⟩:∃b,el[i]?=some b:=⟨el[i]' Om,List.getElem?_eq_getElem Om⟩
 rw[hb,hc]at h1
 obtain⟨ce,hce,hte⟩:=Option.bind_eq_some_iff.1 h1
 obtain⟨_,_,hcc⟩:=World.cells?_some hce
 have hbd:b.1=d:=by rw[eE,List.getElem?_map,hb]at hi;simpa using hi
 exact⟨m,ce,b.2,hcc,by rw[<-hbd];exact hte⟩
theorem OT{w:World}{name:String}{g:Nat}{t:TypeId}{d:DataW Unit}(hn:Tryz.prog.globalNamed name=some g)(hy:(Tryz.prog.globals[g]?).map (·.type)=some t)(h:VarReads Tryz.prog w name d):∃(cs:List Value) (f:Nat) (p:List MemPlace),(∀i:Nat,w.cell? ⟨g,i,none⟩=cs[i]?)/\trU f w t cs=some (d,p):=by obtain⟨g',t',cs,fuel,p,hg,hty,hvar,hd⟩:=h;obtain rfl:=Option.some.inj (hn.symm.trans hg);obtain rfl:=Option.some.inj (hy.symm.trans hty);exact⟨cs.toList,fuel,p,λi=>by rw[World.var?_cell hg hvar i,<-Array.getElem?_toList],hd⟩
theorem AEt{cs:List Value}{o:Nat}{v:Value}(h:(cs.drop o).take 1=[v]):cs[o]?=some v:=by have:=congrArg (·[0]?) h;simpa[List.getElem?_take,List.getElem?_drop] using this
theorem Tryz.b4:Tryz.prog.underlying 4=some .bool:=Kr
theorem Tryz.u101:Tryz.prog.underlying 101=some (.float .f64):=Kr
theorem Tryz.i3:Tryz.prog.underlying 3=some (.int .i64):=Kr
theorem Tryz.i23:Tryz.prog.underlying 23=some (.int .u64):=Kr
theorem Tryz.s9:Tryz.prog.underlying 9=some .string:=Kr
theorem Tryz.c3:Tryz.prog.cellsOf 3=1:=Kr
theorem Tryz.c9t:Tryz.prog.cellsOf 9=1:=Kr
theorem Tryz.c23:Tryz.prog.cellsOf 23=1:=Kr
theorem Tryz.f278:K5 278=[(23,0),(23,1)]:=Kr
theorem Tryz.f289:K5 289=[(3,0),(9,1)]:=Kr
theorem KH{w:World}{fuel:Nat}{t:TypeId}{cs:List Value}{ds:List (DataW Unit)}{p:List MemPlace}{i off:Nat}{ty:TypeId}{k:IntKind}{z:Int}(ht:Tryz.prog.underlying ty=some (.int k))(hc:Tryz.prog.cellsOf ty=1)(hi:(K5 t)[i]?=some (ty,off))(h:trU fuel w t cs=some (.agg ds,p))(hd:ds[i]?=some (.lit (.int k z))):cs[off]?=some (.int k z):=by
 obtain⟨f,d,q,h1,h2⟩:=VN hi h;rw[hc]at h2;obtain⟨n,h3,h4,_⟩:=DataW.trod_int ht h2;rw[hd]at h1
 cases h1
 simp only[Prod.mk.injEq,DataW.lit.injEq,Lit.int.injEq,true_and]at h4;rw[h4.1];exact AEt h3
theorem AFv{w:World}{fuel:Nat}{t:TypeId}{cs:List Value}{ds:List (DataW Unit)}{p:List MemPlace}{i off:Nat}{z:List UInt8}(hi:(K5 t)[i]?=some (9,off))(h:trU fuel w t cs=some (.agg ds,p))(hd:ds[i]?=some (.lit (.string z))):cs[off]?=some (.string ⟨z.toArray⟩):=by
 obtain⟨f,d,q,h1,h2⟩:=VN hi h;rw[Tryz.c9t]at h2;obtain⟨s,h3,h4,_⟩:=DataW.trod_string Tryz.s9 h2;rw[hd]at h1
 cases h1
 simp only[Prod.mk.injEq,DataW.lit.injEq,Lit.string.injEq]at h4;rw[h4.1];have:=AEt h3
 cases s
 simpa using this
def AGr(i:Nat):Nat:=if i%2=0 then(Pinned.pow10Rows.getD (i/2) (0,0)).1 else(Pinned.pow10Rows.getD (i/2) (0,0)).2
def Y6:List Nat:=[4607182418800017408,4621819117588971520,4636737291354636288,4652007308841189376,4666723172467343360,4681608360884174848,4696837146684686336,4711630319722168320,4726483295884279808,4741671816366391296,4756540486875873280,4771362005757984768,4786511204640096256,4801453603149578240,4816244402031689728,4831355200913801216,4846369599423283200,4861130398305394688,4876203697187506176,4891288408196988160,4906019910204099648,4921056587992461136,4936209963552724370]
def P0(i:Nat):Nat:=Y6.getD i 0
theorem ACv:(Pinned.pow10Rows.all λx=>decide (x.1<18446744073709551616)&&decide (x.2<18446744073709551616))=true:=Kr
theorem AJn:Pinned.pow10Rows.length=696:=Kr
theorem U2(i:Nat):AGr i<18446744073709551616:=by
 have h:(Pinned.pow10Rows.getD (i/2) (0,0)).1<18446744073709551616/\(Pinned.pow10Rows.getD (i/2) (0,0)).2<18446744073709551616:=by
  rw[List.getD_eq_getElem?_getD]
  cases hx:Pinned.pow10Rows[i/2]? with
  |none=>exact⟨De,De⟩
  |some x=>have:=List.all_eq_true.1 ACv x (List.mem_of_getElem? hx);simpa using this
 unfold AGr;split
 .exact h.1
 exact h.2
theorem YG:∀i,i<23->GO (P0 i)=true:=λi hi=>List.all_eq_true.1 (show ((List.range 23).all λi=>GO (P0 i))=true by kernel_rfl) i (List.mem_range.2 hi)
theorem AHb{w:World}(h:VarReads Tryz.prog w "internal/strconv.pow10Tab" Pinned.pow10Tab):P10 AGr w:=by
 obtain⟨cs,f,p,hc,hd⟩:=OT (g:=13) (t:=279) Kr Kr h;refine⟨λi hi=>?_,U2⟩;have hu:Tryz.prog.underlying 279=some (.array 696 278):=Kr;have hcc:Tryz.prog.cellsOf 278=2:=Kr;obtain⟨f',d,q,hdi,he⟩:=array_elem hu hd (i/2) Om;have hl:i/2<Pinned.pow10Rows.length:=by rw[AJn];omega
 rw[List.getElem?_map,List.getElem?_eq_getElem hl]at hdi;simp only[Option.map_some,Option.some.injEq]at hdi;subst hdi;rw[hcc]at he;have e0:=KH (i:=0) Tryz.i23 Tryz.c23 (by rw[Tryz.f278];rfl) he rfl;have e1:=KH (i:=1) Tryz.i23 Tryz.c23 (by rw[Tryz.f278];rfl) he rfl;have hg:Pinned.pow10Rows.getD (i/2) (0,0)=Pinned.pow10Rows[i/2]:=by rw[List.getD_eq_getElem?_getD,List.getElem?_eq_getElem hl];rfl
 simp only[List.getElem?_take,List.getElem?_drop]at e0 e1;rw[hc i];unfold AGr;rw[hg];by_cases h2:i%2=0
 .rw[if_pos h2]
  have:i/2*2+0=i:=Om;rw[this]at e0;simpa using e0
 rw[if_neg h2];have:i/2*2+1=i:=Om;rw[this]at e1;simpa using e1
theorem XB{w:World}{a:Addr}{v:Value}(h:w.cell? (a.add 0)=some v):∃R o,a=⟨R,o,none⟩:=by
 obtain⟨R,o,sR⟩:=a;have:(Addr.add ⟨R,o,sR⟩ 0)=⟨R,o,sR⟩:=by simp[Addr.add]
 rw[this]at h;obtain rfl:=Go.Proofs.cell_spot h;exact⟨R,o,rfl⟩
theorem AG7{w:World}(h:VarReads Tryz.prog w "internal/strconv.float64pow10" Rows.laid_internal_strconv_float64pow10)(h6:w.cell? ⟨6,0,none⟩=some (.int .u64 52)):T0 P0 w:=by
 have hu:Tryz.prog.underlying 272=some (.slice 101):=Kr;have h':VarReads Tryz.prog w "internal/strconv.float64pow10" (.slice (Y6.map λx=>.lit (.float .f64 x)) []):=h;obtain⟨a,cap,h1,h2⟩:=TF (g:=12) (t:=272) (sz:=1) Kr Kr hu Kr h';have hg:∀i,i<23->w.cell? ((a.add (i*1)).add 0)=some (.float .f64 (P0 i)):=λi hi=>by have hl:i<Y6.length:=hi;obtain⟨f,ce,q,h3,h4⟩:=h2 i (.lit (.float .f64 Y6[i])) (by rw[List.getElem?_map,List.getElem?_eq_getElem hl];rfl);obtain⟨n,h5,h6⟩:=ADy Tryz.u101 h4;simp only[Prod.mk.injEq,DataW.lit.injEq,Lit.float.injEq,true_and]at h6;rw[h3 0 Om,h5,<-h6.1];unfold P0;rw[List.getD_eq_getElem?_getD,List.getElem?_eq_getElem hl];rfl
 obtain⟨R,o,rfl⟩:∃R o,a=⟨R,o,none⟩:=by
  have:=hg 0 Om;have e:(a.add (0*1)).add 0=a.add 0:=by simp[Addr.add]
  rw[e]at this;exact XB this
 refine⟨⟨R,o,cap,h1,λi hi=>?_⟩,h6⟩;have:=hg i hi;rw[Addr.add_lit,Addr.add_lit,Nat.mul_one,Nat.add_zero]at this;exact this
theorem YP{w:World}(h:VarReads Tryz.prog w "internal/strconv.leftcheats" Pinned.leftcheats):NA w w.heap.size:=by
 have hu:Tryz.prog.underlying 290=some (.slice 289):=Kr;obtain⟨a,cap,h1,h2⟩:=TF (g:=14) (t:=290) (sz:=2) Kr Kr hu Kr h;have hlen:Pinned.cheatRows.length=61:=Kr;have hg:∀k,k<=60->w.cell? ((a.add (k*2)).add 0)=some (.int .i64 (D8 k).1)/\w.cell? ((a.add (k*2)).add 1)=some (.string ⟨(D8 k).2.toArray⟩):=λk hk=>by
  have hl:k<Pinned.cheatRows.length:=Om;obtain⟨f,ce,q,h3,h4⟩:=h2 k _ (by rw[List.getElem?_map,List.getElem?_eq_getElem hl];rfl);have e0:=KH (i:=0) Tryz.i3 Tryz.c3 (by rw[Tryz.f289];rfl) h4 rfl;have e1:=AFv (i:=1) (by rw[Tryz.f289];rfl) h4 rfl;have hc:D8 k=Pinned.cheatRows[k]:=by unfold D8;rw[List.getD_eq_getElem?_getD,List.getElem?_eq_getElem hl];rfl
  rw[h3 0 Om,h3 1 Om,hc];exact⟨e0,e1⟩
 obtain⟨R,o,rfl⟩:∃R o,a=⟨R,o,none⟩:=by
  have:=(hg 0 Om).1;have e:(a.add (0*2)).add 0=a.add 0:=by simp[Addr.add]
  rw[e]at this;exact XB this
 have hg2:∀k,k<=60->w.cell? ⟨R,o+k*2,none⟩=some (.int .i64 (D8 k).1)/\w.cell? ⟨R,o+k*2+1,none⟩=some (.string ⟨(D8 k).2.toArray⟩):=λk hk=>by have:=hg k hk;rw[Addr.add_lit,Addr.add_lit,Addr.add_lit,Nat.add_zero]at this;exact this
 exact⟨R,o,cap,World.block_lt_of_cell? w _ (hg2 0 Om).1,World.block_lt_of_cell? w ⟨14,0,none⟩ h1,by rw[h1];simp[hlen],hg2⟩
theorem ADl{w:World}(h:VarReads Tryz.prog w "internal/strconv.float64info" Rows.laid_internal_strconv_float64info):w.cell? ⟨6,0,none⟩=some (.int .u64 52)/\w.cell? ⟨6,1,none⟩=some (.int .u64 11)/\w.cell? ⟨6,2,none⟩=some (.int .i64 (-1023)):=by obtain⟨cs,f,p,hc,hd⟩:=OT (g:=6) (t:=225) Kr Kr h;have hf:K5 225=[(91,0),(91,1),(3,2)]:=Kr;have hu:Tryz.prog.underlying 91=some (.int .u64):=Kr;have hcu:Tryz.prog.cellsOf 91=1:=Kr;rw[hc 0,hc 1,hc 2];exact⟨KH (i:=0) hu hcu (by rw[hf];rfl) hd rfl,KH (i:=1) hu hcu (by rw[hf];rfl) hd rfl,KH (i:=2) Tryz.i3 Tryz.c3 (by rw[hf];rfl) hd rfl⟩
theorem XQ{w:World}{name:String}{g:Nat}{n:String}{d:DataW Unit}(hn:Tryz.prog.globalNamed name=some g)(hy:(Tryz.prog.globals[g]?).map (·.type)=some 59)(h:VarReads Tryz.prog w name (.iface n d)):∃te pe,w.cell? ⟨g,0,none⟩=some (.iface te pe):=by
 obtain⟨cs,f,p,hc,hd⟩:=OT hn hy h;obtain⟨m,hm⟩:∃m,Tryz.prog.underlying 59=some (.interface m):=by
  have h0:(match Tryz.prog.underlying 59 with|some (.interface _)=>true|_=>false)=true:=Kr;split at h0
  .rename_i m hm;exact⟨m,hm⟩
  cases h0
 obtain⟨u,v,rfl⟩:=AC6 hm hd;exact⟨u,v,hc 0⟩
noncomputable def FF:List (String×DataW Unit):=Rows.fnVtSigsEntryRow.laid
theorem xU:U8Extra Tryz.prog Tryz.lays260_ren:=⟨Kr,Kr,Kr,Kr,Kr,Kr,Kr⟩
theorem tables{W:World}(hL:laidMet Tryz.prog FF W):MX AGr P0 W W.heap.size/\FN W/\Lib.Utf8Tabs 7 8 W/\8<W.heap.size:=by
 have hR:∀(n:String) (d:DataW Unit),(n,d)∈FF->VarReads Tryz.prog W n d:=λn d h=>Lib.laidMet.reads hL h;have hU1:VarReads Tryz.prog W "unicode/utf8.first" Lib.firstData:=Pinned.utf8First_eq▸hR _ _ (by simp[FF,Rows.fnVtSigsEntryRow,Rows.laid_unicode_utf8_first]);have hU2:VarReads Tryz.prog W "unicode/utf8.acceptRanges" Lib.acceptData:=hR _ Rows.laid_unicode_utf8_acceptRanges (by simp[FF,Rows.fnVtSigsEntryRow]);have hi:=ADl (hR _ _ (by simp[FF,Rows.fnVtSigsEntryRow]));have hp:=AHb (hR _ Rows.laid_internal_strconv_pow10Tab (by simp[FF,Rows.fnVtSigsEntryRow]));have hf:=AG7 (hR _ _ (by simp[FF,Rows.fnVtSigsEntryRow])) hi.1;have hc:=YP (hR _ Rows.laid_internal_strconv_leftcheats (by simp[FF,Rows.fnVtSigsEntryRow]));obtain⟨R,o,cap,w1,w2⟩:=tabSlice_of_reads (g:=11) (t:=270) (e:=3) (k:=.i64) (l:=AG9) Kr Kr Kr Tryz.i3 Tryz.c3 De (hR "internal/strconv.powtab" Rows.laid_internal_strconv_powtab (by simp[FF,Rows.fnVtSigsEntryRow]));have h14:14<W.heap.size:=by obtain⟨_,_,_,_,h,_⟩:=hc.ex;exact h
 have ho:W.cell? ⟨5,0,none⟩=some (.bool true):=by obtain⟨cs,f,p,hcc,hd⟩:=OT (g:=5) (t:=4) Kr Kr (hR "internal/strconv.optimize" Rows.laid_internal_strconv_optimize (by simp[FF,Rows.fnVtSigsEntryRow]));obtain⟨b,rfl,h2⟩:=DataW.trod_bool Tryz.b4 hd;have h2':=congrArg Prod.fst h2;simp only[Rows.laid_internal_strconv_optimize,DataW.lit.injEq,Lit.bool.injEq]at h2';rw[hcc 0,<-h2'];rfl
 exact⟨⟨hp,hf,⟨⟨R,o,cap,World.block_lt_of_cell? W _ (w2 0 De),h14,w1,w2⟩,hi.1,hi.2.1,hi.2.2⟩,hc,ho,h14,Nl⟩,
  ⟨XQ (g:=2) Kr Kr (hR "strconv.ErrSyntax" Rows.laid_strconv_ErrSyntax (by simp[FF,Rows.fnVtSigsEntryRow])),XQ (g:=3) Kr Kr (hR "strconv.ErrRange" Rows.laid_strconv_ErrRange (by simp[FF,Rows.fnVtSigsEntryRow])),Om⟩,
  utf8Tabs_of_reads (ρ:=Tryz.lays260_ren) { Tryz.lays260 with } xU hU1 hU2,Om⟩
end
end Go.Proofs.YtbnbadcnfchdhaaGreatDoor
