import Derived.Test.YtjolkdnfbmkjiaaGreatDoorChecked
import Derived.Test.YtjolkdnfbmkjiaaGreatDoorTie
import Derived.Test.YtjolkdnfbmkjiaaGreatDoorCards
import Derived.ProofKit
import Derived.OpenShut
import Derived.ShutString
import Derived.LaidMore
import Derived.Lay
import Derived.SevenTiedAt
import Derived.Stop.Joined
import Derived.Lib.LaidU8T
import Derived.SizedLaws
import Derived.Below
import Derived.ChangeOld
import Derived.ChangeSlices
import Derived.Deep.Slices
import Derived.Test.YtjolkdnfbmkjiaaGreatDoorVP0
set_option maxRecDepth 100000
set_option maxHeartbeats 8000000
set_option linter.unusedVariables false
set_option linter.unusedSimpArgs false
namespace Go.Proofs.YtjolkdnfbmkjiaaGreatDoor.LawC
open Go.ChangeShapes Go.WideShapes Go.ChangeAt Go.RowKit Go.Deep Go.Proofs.YtjolkdnfbmkjiaaGreatDoorW.PrintWords PFnTokensGaps
open Go.ChangeMaps (open_string shut_string)
theorem own:ownKnob Tryz.prog.godebug=none:=by kernel_rfl
theorem first_eq:Rows.laid_unicode_utf8_first=Lib.firstData:=by kernel_rfl
theorem accept_eq:(Rows.laid_unicode_utf8_acceptRanges:DataW Unit)=Lib.acceptData:=by kernel_rfl
def tabRen:Go.Shelf.Ren:=⟨fun n=>n,fun|5=>5|119=>123|138=>125|139=>126|n=>n,fun|3=>0|4=>1|n=>n⟩
theorem types8:U8Types Tryz.prog tabRen:=⟨Tryz.underlying5,Tryz.underlying123,Tryz.underlying125,Tryz.underlying126⟩
theorem extra8:U8Extra Tryz.prog tabRen:=⟨by kernel_rfl,by kernel_rfl,by kernel_rfl,by kernel_rfl,by kernel_rfl,by kernel_rfl,by kernel_rfl⟩
theorem tabs {W:World} (h:laidMetH Tryz.prog Rows.fnTokensGapsRow.laid W):Lib.Utf8Tabs 0 1 W:=by
 rw[MakeChecks.laidMetH_plain _ _ _ (by kernel_rfl)]at h
 have r4:=Lib.laidMet.reads h (.head _);have r3:=Lib.laidMet.reads h (.tail _ (.tail _ (.head _)));rw[accept_eq]at r4;rw[first_eq]at r3;exact utf8Tabs_of_readsT types8 extra8 r3 r4
theorem laidOut:laidOutB Tryz.prog=true:=by kernel_rfl
section
variable {H:Type} {enc:TypeId×Value→H} {w:World} {base:Nat} {spare:Nat→Bool} {held:Bool}
theorem node_of_trod {a:Addr} {i n:Nat} {cs:List Value} {x:DataW H×List MemPlace} (h1:w.cells? base (a.add (i*6)) 6=some cs) (h2:DataW.trod enc Tryz.prog w base spare held n 35 cs=some x) :
  ∃v:S35,∀j u,[Value.int .i64 v.f0,.string v.f1,.string v.f2,.string v.f3,.int .i64 v.f4,.int .i64 v.f5][j]?=some u→w.cell? (a.add (i*6+j))=some u:=by
 obtain⟨_,hlen,hcell⟩:=World.cells?_some h1;obtain⟨xs,k,hk,hxy,_,hxl,hf⟩:=DataW.trod_struct Tryz.underlying35 h2
 match cs,hlen with
 | [c0,c1,c2,c3,c4,c5],_=>
  have e0:=hcell 0 (by omega)
  have e1:=hcell 1 (by omega)
  have e2:=hcell 2 (by omega)
  have e3:=hcell 3 (by omega)
  have e4:=hcell 4 (by omega)
  have e5:=hcell 5 (by omega)
  rw[Go.Deep.add_add]at e0 e1 e2 e3 e4 e5
  match xs,hxl with
  | [y0,y1,y2,y3,y4,y5],_=>
   have g0:=hf 0 _ rfl;have g1:=hf 1 _ rfl;have g2:=hf 2 _ rfl;have g3:=hf 3 _ rfl;have g4:=hf 4 _ rfl;have g5:=hf 5 _ rfl;have k3:Tryz.prog.cellsOf 3=1:=by kernel_rfl
   have k9:Tryz.prog.cellsOf 9=1:=by kernel_rfl
   simp[k3,k9]at g0 g1 g2 g3 g4 g5;obtain⟨n0,q0,_⟩:=DataW.trod_int Tryz.underlying3 g0;obtain⟨n1,q1,_⟩:=DataW.trod_string Tryz.underlying9 g1;obtain⟨n2,q2,_⟩:=DataW.trod_string Tryz.underlying9 g2;obtain⟨n3,q3,_⟩:=DataW.trod_string Tryz.underlying9 g3;obtain⟨n4,q4,_⟩:=DataW.trod_int Tryz.underlying3 g4;obtain⟨n5,q5,_⟩:=DataW.trod_int Tryz.underlying3 g5;simp only[List.cons.injEq,and_true]at q0 q1 q2 q3 q4 q5;subst q0 q1 q2 q3 q4 q5;refine⟨⟨n0,n1,n2,n3,n4,n5⟩,fun j u hj=>?_⟩;have hj6:j<6:=by
    have:=(List.getElem?_eq_some_iff.1 hj).1
    simpa using this
   obtain rfl|rfl|rfl|rfl|rfl|rfl:j=0∨j=1∨j=2∨j=3∨j=4∨j=5:=by omega
   ·exact e0.trans (by simpa using hj)
   ·exact e1.trans (by simpa using hj)
   ·exact e2.trans (by simpa using hj)
   ·exact e3.trans (by simpa using hj)
   ·exact e4.trans (by simpa using hj)
   ·exact e5.trans (by simpa using hj)
theorem nodes_of {fuel:Nat} {A:Option Addr} {len cap:Nat} {x:DataW H×List MemPlace} (h:DataW.trod enc Tryz.prog w base spare held fuel 22 (Value.cells (.slice A len cap)).toList=some x):∃d:List S35,d.length=len∧len≤cap∧Kd.C k35 w A len d:=by
 rcases open_slice Tryz.underlying22 h with⟨hcs,_⟩|⟨a,l,c,m,n,D,Pl,hcs,_,hl,hm,hmm,_,hall⟩
 ·simp[Value.cells]at hcs
  obtain⟨rfl,rfl,rfl⟩:=hcs;exact⟨[],rfl,Nat.le_refl _,rfl,by decide,fun h=>absurd h (by decide)⟩
 ·simp[Value.cells]at hcs
  obtain⟨rfl,rfl,rfl⟩:=hcs;have c6:Tryz.prog.cellsOf 35=6:=by kernel_rfl
  rw[c6]at hall;have hlm:len≤m:=by rw[hmm];split<;>omega
  have hv:∀i,∃v:S35,i<len→∀j u,[Value.int .i64 v.f0,.string v.f1,.string v.f2,.string v.f3,.int .i64 v.f4,.int .i64 v.f5][j]?=some u→w.cell? (a.add (i*6+j))=some u:=fun i=>by
   by_cases hi:i<len
   ·obtain⟨cs',g1,g2⟩:=hall i (by omega)
    obtain⟨v,hv⟩:=node_of_trod g1 g2;exact⟨v,fun _=>hv⟩
   ·exact⟨z35,fun h=>absurd h hi⟩
  obtain⟨f,hf⟩:=Classical.skolem.1 hv;refine⟨(List.range len).map f,by simp,hl,by simp,Nat.le_trans hl hm,fun _=>⟨a,rfl,fun j p hj=>?_⟩⟩
  have hjl:j<len:=by
   have h:=(List.getElem?_eq_some_iff.1 hj).1
   simpa using h
  have hfj:f j=p:=by
   rw[List.getElem?_map,List.getElem?_range hjl]at hj
   simpa using hj
  subst hfj;exact⟨_,rfl,k35_mk w (f j),hf j hjl⟩
theorem bytes_of {fuel:Nat} {A:Option Addr} {len cap:Nat} {x:DataW H×List MemPlace} (h:DataW.trod enc Tryz.prog w base spare held fuel 23 (Value.cells (.slice A len cap)).toList=some x):∃b:List Int,b.length=len∧len≤cap∧Kd.C (Kd.int .u8) w A len b∧∀n∈b,0≤n∧n≤255:=by
 have c1:Tryz.prog.cellsOf 5=1:=by kernel_rfl
 rcases open_ints Tryz.underlying23 Tryz.underlying5 c1 h with⟨hcs,_⟩|⟨a,l,c,zs,hcs,_,hl,hm,hz,_,hcell,hwf⟩
 ·simp[Value.cells]at hcs
  obtain⟨rfl,rfl,rfl⟩:=hcs;exact⟨[],rfl,Nat.le_refl _,⟨rfl,by decide,fun h=>absurd h (by decide)⟩,fun n hn=>by cases hn⟩
 ·simp[Value.cells]at hcs
  obtain⟨rfl,rfl,rfl⟩:=hcs;have hlz:len≤zs.length:=by rw[hz];split<;>omega
  refine⟨zs.take len,by rw[List.length_take];omega,hl,⟨by rw[List.length_take];omega,Nat.le_trans hl hm,fun _=>⟨a,rfl,fun j p hj=>?_⟩⟩,fun n hn=>?_⟩
  ·have hjl:j<len:=by
    have h:=(List.getElem?_eq_some_iff.1 hj).1;rw[List.length_take]at h;omega
   rw[List.getElem?_take,if_pos hjl]at hj;refine⟨[.int .u8 p],rfl,rfl,fun i u hi=>?_⟩;have hi0:i=0:=by
    have:=(List.getElem?_eq_some_iff.1 hi).1
    simpa using this
   subst hi0;have e:=hcell j (by omega)
   rw[List.getD_eq_getElem?_getD,hj]at e;rw[show j*(Kd.int .u8).sz+0=j by show j*1+0=j;omega]
   exact e.trans (by simpa using hi)
  ·have:=hwf n (List.mem_of_mem_take hn)
   simp[Lit.wf]at this;have e1:IntKind.u8.min=0:=by decide
   have e2:IntKind.u8.max=255:=by decide
   omega
end
theorem lifted (law:∀(d:List S35) (A:Option Addr) (cd:Nat) (by_:List Int) (B:Option Addr) (cb:Nat) (w:World),Kd.C k35 w A d.length d→d.length≤cd→Kd.C (Kd.int .u8) w B by_.length by_→by_.length≤cb→(∀b∈by_,0≤b∧b≤255)→Lib.Utf8Tabs 0 1 w→Calls Tryz.prog 3 #[.slice A d.length cd,.slice B by_.length cb] w fun e w'=>e = .returned (.bool true)∧Below w.heap.size w w') (os:Os) (started:os.Started) (H:Type) (enc:TypeId×Value→H) :
  ReturnsInHanded {} Tryz.checked os 3 .any (fun w args=>(Rows.fnTokensGapsSpec.pre enc Tryz.prog Tryz.f3 Rows.fnTokensGapsRow.domain false w args∧laidMetH Tryz.prog Rows.fnTokensGapsRow.laid w)∧sizedMet enc Tryz.prog Tryz.f3 (OpenSpec.ofChange Rows.fnTokensGapsSpec) false w args)
   (Rows.fnTokensGapsSpec.post enc Tryz.prog Tryz.f3 false true false false):=by
 refine returnsInHanded_of_change_and (C:=Tryz.checked) (X:=fun w _=>laidMetH Tryz.prog Rows.fnTokensGapsRow.laid w) (fun _ _ _ hh h=>h.of_heap hh) own started (by kernel_rfl) Tryz.func3
  (ChangeSpec.witness_shaped (enc:=enc) (C:=Tryz.checked) (os:=os) (X:=fun w _=>laidMetH Tryz.prog Rows.fnTokensGapsRow.laid w) false (World.laidAll Tryz.prog os Rows.fnTokensGapsRow.laid) #[.slice none 0 0,.slice none 0 0] 8 (World.laidAll_os _ _ _)
   (World.shaped_of_ZipB (by kernel_rfl) (by kernel_rfl)) (by kernel_rfl) (by kernel_rfl) (by kernel_rfl)
   (by rw[MakeChecks.laidMetH_plain _ _ _ (by kernel_rfl)];exact laidMet_laidAll _ (by kernel_rfl) (by kernel_rfl))) ?_
 intro W base args ds gs before hval0 hW hc hsz0 hL _;have hval:∀(j:Nat) t v,Tryz.f3.params[j]?=some t→args[j]?=some v→Value.okWide Tryz.prog W .any base t v:=hval0;have hsz:(DataW.weightsEach Tryz.prog (Tryz.f3.params.toList++Rows.fnTokensGapsSpec.plain.varTypes Tryz.prog) (ds++gs)).all (· ≤ reachBytes)=true:=hsz0
 have hW':=hW;obtain⟨p,q,hA0,hV,rfl,_,_⟩:=hW;have hA:DataW.TrodAll enc Tryz.prog W 0 (fun _=>true) true Tryz.f3.params.toList args.toList ds p:=hA0;rw[Tryz.params3]at hA hval hsz;obtain⟨v0,v1,d0,d1,p0,p1,rfl,rfl,rfl,h0,h1⟩:=trodAll_two hA;obtain⟨rfl,rfl⟩:=trodVars_none hV;obtain⟨a0,len0,cap0,rfl⟩:=okWide_slice Tryz.underlying22 (hval 0 22 v0 rfl rfl);obtain⟨a1,len1,cap1,rfl⟩:=okWide_slice Tryz.underlying23 (hval 1 23 v1 rfl rfl);have k0:=h0;have k1:=h1;have lt0:∀x∈p0,x.block<W.heap.size:=by obtain⟨m,hm⟩:=k0;exact DataW.trod_lt m _ _ _ hm
 have lt1:∀x∈p1,x.block<W.heap.size:=by obtain⟨m,hm⟩:=k1;exact DataW.trod_lt m _ _ _ hm
 obtain⟨fu0,hf0⟩:=h0;obtain⟨fu1,hf1⟩:=h1;obtain⟨d,rfl,hcd,hC⟩:=nodes_of hf0;obtain⟨b,rfl,hcb,hB,hby⟩:=bytes_of hf1;clear hA0 hval0 hsz0 hsz;refine(law d a0 cap0 b a1 cap1 W hC hcd hB hcb hby (tabs hL)).mono fun e W' ⟨he,bel⟩=>?_;subst he;exact⟨_,rfl,_,_,_,[],_,[],hW',trodAll_mk1 (shut_bool Tryz.underlying4 _),(trodAll_cons_mk (Below.trod laidOut (by kernel_rfl) (of_decide_eq_true (by kernel_rfl)) k0 bel lt0) (trodAll_cons_mk (Below.trod laidOut (by kernel_rfl) (of_decide_eq_true (by kernel_rfl)) k1 bel lt1) trodAll_mk0)),rfl,bel.frame _,fun h=>by cases h⟩
theorem holds_of (law:∀(d:List S35) (A:Option Addr) (cd:Nat) (by_:List Int) (B:Option Addr) (cb:Nat) (w:World),Kd.C k35 w A d.length d→d.length≤cd→Kd.C (Kd.int .u8) w B by_.length by_→by_.length≤cb→(∀b∈by_,0≤b∧b≤255)→Lib.Utf8Tabs 0 1 w→Calls Tryz.prog 3 #[.slice A d.length cd,.slice B by_.length cb] w fun e w'=>e = .returned (.bool true)∧Below w.heap.size w w'):Rows.FnTokensGapsSaid:=
 OpenClaim.holds_of_wide 3 Tryz.f3 rfl rfl rfl rfl rfl rfl rfl ⟨rfl,rfl,rfl,rfl,rfl⟩ rfl rfl rfl rfl rfl (by kernel_rfl) Tryz.func3 (by kernel_rfl)
  (of_decide_eq_true (by kernel_rfl)) (by unfold Func.isWrapper;first|(rw[if_pos (by decide +kernel)];kernel_rfl)|(rw[if_neg (by decide +kernel)];exact⟨rfl,rfl⟩))
  (fun os started H enc _=>lifted law os started H enc)
theorem card_of (law:∀(d:List S35) (A:Option Addr) (cd:Nat) (by_:List Int) (B:Option Addr) (cb:Nat) (w:World),Kd.C k35 w A d.length d→d.length≤cd→Kd.C (Kd.int .u8) w B by_.length by_→by_.length≤cb→(∀b∈by_,0≤b∧b≤255)→Lib.Utf8Tabs 0 1 w→Calls Tryz.prog 3 #[.slice A d.length cd,.slice B by_.length cb] w fun e w'=>e = .returned (.bool true)∧Below w.heap.size w w'):Rows.FnTokensGapsCardSaid:=
 Claim7.holds_tied_plain_at .later [] [.data,.sentinel,.pinned] true (true, "6df4be45a98715cde3f2a3763c41b7d83e5424fbc37db74cef62f8b14b4bd571") true (holds_of law) (fun _ h=>by cases h) (by kernel_rfl) (fun _ h=>by cases h) fnTokensGaps_row_tie rfl ⟨rfl,rfl⟩ (by kernel_rfl) rfl
  (fun f fn hf hfn=>by
   obtain rfl:f=3:=Option.some.inj ((show Tryz.prog.funcNamed "given.example/pub-versicle/laws.FnTokensGaps" = some 3 by kernel_rfl).symm.trans hf) |>.symm
   obtain rfl:fn=Tryz.f3:=(Option.some.inj (Tryz.func3.symm.trans hfn)).symm;exact⟨by kernel_rfl,fun j t ht=>by
    rw[Tryz.params3]at ht;have hm:t∈[22,23]:=by simpa using Array.mem_of_getElem? ht
    have hall:([22,23].all fun u => !Tryz.prog.wantsStandIn u)=true:=by kernel_rfl
    exact(show Tryz.prog.wantsStandIn t=false by simpa using List.all_eq_true.1 hall t hm)⟩)
  (by kernel_rfl)
end Go.Proofs.YtjolkdnfbmkjiaaGreatDoor.LawC
