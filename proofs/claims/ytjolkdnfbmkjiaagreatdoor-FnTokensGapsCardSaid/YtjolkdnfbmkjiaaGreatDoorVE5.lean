import Derived.Test.YtjolkdnfbmkjiaaGreatDoorVE3
import Derived.StillTailTactics
set_option maxRecDepth 100000
set_option maxHeartbeats 8000000
set_option linter.unusedVariables false
set_option linter.unusedSimpArgs false
namespace Go.Proofs.YtjolkdnfbmkjiaaGreatDoor.Wr
open Go.RowKit Mem Go.Proofs.YtjolkdnfbmkjiaaGreatDoorW.PrintWords PFnTokensGaps
theorem node7 (d:List S35) (at_:Int) (l:List Int) (g:Int→List ByteArray) (cs:Int→Nat) (n1 n2 n3:ByteArray) (n4 n5:Int) :
  NWrites d at_ l g cs ⟨7,n1,n2,n3,n4,n5⟩ [.put [(⟨#[46,46,46]⟩:ByteArray),n1],.kids E E E [10]]:=by
 intro w0 w wr A cd b bm cc ov ovr l0 acc bl h hX hD ha hb hn hc;have HDE:=aK hD;have hle:=hD.len;simp only[costs,List.foldl,WOp.cost]at hc;have hcell:=h.st.c0;have hcell1:=h.st.c1;obtain⟨A1,L,cap1,rfl⟩:∃(A1:Option Addr) (L c1:Nat),ovr = .slice A1 L c1:=by
  rcases h.st.own.2 with⟨rfl,h0⟩|⟨g,cap,cur,rfl,_⟩
  ·exact⟨_,_,_,rfl⟩
  ·exact⟨_,_,_,rfl⟩
 have lb:b<wr.heap.size:=h.st.blk.lt;have hmf:∀(fn:Fn) (first cap:Array Value) (w:World),(Instr.makeFunc fn first cap).run Tryz.prog w = .ok (.func fn first cap) w:=fun _ _ _ _=>rfl
 have HS:=aK (((h.newH (H:=wr.heap.size) rfl 37 #[.pointer (some ⟨b,0,none⟩)] (by decide) (by decide)).newH (H:=wr.heap.size+1) (by simp) 3 #[.int .i64 at_] (by decide) (by decide)).newH (H:=wr.heap.size+1+1) (by simp) 3 #[.int .i64 (L:Int)] (by decide) (by decide))
 have HX:=aK hX;have HN:=aK hn;clear h hX hD hn
 go_enter_defers Tryz.func13,Tryz.ntmps13
 go_wp2_with fail
 clear hcell hcell1 lb;generalize ((wr.alloc (Obj.cells #[Value.pointer (some { block:=b,off:=0 })] 37)).alloc (Obj.cells #[Value.int IntKind.i64 at_] 3)).alloc (Obj.cells #[Value.int IntKind.i64 ↑L] 3)=W3 at HS ⊢;generalize wr.heap.size=gw at HS ⊢;obtain⟨ka,kw⟩:=HS.out.two;have kc:=HS.out.st.c0;obtain⟨ad,e2,hx0,hx1,hx2,hx3,hx4,hx5⟩:=at_T35 (Kd.C_below HDE.out.C HS.out.bel) at_ ha hb;cases e2;rw[HN.out]at hx0 hx1 hx2 hx3 hx4 hx5;dsimp only at hx0 hx1 hx2 hx3 hx4 hx5;have lad:(ad.add (at_.toNat*6)).block<W3.heap.size:=World.block_lt_of_cell? W3 _ hx0;have lb:b<W3.heap.size:=HS.out.st.blk.lt;have lga:gw+1<W3.heap.size:=World.block_lt_of_cell? W3 _ ka;have lgw:gw<W3.heap.size:=World.block_lt_of_cell? W3 _ kw;replace HS:=aK (HS.out.newH (H:=W3.heap.size) rfl 35 #[.int .i64 7,.string n1,.string n2,.string n3,.int .i64 n4,.int .i64 n5] (by decide) (by decide)).drew
 go_region
 clear hx0 hx1 hx2 hx3 hx4 hx5 lad lb lga lgw kc ka kw;generalize (W3.alloc (Obj.cells #[Value.int IntKind.i64 7,Value.string n1,Value.string n2,Value.string n3,Value.int IntKind.i64 n4,Value.int IntKind.i64 n5] 35)).drew=W4 at HS ⊢;generalize W3.heap.size=gn at HS ⊢;obtain⟨k0,k1,k2,k3,k4,k5,ka,kw⟩:=HS.out.nine
 go_wp2_with fail
 refine(HS.out.put (by first|rfl|simp) (by omega) [(⟨#[46,46,46]⟩:ByteArray),n1] (by simp) (by omega)).mono ?_
 rintro e W ⟨rfl,ovn,HSn⟩;replace HS:=aK HSn;clear HSn k0 k1 k2 k3 k4 k5 ka kw;obtain⟨k0,k1,k2,k3,k4,k5,ka,kw⟩:=HS.out.nine
 go_wp2_with fail
 refine(HS.out.dirs HX.out HDE.out (by omega)).mono ?_
 rintro e W ⟨rfl,ovn,HSn⟩;replace HS:=aK HSn;clear HSn k0 k1 k2 k3 k4 k5 ka kw;obtain⟨k0,k1,k2,k3,k4,k5,ka,kw⟩:=HS.out.nine
 go_wp2_with fail
 refine leaves_cons (f:=21) (args:=#[.pointer (some ⟨gw+1+1,0,none⟩),.pointer (some ⟨gw,0,none⟩),.pointer (some ⟨gw+1,0,none⟩)]) (by simp) (by simp[go_sem]) ?_
 refine(clo_any HS.out (gf:=gw+1+1) (gw:=gw) (ga:=gw+1) (from_:=(L:Int)) (at_:=at_) (by simp) (by simp) (by simp) (by omega) ha (by omega)).mono ?_
 rintro e u' w'' ⟨rfl,rfl,hz⟩;exact⟨_,results_none rfl _ _ _,rfl,_,hz.tl.tl.tl.tl⟩
theorem node8a (d:List S35) (at_:Int) (l:List Int) (g:Int→List ByteArray) (cs:Int→Nat) (n1 n2 n3:ByteArray) (n4 n5:Int) (hn3:n3.toList.isEmpty=true) :
  NWrites d at_ l g cs ⟨8,n1,n2,n3,n4,n5⟩ [.put [(⟨#[46,46,46]⟩:ByteArray)],.kids E E E [10],.kids E E E [5]]:=by
 intro w0 w wr A cd b bm cc ov ovr l0 acc bl h hX hD ha hb hn hc;have HDE:=aK hD;have hle:=hD.len;simp only[costs,List.foldl,WOp.cost]at hc;have hcell:=h.st.c0;have hcell1:=h.st.c1;obtain⟨A1,L,cap1,rfl⟩:∃(A1:Option Addr) (L c1:Nat),ovr = .slice A1 L c1:=by
  rcases h.st.own.2 with⟨rfl,h0⟩|⟨g,cap,cur,rfl,_⟩
  ·exact⟨_,_,_,rfl⟩
  ·exact⟨_,_,_,rfl⟩
 have lb:b<wr.heap.size:=h.st.blk.lt;have hmf:∀(fn:Fn) (first cap:Array Value) (w:World),(Instr.makeFunc fn first cap).run Tryz.prog w = .ok (.func fn first cap) w:=fun _ _ _ _=>rfl
 have HS:=aK (((h.newH (H:=wr.heap.size) rfl 37 #[.pointer (some ⟨b,0,none⟩)] (by decide) (by decide)).newH (H:=wr.heap.size+1) (by simp) 3 #[.int .i64 at_] (by decide) (by decide)).newH (H:=wr.heap.size+1+1) (by simp) 3 #[.int .i64 (L:Int)] (by decide) (by decide))
 have HX:=aK hX;have HN:=aK hn;clear h hX hD hn
 go_enter_defers Tryz.func13,Tryz.ntmps13
 go_wp2_with fail
 clear hcell hcell1 lb;generalize ((wr.alloc (Obj.cells #[Value.pointer (some { block:=b,off:=0 })] 37)).alloc (Obj.cells #[Value.int IntKind.i64 at_] 3)).alloc (Obj.cells #[Value.int IntKind.i64 ↑L] 3)=W3 at HS ⊢;generalize wr.heap.size=gw at HS ⊢;obtain⟨ka,kw⟩:=HS.out.two;have kc:=HS.out.st.c0;obtain⟨ad,e2,hx0,hx1,hx2,hx3,hx4,hx5⟩:=at_T35 (Kd.C_below HDE.out.C HS.out.bel) at_ ha hb;cases e2;rw[HN.out]at hx0 hx1 hx2 hx3 hx4 hx5;dsimp only at hx0 hx1 hx2 hx3 hx4 hx5;have lad:(ad.add (at_.toNat*6)).block<W3.heap.size:=World.block_lt_of_cell? W3 _ hx0;have lb:b<W3.heap.size:=HS.out.st.blk.lt;have lga:gw+1<W3.heap.size:=World.block_lt_of_cell? W3 _ ka;have lgw:gw<W3.heap.size:=World.block_lt_of_cell? W3 _ kw;replace HS:=aK (HS.out.newH (H:=W3.heap.size) rfl 35 #[.int .i64 8,.string n1,.string n2,.string n3,.int .i64 n4,.int .i64 n5] (by decide) (by decide)).drew
 go_region
 clear hx0 hx1 hx2 hx3 hx4 hx5 lad lb lga lgw kc ka kw;generalize (W3.alloc (Obj.cells #[Value.int IntKind.i64 8,Value.string n1,Value.string n2,Value.string n3,Value.int IntKind.i64 n4,Value.int IntKind.i64 n5] 35)).drew=W4 at HS ⊢;generalize W3.heap.size=gn at HS ⊢;obtain⟨k0,k1,k2,k3,k4,k5,ka,kw⟩:=HS.out.nine
 go_wp2_with fail
 refine(HS.out.put (by first|rfl|simp) (by omega) [(⟨#[46,46,46]⟩:ByteArray)] (by simp) (by omega)).mono ?_
 rintro e W ⟨rfl,ovn,HSn⟩;replace HS:=aK HSn;clear HSn k0 k1 k2 k3 k4 k5 ka kw;obtain⟨k0,k1,k2,k3,k4,k5,ka,kw⟩:=HS.out.nine
 go_wp2_with fail
 refine(HS.out.dirs HX.out HDE.out (by omega)).mono ?_
 rintro e W ⟨rfl,ovn,HSn⟩;replace HS:=aK HSn;clear HSn k0 k1 k2 k3 k4 k5 ka kw;obtain⟨k0,k1,k2,k3,k4,k5,ka,kw⟩:=HS.out.nine
 go_wp2_with fail
 refine(HS.out.kids (by first|rfl|simp) HX.out HDE.out E E E [5] (by decide) (by decide) (by decide) (by decide) (by omega)).mono ?_
 rintro e W ⟨rfl,ovn,HSn⟩;replace HS:=aK HSn;clear HSn k0 k1 k2 k3 k4 k5 ka kw;obtain⟨k0,k1,k2,k3,k4,k5,ka,kw⟩:=HS.out.nine
 go_wp2_with fail
 refine leaves_cons (f:=21) (args:=#[.pointer (some ⟨gw+1+1,0,none⟩),.pointer (some ⟨gw,0,none⟩),.pointer (some ⟨gw+1,0,none⟩)]) (by simp) (by simp[go_sem]) ?_
 refine(clo_any HS.out (gf:=gw+1+1) (gw:=gw) (ga:=gw+1) (from_:=(L:Int)) (at_:=at_) (by simp) (by simp) (by simp) (by omega) ha (by omega)).mono ?_
 rintro e u' w'' ⟨rfl,rfl,hz⟩;exact⟨_,results_none rfl _ _ _,rfl,_,hz.tl.tl.tl.tl⟩
theorem node8b (d:List S35) (at_:Int) (l:List Int) (g:Int→List ByteArray) (cs:Int→Nat) (n1 n2 n3:ByteArray) (n4 n5:Int) (hn3:n3.toList.isEmpty=false) :
  NWrites d at_ l g cs ⟨8,n1,n2,n3,n4,n5⟩ [.put [(⟨#[46,46,46]⟩:ByteArray)],.put [(⟨#[111,110]⟩:ByteArray),n3],.kids E E E [10],.kids E E E [5]]:=by
 intro w0 w wr A cd b bm cc ov ovr l0 acc bl h hX hD ha hb hn hc;have HDE:=aK hD;have hle:=hD.len;simp only[costs,List.foldl,WOp.cost]at hc;have hcell:=h.st.c0;have hcell1:=h.st.c1;obtain⟨A1,L,cap1,rfl⟩:∃(A1:Option Addr) (L c1:Nat),ovr = .slice A1 L c1:=by
  rcases h.st.own.2 with⟨rfl,h0⟩|⟨g,cap,cur,rfl,_⟩
  ·exact⟨_,_,_,rfl⟩
  ·exact⟨_,_,_,rfl⟩
 have lb:b<wr.heap.size:=h.st.blk.lt;have hmf:∀(fn:Fn) (first cap:Array Value) (w:World),(Instr.makeFunc fn first cap).run Tryz.prog w = .ok (.func fn first cap) w:=fun _ _ _ _=>rfl
 have HS:=aK (((h.newH (H:=wr.heap.size) rfl 37 #[.pointer (some ⟨b,0,none⟩)] (by decide) (by decide)).newH (H:=wr.heap.size+1) (by simp) 3 #[.int .i64 at_] (by decide) (by decide)).newH (H:=wr.heap.size+1+1) (by simp) 3 #[.int .i64 (L:Int)] (by decide) (by decide))
 have HX:=aK hX;have HN:=aK hn;clear h hX hD hn
 go_enter_defers Tryz.func13,Tryz.ntmps13
 go_wp2_with fail
 clear hcell hcell1 lb;generalize ((wr.alloc (Obj.cells #[Value.pointer (some { block:=b,off:=0 })] 37)).alloc (Obj.cells #[Value.int IntKind.i64 at_] 3)).alloc (Obj.cells #[Value.int IntKind.i64 ↑L] 3)=W3 at HS ⊢;generalize wr.heap.size=gw at HS ⊢;obtain⟨ka,kw⟩:=HS.out.two;have kc:=HS.out.st.c0;obtain⟨ad,e2,hx0,hx1,hx2,hx3,hx4,hx5⟩:=at_T35 (Kd.C_below HDE.out.C HS.out.bel) at_ ha hb;cases e2;rw[HN.out]at hx0 hx1 hx2 hx3 hx4 hx5;dsimp only at hx0 hx1 hx2 hx3 hx4 hx5;have lad:(ad.add (at_.toNat*6)).block<W3.heap.size:=World.block_lt_of_cell? W3 _ hx0;have lb:b<W3.heap.size:=HS.out.st.blk.lt;have lga:gw+1<W3.heap.size:=World.block_lt_of_cell? W3 _ ka;have lgw:gw<W3.heap.size:=World.block_lt_of_cell? W3 _ kw;replace HS:=aK (HS.out.newH (H:=W3.heap.size) rfl 35 #[.int .i64 8,.string n1,.string n2,.string n3,.int .i64 n4,.int .i64 n5] (by decide) (by decide)).drew
 go_region
 clear hx0 hx1 hx2 hx3 hx4 hx5 lad lb lga lgw kc ka kw;generalize (W3.alloc (Obj.cells #[Value.int IntKind.i64 8,Value.string n1,Value.string n2,Value.string n3,Value.int IntKind.i64 n4,Value.int IntKind.i64 n5] 35)).drew=W4 at HS ⊢;generalize W3.heap.size=gn at HS ⊢;obtain⟨k0,k1,k2,k3,k4,k5,ka,kw⟩:=HS.out.nine
 go_wp2_with fail
 refine(HS.out.put (by first|rfl|simp) (by omega) [(⟨#[46,46,46]⟩:ByteArray)] (by simp) (by omega)).mono ?_
 rintro e W ⟨rfl,ovn,HSn⟩;replace HS:=aK HSn;clear HSn k0 k1 k2 k3 k4 k5 ka kw;obtain⟨k0,k1,k2,k3,k4,k5,ka,kw⟩:=HS.out.nine
 go_wp2_with fail
 refine(HS.out.put (by first|rfl|simp) (by omega) [(⟨#[111,110]⟩:ByteArray),n3] (by simp) (by omega)).mono ?_
 rintro e W ⟨rfl,ovn,HSn⟩;replace HS:=aK HSn;clear HSn k0 k1 k2 k3 k4 k5 ka kw;obtain⟨k0,k1,k2,k3,k4,k5,ka,kw⟩:=HS.out.nine
 go_wp2_with fail
 refine(HS.out.dirs HX.out HDE.out (by omega)).mono ?_
 rintro e W ⟨rfl,ovn,HSn⟩;replace HS:=aK HSn;clear HSn k0 k1 k2 k3 k4 k5 ka kw;obtain⟨k0,k1,k2,k3,k4,k5,ka,kw⟩:=HS.out.nine
 go_wp2_with fail
 refine(HS.out.kids (by first|rfl|simp) HX.out HDE.out E E E [5] (by decide) (by decide) (by decide) (by decide) (by omega)).mono ?_
 rintro e W ⟨rfl,ovn,HSn⟩;replace HS:=aK HSn;clear HSn k0 k1 k2 k3 k4 k5 ka kw;obtain⟨k0,k1,k2,k3,k4,k5,ka,kw⟩:=HS.out.nine
 go_wp2_with fail
 refine leaves_cons (f:=21) (args:=#[.pointer (some ⟨gw+1+1,0,none⟩),.pointer (some ⟨gw,0,none⟩),.pointer (some ⟨gw+1,0,none⟩)]) (by simp) (by simp[go_sem]) ?_
 refine(clo_any HS.out (gf:=gw+1+1) (gw:=gw) (ga:=gw+1) (from_:=(L:Int)) (at_:=at_) (by simp) (by simp) (by simp) (by omega) ha (by omega)).mono ?_
 rintro e u' w'' ⟨rfl,rfl,hz⟩;exact⟨_,results_none rfl _ _ _,rfl,_,hz.tl.tl.tl.tl⟩
theorem node9 (d:List S35) (at_:Int) (l:List Int) (g:Int→List ByteArray) (cs:Int→Nat) (n1 n2 n3:ByteArray) (n4 n5:Int) :
  NWrites d at_ l g cs ⟨9,n1,n2,n3,n4,n5⟩ [.put [n1,(⟨#[58]⟩:ByteArray)],.fV E]:=by
 intro w0 w wr A cd b bm cc ov ovr l0 acc bl h hX hD ha hb hn hc;have HDE:=aK hD;have hle:=hD.len;simp only[costs,List.foldl,WOp.cost]at hc;have hcell:=h.st.c0;have hcell1:=h.st.c1;obtain⟨A1,L,cap1,rfl⟩:∃(A1:Option Addr) (L c1:Nat),ovr = .slice A1 L c1:=by
  rcases h.st.own.2 with⟨rfl,h0⟩|⟨g,cap,cur,rfl,_⟩
  ·exact⟨_,_,_,rfl⟩
  ·exact⟨_,_,_,rfl⟩
 have lb:b<wr.heap.size:=h.st.blk.lt;have hmf:∀(fn:Fn) (first cap:Array Value) (w:World),(Instr.makeFunc fn first cap).run Tryz.prog w = .ok (.func fn first cap) w:=fun _ _ _ _=>rfl
 have HS:=aK (((h.newH (H:=wr.heap.size) rfl 37 #[.pointer (some ⟨b,0,none⟩)] (by decide) (by decide)).newH (H:=wr.heap.size+1) (by simp) 3 #[.int .i64 at_] (by decide) (by decide)).newH (H:=wr.heap.size+1+1) (by simp) 3 #[.int .i64 (L:Int)] (by decide) (by decide))
 have HX:=aK hX;have HN:=aK hn;clear h hX hD hn
 go_enter_defers Tryz.func13,Tryz.ntmps13
 go_wp2_with fail
 clear hcell hcell1 lb;generalize ((wr.alloc (Obj.cells #[Value.pointer (some { block:=b,off:=0 })] 37)).alloc (Obj.cells #[Value.int IntKind.i64 at_] 3)).alloc (Obj.cells #[Value.int IntKind.i64 ↑L] 3)=W3 at HS ⊢;generalize wr.heap.size=gw at HS ⊢;obtain⟨ka,kw⟩:=HS.out.two;have kc:=HS.out.st.c0;obtain⟨ad,e2,hx0,hx1,hx2,hx3,hx4,hx5⟩:=at_T35 (Kd.C_below HDE.out.C HS.out.bel) at_ ha hb;cases e2;rw[HN.out]at hx0 hx1 hx2 hx3 hx4 hx5;dsimp only at hx0 hx1 hx2 hx3 hx4 hx5;have lad:(ad.add (at_.toNat*6)).block<W3.heap.size:=World.block_lt_of_cell? W3 _ hx0;have lb:b<W3.heap.size:=HS.out.st.blk.lt;have lga:gw+1<W3.heap.size:=World.block_lt_of_cell? W3 _ ka;have lgw:gw<W3.heap.size:=World.block_lt_of_cell? W3 _ kw;replace HS:=aK (HS.out.newH (H:=W3.heap.size) rfl 35 #[.int .i64 9,.string n1,.string n2,.string n3,.int .i64 n4,.int .i64 n5] (by decide) (by decide)).drew
 go_region
 clear hx0 hx1 hx2 hx3 hx4 hx5 lad lb lga lgw kc ka kw;generalize (W3.alloc (Obj.cells #[Value.int IntKind.i64 9,Value.string n1,Value.string n2,Value.string n3,Value.int IntKind.i64 n4,Value.int IntKind.i64 n5] 35)).drew=W4 at HS ⊢;generalize W3.heap.size=gn at HS ⊢;obtain⟨k0,k1,k2,k3,k4,k5,ka,kw⟩:=HS.out.nine
 go_wp2_with fail
 refine(HS.out.put (by first|rfl|simp) (by omega) [n1,(⟨#[58]⟩:ByteArray)] (by simp) (by omega)).mono ?_
 rintro e W ⟨rfl,ovn,HSn⟩;replace HS:=aK HSn;clear HSn k0 k1 k2 k3 k4 k5 ka kw;obtain⟨k0,k1,k2,k3,k4,k5,ka,kw⟩:=HS.out.nine
 go_wp2_with fail
 refine(HS.out.firstV HX.out HDE.out E (by decide) (by omega)).mono ?_
 rintro e W ⟨rfl,ovn,HSn⟩;replace HS:=aK HSn;clear HSn k0 k1 k2 k3 k4 k5 ka kw;obtain⟨k0,k1,k2,k3,k4,k5,ka,kw⟩:=HS.out.nine
 go_wp2_with fail
 refine leaves_cons (f:=21) (args:=#[.pointer (some ⟨gw+1+1,0,none⟩),.pointer (some ⟨gw,0,none⟩),.pointer (some ⟨gw+1,0,none⟩)]) (by simp) (by simp[go_sem]) ?_
 refine(clo_any HS.out (gf:=gw+1+1) (gw:=gw) (ga:=gw+1) (from_:=(L:Int)) (at_:=at_) (by simp) (by simp) (by simp) (by omega) ha (by omega)).mono ?_
 rintro e u' w'' ⟨rfl,rfl,hz⟩;exact⟨_,results_none rfl _ _ _,rfl,_,hz.tl.tl.tl.tl⟩
theorem node19 (d:List S35) (at_:Int) (l:List Int) (g:Int→List ByteArray) (cs:Int→Nat) (n1 n2 n3:ByteArray) (n4 n5:Int) :
  NWrites d at_ l g cs ⟨19,n1,n2,n3,n4,n5⟩ [.put [n1,(⟨#[58]⟩:ByteArray)],.fV E]:=by
 intro w0 w wr A cd b bm cc ov ovr l0 acc bl h hX hD ha hb hn hc;have HDE:=aK hD;have hle:=hD.len;simp only[costs,List.foldl,WOp.cost]at hc;have hcell:=h.st.c0;have hcell1:=h.st.c1;obtain⟨A1,L,cap1,rfl⟩:∃(A1:Option Addr) (L c1:Nat),ovr = .slice A1 L c1:=by
  rcases h.st.own.2 with⟨rfl,h0⟩|⟨g,cap,cur,rfl,_⟩
  ·exact⟨_,_,_,rfl⟩
  ·exact⟨_,_,_,rfl⟩
 have lb:b<wr.heap.size:=h.st.blk.lt;have hmf:∀(fn:Fn) (first cap:Array Value) (w:World),(Instr.makeFunc fn first cap).run Tryz.prog w = .ok (.func fn first cap) w:=fun _ _ _ _=>rfl
 have HS:=aK (((h.newH (H:=wr.heap.size) rfl 37 #[.pointer (some ⟨b,0,none⟩)] (by decide) (by decide)).newH (H:=wr.heap.size+1) (by simp) 3 #[.int .i64 at_] (by decide) (by decide)).newH (H:=wr.heap.size+1+1) (by simp) 3 #[.int .i64 (L:Int)] (by decide) (by decide))
 have HX:=aK hX;have HN:=aK hn;clear h hX hD hn
 go_enter_defers Tryz.func13,Tryz.ntmps13
 go_wp2_with fail
 clear hcell hcell1 lb;generalize ((wr.alloc (Obj.cells #[Value.pointer (some { block:=b,off:=0 })] 37)).alloc (Obj.cells #[Value.int IntKind.i64 at_] 3)).alloc (Obj.cells #[Value.int IntKind.i64 ↑L] 3)=W3 at HS ⊢;generalize wr.heap.size=gw at HS ⊢;obtain⟨ka,kw⟩:=HS.out.two;have kc:=HS.out.st.c0;obtain⟨ad,e2,hx0,hx1,hx2,hx3,hx4,hx5⟩:=at_T35 (Kd.C_below HDE.out.C HS.out.bel) at_ ha hb;cases e2;rw[HN.out]at hx0 hx1 hx2 hx3 hx4 hx5;dsimp only at hx0 hx1 hx2 hx3 hx4 hx5;have lad:(ad.add (at_.toNat*6)).block<W3.heap.size:=World.block_lt_of_cell? W3 _ hx0;have lb:b<W3.heap.size:=HS.out.st.blk.lt;have lga:gw+1<W3.heap.size:=World.block_lt_of_cell? W3 _ ka;have lgw:gw<W3.heap.size:=World.block_lt_of_cell? W3 _ kw;replace HS:=aK (HS.out.newH (H:=W3.heap.size) rfl 35 #[.int .i64 19,.string n1,.string n2,.string n3,.int .i64 n4,.int .i64 n5] (by decide) (by decide)).drew
 go_region
 clear hx0 hx1 hx2 hx3 hx4 hx5 lad lb lga lgw kc ka kw;generalize (W3.alloc (Obj.cells #[Value.int IntKind.i64 19,Value.string n1,Value.string n2,Value.string n3,Value.int IntKind.i64 n4,Value.int IntKind.i64 n5] 35)).drew=W4 at HS ⊢;generalize W3.heap.size=gn at HS ⊢;obtain⟨k0,k1,k2,k3,k4,k5,ka,kw⟩:=HS.out.nine
 go_wp2_with fail
 refine(HS.out.put (by first|rfl|simp) (by omega) [n1,(⟨#[58]⟩:ByteArray)] (by simp) (by omega)).mono ?_
 rintro e W ⟨rfl,ovn,HSn⟩;replace HS:=aK HSn;clear HSn k0 k1 k2 k3 k4 k5 ka kw;obtain⟨k0,k1,k2,k3,k4,k5,ka,kw⟩:=HS.out.nine
 go_wp2_with fail
 refine(HS.out.firstV HX.out HDE.out E (by decide) (by omega)).mono ?_
 rintro e W ⟨rfl,ovn,HSn⟩;replace HS:=aK HSn;clear HSn k0 k1 k2 k3 k4 k5 ka kw;obtain⟨k0,k1,k2,k3,k4,k5,ka,kw⟩:=HS.out.nine
 go_wp2_with fail
 refine leaves_cons (f:=21) (args:=#[.pointer (some ⟨gw+1+1,0,none⟩),.pointer (some ⟨gw,0,none⟩),.pointer (some ⟨gw+1,0,none⟩)]) (by simp) (by simp[go_sem]) ?_
 refine(clo_any HS.out (gf:=gw+1+1) (gw:=gw) (ga:=gw+1) (from_:=(L:Int)) (at_:=at_) (by simp) (by simp) (by simp) (by omega) ha (by omega)).mono ?_
 rintro e u' w'' ⟨rfl,rfl,hz⟩;exact⟨_,results_none rfl _ _ _,rfl,_,hz.tl.tl.tl.tl⟩
theorem node10 (d:List S35) (at_:Int) (l:List Int) (g:Int→List ByteArray) (cs:Int→Nat) (n1 n2 n3:ByteArray) (n4 n5:Int) :
  NWrites d at_ l g cs ⟨10,n1,n2,n3,n4,n5⟩ [.put [(⟨#[64]⟩:ByteArray),n1],.kids (⟨#[40]⟩:ByteArray) (⟨#[41]⟩:ByteArray) E [9]]:=by
 intro w0 w wr A cd b bm cc ov ovr l0 acc bl h hX hD ha hb hn hc;have HDE:=aK hD;have hle:=hD.len;simp only[costs,List.foldl,WOp.cost]at hc;have hcell:=h.st.c0;have hcell1:=h.st.c1;obtain⟨A1,L,cap1,rfl⟩:∃(A1:Option Addr) (L c1:Nat),ovr = .slice A1 L c1:=by
  rcases h.st.own.2 with⟨rfl,h0⟩|⟨g,cap,cur,rfl,_⟩
  ·exact⟨_,_,_,rfl⟩
  ·exact⟨_,_,_,rfl⟩
 have lb:b<wr.heap.size:=h.st.blk.lt;have hmf:∀(fn:Fn) (first cap:Array Value) (w:World),(Instr.makeFunc fn first cap).run Tryz.prog w = .ok (.func fn first cap) w:=fun _ _ _ _=>rfl
 have HS:=aK (((h.newH (H:=wr.heap.size) rfl 37 #[.pointer (some ⟨b,0,none⟩)] (by decide) (by decide)).newH (H:=wr.heap.size+1) (by simp) 3 #[.int .i64 at_] (by decide) (by decide)).newH (H:=wr.heap.size+1+1) (by simp) 3 #[.int .i64 (L:Int)] (by decide) (by decide))
 have HX:=aK hX;have HN:=aK hn;clear h hX hD hn
 go_enter_defers Tryz.func13,Tryz.ntmps13
 go_wp2_with fail
 clear hcell hcell1 lb;generalize ((wr.alloc (Obj.cells #[Value.pointer (some { block:=b,off:=0 })] 37)).alloc (Obj.cells #[Value.int IntKind.i64 at_] 3)).alloc (Obj.cells #[Value.int IntKind.i64 ↑L] 3)=W3 at HS ⊢;generalize wr.heap.size=gw at HS ⊢;obtain⟨ka,kw⟩:=HS.out.two;have kc:=HS.out.st.c0;obtain⟨ad,e2,hx0,hx1,hx2,hx3,hx4,hx5⟩:=at_T35 (Kd.C_below HDE.out.C HS.out.bel) at_ ha hb;cases e2;rw[HN.out]at hx0 hx1 hx2 hx3 hx4 hx5;dsimp only at hx0 hx1 hx2 hx3 hx4 hx5;have lad:(ad.add (at_.toNat*6)).block<W3.heap.size:=World.block_lt_of_cell? W3 _ hx0;have lb:b<W3.heap.size:=HS.out.st.blk.lt;have lga:gw+1<W3.heap.size:=World.block_lt_of_cell? W3 _ ka;have lgw:gw<W3.heap.size:=World.block_lt_of_cell? W3 _ kw;replace HS:=aK (HS.out.newH (H:=W3.heap.size) rfl 35 #[.int .i64 10,.string n1,.string n2,.string n3,.int .i64 n4,.int .i64 n5] (by decide) (by decide)).drew
 go_region
 clear hx0 hx1 hx2 hx3 hx4 hx5 lad lb lga lgw kc ka kw;generalize (W3.alloc (Obj.cells #[Value.int IntKind.i64 10,Value.string n1,Value.string n2,Value.string n3,Value.int IntKind.i64 n4,Value.int IntKind.i64 n5] 35)).drew=W4 at HS ⊢;generalize W3.heap.size=gn at HS ⊢;obtain⟨k0,k1,k2,k3,k4,k5,ka,kw⟩:=HS.out.nine
 go_wp2_with fail
 refine(HS.out.put (by first|rfl|simp) (by omega) [(⟨#[64]⟩:ByteArray),n1] (by simp) (by omega)).mono ?_
 rintro e W ⟨rfl,ovn,HSn⟩;replace HS:=aK HSn;clear HSn k0 k1 k2 k3 k4 k5 ka kw;obtain⟨k0,k1,k2,k3,k4,k5,ka,kw⟩:=HS.out.nine
 go_wp2_with fail
 refine(HS.out.kids (by first|rfl|simp) HX.out HDE.out (⟨#[40]⟩:ByteArray) (⟨#[41]⟩:ByteArray) E [9] (by decide) (by decide) (by decide) (by decide) (by omega)).mono ?_
 rintro e W ⟨rfl,ovn,HSn⟩;replace HS:=aK HSn;clear HSn k0 k1 k2 k3 k4 k5 ka kw;obtain⟨k0,k1,k2,k3,k4,k5,ka,kw⟩:=HS.out.nine
 go_wp2_with fail
 refine leaves_cons (f:=21) (args:=#[.pointer (some ⟨gw+1+1,0,none⟩),.pointer (some ⟨gw,0,none⟩),.pointer (some ⟨gw+1,0,none⟩)]) (by simp) (by simp[go_sem]) ?_
 refine(clo_any HS.out (gf:=gw+1+1) (gw:=gw) (ga:=gw+1) (from_:=(L:Int)) (at_:=at_) (by simp) (by simp) (by simp) (by omega) ha (by omega)).mono ?_
 rintro e u' w'' ⟨rfl,rfl,hz⟩;exact⟨_,results_none rfl _ _ _,rfl,_,hz.tl.tl.tl.tl⟩
theorem costs_le (d:List S35) (cs:Int→Nat) (l:List Int):∀(ops:List WOp) (cc:Nat),cc≤costs d cs l cc ops
 | [],cc=>Nat.le_refl _
 | o::ops,cc=>Nat.le_trans (Nat.le_add_right cc (o.cost d cs l)) (costs_le d cs l ops (cc+o.cost d cs l))
theorem node_rest (d:List S35) (at_:Int) (l:List Int) (g:Int→List ByteArray) (cs:Int→Nat) (k:Int) (n1 n2 n3:ByteArray) (n4 n5:Int) (ops:List WOp) (hW:Writes d at_ l g cs 29 ⟨k,n1,n2,n3,n4,n5⟩ ops) (q1:(k==1)=false) (q2:(k==2)=false) (q3:(k==3)=false) (q4:(k==4)=false) (q5:(k==5)=false) (q6:(k==6)=false) (q7:(k==7)=false) (q8:(k==8)=false) (q9:(k==9)=false) (q19:(k==19)=false) (q10:(k==10)=false) :
  NWrites d at_ l g cs ⟨k,n1,n2,n3,n4,n5⟩ ops:=by
 intro w0 w wr A cd b bm cc ov ovr l0 acc bl h hX hD ha hb hn hc;have HDE:=aK hD;have hle:=hD.len;have HWR:=aK hW;have HC:=aK hc;have hcc:=costs_le d cs l ops cc;replace hc:cc≤900000:=by omega
 clear hW;have hcell:=h.st.c0;have hcell1:=h.st.c1;obtain⟨A1,L,cap1,rfl⟩:∃(A1:Option Addr) (L c1:Nat),ovr = .slice A1 L c1:=by
  rcases h.st.own.2 with⟨rfl,h0⟩|⟨g,cap,cur,rfl,_⟩
  ·exact⟨_,_,_,rfl⟩
  ·exact⟨_,_,_,rfl⟩
 have lb:b<wr.heap.size:=h.st.blk.lt;have hmf:∀(fn:Fn) (first cap:Array Value) (w:World),(Instr.makeFunc fn first cap).run Tryz.prog w = .ok (.func fn first cap) w:=fun _ _ _ _=>rfl
 have HS:=aK (((h.newH (H:=wr.heap.size) rfl 37 #[.pointer (some ⟨b,0,none⟩)] (by decide) (by decide)).newH (H:=wr.heap.size+1) (by simp) 3 #[.int .i64 at_] (by decide) (by decide)).newH (H:=wr.heap.size+1+1) (by simp) 3 #[.int .i64 (L:Int)] (by decide) (by decide))
 have HX:=aK hX;have HN:=aK hn;clear h hX hD hn
 go_enter_defers Tryz.func13,Tryz.ntmps13
 go_wp2_with fail
 clear hcell hcell1 lb;generalize ((wr.alloc (Obj.cells #[Value.pointer (some { block:=b,off:=0 })] 37)).alloc (Obj.cells #[Value.int IntKind.i64 at_] 3)).alloc (Obj.cells #[Value.int IntKind.i64 ↑L] 3)=W3 at HS ⊢;generalize wr.heap.size=gw at HS ⊢;obtain⟨ka,kw⟩:=HS.out.two;have kc:=HS.out.st.c0;obtain⟨ad,e2,hx0,hx1,hx2,hx3,hx4,hx5⟩:=at_T35 (Kd.C_below HDE.out.C HS.out.bel) at_ ha hb;cases e2;rw[HN.out]at hx0 hx1 hx2 hx3 hx4 hx5;dsimp only at hx0 hx1 hx2 hx3 hx4 hx5;have lad:(ad.add (at_.toNat*6)).block<W3.heap.size:=World.block_lt_of_cell? W3 _ hx0;have lb:b<W3.heap.size:=HS.out.st.blk.lt;have lga:gw+1<W3.heap.size:=World.block_lt_of_cell? W3 _ ka;have lgw:gw<W3.heap.size:=World.block_lt_of_cell? W3 _ kw;replace HS:=aK (HS.out.newH (H:=W3.heap.size) rfl 35 #[.int .i64 k,.string n1,.string n2,.string n3,.int .i64 n4,.int .i64 n5] (by decide) (by decide)).drew
 go_region
 clear hx0 hx1 hx2 hx3 hx4 hx5 lad lb lga lgw kc ka kw;generalize (W3.alloc (Obj.cells #[Value.int IntKind.i64 k,Value.string n1,Value.string n2,Value.string n3,Value.int IntKind.i64 n4,Value.int IntKind.i64 n5] 35)).drew=W4 at HS ⊢;generalize W3.heap.size=gn at HS ⊢;obtain⟨k0,k1,k2,k3,k4,k5,ka,kw⟩:=HS.out.nine
 go_wp2_with fail
 refine(HWR.out _ _ _ _ _ _ _ _ _ _ _ _ _ HS.out HX.out HDE.out ha hb HN.out HC.out).mono ?_;rintro e W ⟨rfl,ovn,HSn⟩;replace HS:=aK HSn;clear HSn k0 k1 k2 k3 k4 k5 ka kw;obtain⟨k0,k1,k2,k3,k4,k5,ka,kw⟩:=HS.out.nine
 go_wp2_with fail
 refine leaves_cons (f:=21) (args:=#[.pointer (some ⟨gw+1+1,0,none⟩),.pointer (some ⟨gw,0,none⟩),.pointer (some ⟨gw+1,0,none⟩)]) (by simp) (by simp[go_sem]) ?_
 refine(clo_any HS.out (gf:=gw+1+1) (gw:=gw) (ga:=gw+1) (from_:=(L:Int)) (at_:=at_) (by simp) (by simp) (by simp) (by have:=HC.out;omega) ha (by omega)).mono ?_
 rintro e u' w'' ⟨rfl,rfl,hz⟩;exact⟨_,results_none rfl _ _ _,rfl,_,hz.tl.tl.tl.tl⟩
theorem rest_def (d:List S35) (at_:Int) (l:List Int) (g:Int→List ByteArray) (cs:Int→Nat) (k:Int) (n1 n2 n3:ByteArray) (n4 n5:Int) (ops:List WOp) (hW:Writes d at_ l g cs 48 ⟨k,n1,n2,n3,n4,n5⟩ ops) (q11:(k==11)=false) (q12:(k==12)=false) (q13:(k==13)=false) (q14:(k==14)=false) (q23:(k==23)=false) (q15:(k==15)=false) (q17:(k==17)=false) (q18:(k==18)=false) (q21:(k==21)=false) (q22:(k==22)=false) (q16:(k==16)=false) (q20:(k==20)=false) (q28:(k==28)=false) (q33:(k==33)=false) (q38:(k==38)=false) :
  Writes d at_ l g cs 29 ⟨k,n1,n2,n3,n4,n5⟩ ops:=by
 intro w0 w wr A cd b bm cc ov ovr l0 acc bl h hX hD ha hb hn hc;have HDE:=aK hD;obtain⟨ad,e2,hx0,hx1,hx2,hx3,hx4,hx5⟩:=at_T35 (Kd.C_below hD.C h.bel) at_ ha hb;cases e2;rw[hn]at hx0 hx1 hx2 hx3 hx4 hx5;dsimp only at hx0 hx1 hx2 hx3 hx4 hx5;have HWR:=aK hW;have HC:=aK hc;have HN:=aK hn;clear hW hc;have hcell:=h.st.c0;have HS:=aK (h.new 35 #[.int .i64 k,.string n1,.string n2,.string n3,.int .i64 n4,.int .i64 n5] (by decide) (by decide))
 have HX:=aK hX;clear h hX hD hn;go_enter Tryz.func29,Tryz.ntmps29
 go_wp2_with fail
 refine(HWR.out _ _ _ _ _ _ _ _ _ _ _ _ _ HS.out HX.out HDE.out ha hb HN.out HC.out).mono ?_;rintro e W ⟨rfl,ovn,HSn⟩;replace HS:=aK HSn;clear HSn;obtain⟨k0,k1,k2,k3,k4,k5⟩:=HS.out.six
 go_wp2_with fail
 go_end0
 exact⟨rfl,_,HS.out.tl⟩
theorem node1 (d:List S35) (at_:Int) (l:List Int) (g:Int→List ByteArray) (cs:Int→Nat) (n1 n2 n3:ByteArray) (n4 n5:Int) :
  NWrites d at_ l g cs ⟨1,n1,n2,n3,n4,n5⟩ [.all]:=by
 intro w0 w wr A cd b bm cc ov ovr l0 acc bl h hX hD ha hb hn hc;have HDE:=aK hD;have hle:=hD.len;simp only[costs,List.foldl,WOp.cost]at hc;have hcell:=h.st.c0;have hcell1:=h.st.c1;obtain⟨A1,L,cap1,rfl⟩:∃(A1:Option Addr) (L c1:Nat),ovr = .slice A1 L c1:=by
  rcases h.st.own.2 with⟨rfl,h0⟩|⟨g,cap,cur,rfl,_⟩
  ·exact⟨_,_,_,rfl⟩
  ·exact⟨_,_,_,rfl⟩
 have lb:b<wr.heap.size:=h.st.blk.lt;have hmf:∀(fn:Fn) (first cap:Array Value) (w:World),(Instr.makeFunc fn first cap).run Tryz.prog w = .ok (.func fn first cap) w:=fun _ _ _ _=>rfl
 have HS:=aK (((h.newH (H:=wr.heap.size) rfl 37 #[.pointer (some ⟨b,0,none⟩)] (by decide) (by decide)).newH (H:=wr.heap.size+1) (by simp) 3 #[.int .i64 at_] (by decide) (by decide)).newH (H:=wr.heap.size+1+1) (by simp) 3 #[.int .i64 (L:Int)] (by decide) (by decide))
 have HX:=aK hX;have HN:=aK hn;clear h hX hD hn
 go_enter_defers Tryz.func13,Tryz.ntmps13
 go_wp2_with fail
 clear hcell hcell1 lb;generalize ((wr.alloc (Obj.cells #[Value.pointer (some { block:=b,off:=0 })] 37)).alloc (Obj.cells #[Value.int IntKind.i64 at_] 3)).alloc (Obj.cells #[Value.int IntKind.i64 ↑L] 3)=W3 at HS ⊢;generalize wr.heap.size=gw at HS ⊢;obtain⟨ka,kw⟩:=HS.out.two;have kc:=HS.out.st.c0;obtain⟨ad,e2,hx0,hx1,hx2,hx3,hx4,hx5⟩:=at_T35 (Kd.C_below HDE.out.C HS.out.bel) at_ ha hb;cases e2;rw[HN.out]at hx0 hx1 hx2 hx3 hx4 hx5;dsimp only at hx0 hx1 hx2 hx3 hx4 hx5;have lad:(ad.add (at_.toNat*6)).block<W3.heap.size:=World.block_lt_of_cell? W3 _ hx0;have lb:b<W3.heap.size:=HS.out.st.blk.lt;have lga:gw+1<W3.heap.size:=World.block_lt_of_cell? W3 _ ka;have lgw:gw<W3.heap.size:=World.block_lt_of_cell? W3 _ kw;replace HS:=aK (HS.out.newH (H:=W3.heap.size) rfl 35 #[.int .i64 1,.string n1,.string n2,.string n3,.int .i64 n4,.int .i64 n5] (by decide) (by decide)).drew
 go_region
 clear hx0 hx1 hx2 hx3 hx4 hx5 lad lb lga lgw kc ka kw;generalize (W3.alloc (Obj.cells #[Value.int IntKind.i64 1,Value.string n1,Value.string n2,Value.string n3,Value.int IntKind.i64 n4,Value.int IntKind.i64 n5] 35)).drew=W4 at HS ⊢;generalize W3.heap.size=gn at HS ⊢;obtain⟨k0,k1,k2,k3,k4,k5,ka,kw⟩:=HS.out.nine;have kc:=HS.out.st.c0;obtain⟨K,hK⟩:=HX.out.K;have HKK:=aK hK;have HC:=aK (Kd.C_below HDE.out.C HS.out.drew.bel);have hll:=HX.out.len;clear hK
 go_wp2_with fail
 go_still_tail 5,(by kernel_rfl)
 change wpList _ _ _ _ _ W4.drew
 go_wp2_with (go_at_call 22;refine(spec_Kids.calls K _ cd d at_ l _ HC.out HDE.out.le HKK.out).mono ?_;rintro e w1 ⟨v,rfl,hR,hb1⟩;have HR:=aK hR;have HW1:=aK hb1;clear hR hb1)
 all_goals
  obtain⟨Al,cl,rfl⟩:=Kd.R_slice HR.out;replace HS:=aK (HS.out.drew.below HW1.out);have HL0:=aK HS.out.restart;clear k0 k1 k2 k3 k4 k5 ka kw kc
  go_wp2_with fail
  go_loopw [7] (fun v7 wr3=>∃(i:Nat) (ovl:Value),v7 = .int .i64 (i:Int)∧i≤l.length∧Aside0 (NSt w0 (some ad) cd d b bm w1 _ _ _ wr3 ovl ((l.take i).flatMap g) (cc+((l.take i).map cs).sum))) (fun v7 _=>l.length-(intOf v7).toNat)
  case atStart=>exact⟨0,_,rfl,Nat.zero_le _,HL0⟩
  case round=>
   obtain⟨i,ovl,rfl,hi,HL⟩:=hrel
   by_cases hil:i=l.length
   ·subst hil
    have hlt:decide ((l.length:Int)<(l.length:Int))=false:=decide_eq_false (by omega)
    rw[List.take_length]at HL;have HJ:=aK (HS.out.rejoin HL.out)
    go_wp2_with fail
    refine leaves_cons (f:=21) (args:=#[.pointer (some ⟨gw+1+1,0,none⟩),.pointer (some ⟨gw,0,none⟩),.pointer (some ⟨gw+1,0,none⟩)]) (by simp) (by simp[go_sem]) ?_
    refine(clo_any HJ.out (gf:=gw+1+1) (gw:=gw) (ga:=gw+1) (from_:=(L:Int)) (at_:=at_) (by simp) (by simp) (by simp) (by omega) ha (by omega)).mono ?_
    rintro e u' w'' ⟨rfl,rfl,hz⟩;exact⟨_,results_none rfl _ _ _,rfl,_,hz.tl.tl.tl.tl⟩
   ·have hlt:decide ((i:Int)<(l.length:Int))=true:=decide_eq_true (by omega)
    have hil2:i<l.length:=by omega
    have hsum:=sum_take cs l i hil2;have hsle:=sum_le cs l (i+1);have hfl:=flat_take g l i hil2;obtain⟨x,hx⟩:∃x,l.getD i 0=x:=⟨_,rfl⟩;have hxm:x∈l:=by rw[←hx,List.getD_eq_getElem?_getD,List.getElem?_eq_getElem hil2];exact List.getElem_mem _
    rw[hx]at hsum hfl;have HLD:=aK HL.out.drew;obtain⟨ad1,e1,hx9⟩:=Kd.at_int (Kd.R_reads' (R_stay HR.out HS.out.st HL.out.wk)).2.2 i (by omega) (by omega)
    cases e1;rw[rd_D,hx,Int.toNat_natCast]at hx9;obtain⟨k0,k1,k2,k3,k4,k5,ka,kw⟩:=(HS.out.rejoin HL.out).nine;have HF:=aK (And.intro hfl hsum);have HND:=aK (HX.out.spec x hxm);clear hfl
    go_wp2_with fail
    go_still_tail 5,(by kernel_rfl)
    change wpList _ _ _ _ _ wr.drew
    go_wp2_with (go_at_call 13;refine(HLD.out.node HND.out HDE.out (by omega)).mono ?_;rintro e w4 ⟨rfl,ov4,h4⟩;have H4:=aK h4;clear h4)
    all_goals
     refine⟨⟨i+1,ov4,by simp,hil2,⟨?_⟩⟩,by simp[intOf];omega⟩
     rw[HF.out.1,HF.out.2,←Nat.add_assoc];exact H4.out
end Go.Proofs.YtjolkdnfbmkjiaaGreatDoor.Wr
