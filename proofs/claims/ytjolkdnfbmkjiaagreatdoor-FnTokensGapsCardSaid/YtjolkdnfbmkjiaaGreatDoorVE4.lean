import Derived.Test.YtjolkdnfbmkjiaaGreatDoorVE3
set_option maxRecDepth 100000
set_option maxHeartbeats 8000000
set_option linter.unusedVariables false
set_option linter.unusedSimpArgs false
namespace Go.Proofs.YtjolkdnfbmkjiaaGreatDoor.Wr
open Go.RowKit Mem Go.Proofs.YtjolkdnfbmkjiaaGreatDoorW.PrintWords PFnTokensGaps
theorem node2a (d:List S35) (at_:Int) (l:List Int) (g:Int→List ByteArray) (cs:Int→Nat) (n1 n2 n3:ByteArray) (n4 n5:Int) (hfl:n4=0) (hn1:n1.toList.isEmpty=true) :
  NWrites d at_ l g cs ⟨2,n1,n2,n3,n4,n5⟩ [.put [n3],.kids (⟨#[40]⟩:ByteArray) (⟨#[41]⟩:ByteArray) E [4],.kids E E E [10],.kids E E E [5]]:=by
 subst hfl;intro w0 w wr A cd b bm cc ov ovr l0 acc bl h hX hD ha hb hn hc;have HDE:=aK hD;have hle:=hD.len;simp only[costs,List.foldl,WOp.cost]at hc;have hcell:=h.st.c0;have hcell1:=h.st.c1;obtain⟨A1,L,cap1,rfl⟩:∃(A1:Option Addr) (L c1:Nat),ovr = .slice A1 L c1:=by
  rcases h.st.own.2 with⟨rfl,h0⟩|⟨g,cap,cur,rfl,_⟩
  ·exact⟨_,_,_,rfl⟩
  ·exact⟨_,_,_,rfl⟩
 have lb:b<wr.heap.size:=h.st.blk.lt;have hmf:∀(fn:Fn) (first cap:Array Value) (w:World),(Instr.makeFunc fn first cap).run Tryz.prog w = .ok (.func fn first cap) w:=fun _ _ _ _=>rfl
 have HS:=aK (((h.newH (H:=wr.heap.size) rfl 37 #[.pointer (some ⟨b,0,none⟩)] (by decide) (by decide)).newH (H:=wr.heap.size+1) (by simp) 3 #[.int .i64 at_] (by decide) (by decide)).newH (H:=wr.heap.size+1+1) (by simp) 3 #[.int .i64 (L:Int)] (by decide) (by decide))
 have HX:=aK hX;have HN:=aK hn;clear h hX hD hn
 go_enter_defers Tryz.func13,Tryz.ntmps13
 go_wp2_with fail
 clear hcell hcell1 lb;generalize ((wr.alloc (Obj.cells #[Value.pointer (some { block:=b,off:=0 })] 37)).alloc (Obj.cells #[Value.int IntKind.i64 at_] 3)).alloc (Obj.cells #[Value.int IntKind.i64 ↑L] 3)=W3 at HS ⊢;generalize wr.heap.size=gw at HS ⊢;obtain⟨ka,kw⟩:=HS.out.two;have kc:=HS.out.st.c0;obtain⟨ad,e2,hx0,hx1,hx2,hx3,hx4,hx5⟩:=at_T35 (Kd.C_below HDE.out.C HS.out.bel) at_ ha hb;cases e2;rw[HN.out]at hx0 hx1 hx2 hx3 hx4 hx5;dsimp only at hx0 hx1 hx2 hx3 hx4 hx5;have lad:(ad.add (at_.toNat*6)).block<W3.heap.size:=World.block_lt_of_cell? W3 _ hx0;have lb:b<W3.heap.size:=HS.out.st.blk.lt;have lga:gw+1<W3.heap.size:=World.block_lt_of_cell? W3 _ ka;have lgw:gw<W3.heap.size:=World.block_lt_of_cell? W3 _ kw;replace HS:=aK (HS.out.newH (H:=W3.heap.size) rfl 35 #[.int .i64 2,.string n1,.string n2,.string n3,.int .i64 0,.int .i64 n5] (by decide) (by decide)).drew
 go_region
 clear hx0 hx1 hx2 hx3 hx4 hx5 lad lb lga lgw kc ka kw;generalize (W3.alloc (Obj.cells #[Value.int IntKind.i64 2,Value.string n1,Value.string n2,Value.string n3,Value.int IntKind.i64 0,Value.int IntKind.i64 n5] 35)).drew=W4 at HS ⊢;generalize W3.heap.size=gn at HS ⊢;obtain⟨k0,k1,k2,k3,k4,k5,ka,kw⟩:=HS.out.nine
 go_wp2_with fail
 refine(HS.out.put (by first|rfl|simp) (by omega) [n3] (by simp) (by omega)).mono ?_
 rintro e W ⟨rfl,ovn,HSn⟩;replace HS:=aK HSn;clear HSn k0 k1 k2 k3 k4 k5 ka kw;obtain⟨k0,k1,k2,k3,k4,k5,ka,kw⟩:=HS.out.nine
 go_wp2_with fail
 refine(HS.out.kids (by first|rfl|simp) HX.out HDE.out (⟨#[40]⟩:ByteArray) (⟨#[41]⟩:ByteArray) E [4] (by decide) (by decide) (by decide) (by decide) (by omega)).mono ?_
 rintro e W ⟨rfl,ovn,HSn⟩;replace HS:=aK HSn;clear HSn k0 k1 k2 k3 k4 k5 ka kw;obtain⟨k0,k1,k2,k3,k4,k5,ka,kw⟩:=HS.out.nine
 go_wp2_with fail
 refine(HS.out.dirs HX.out HDE.out (by omega)).mono ?_
 rintro e W ⟨rfl,ovn,HSn⟩;replace HS:=aK HSn;clear HSn k0 k1 k2 k3 k4 k5 ka kw;obtain⟨k0,k1,k2,k3,k4,k5,ka,kw⟩:=HS.out.nine
 go_wp2_with fail
 refine(HS.out.kids (by first|rfl|simp) HX.out HDE.out E E E [5] (by decide) (by decide) (by decide) (by decide) (by omega)).mono ?_
 rintro e W ⟨rfl,ovn,HSn⟩;replace HS:=aK HSn;clear HSn k0 k1 k2 k3 k4 k5 ka kw;obtain⟨k0,k1,k2,k3,k4,k5,ka,kw⟩:=HS.out.nine
 go_wp2_with fail
 refine leaves_cons (f:=21) (args:=#[.pointer (some ⟨gw+1+1,0,none⟩),.pointer (some ⟨gw,0,none⟩),.pointer (some ⟨gw+1,0,none⟩)]) (by simp) (by simp[go_sem]) ?_
 refine(clo_any HS.out (gf:=gw+1+1) (gw:=gw) (ga:=gw+1) (from_:=(L:Int)) (at_:=at_) (by simp) (by simp) (by simp) (by omega) ha (by omega)).mono ?_
 rintro e u' w'' ⟨rfl,rfl,hz⟩;exact⟨_,results_none rfl _ _ _,rfl,_,hz.tl.tl.tl.tl⟩
theorem node2b (d:List S35) (at_:Int) (l:List Int) (g:Int→List ByteArray) (cs:Int→Nat) (n1 n2 n3:ByteArray) (n4 n5:Int) (hfl:n4=0) (hn1:n1.toList.isEmpty=false) :
  NWrites d at_ l g cs ⟨2,n1,n2,n3,n4,n5⟩ [.put [n3],.put [n1],.kids (⟨#[40]⟩:ByteArray) (⟨#[41]⟩:ByteArray) E [4],.kids E E E [10],.kids E E E [5]]:=by
 subst hfl;intro w0 w wr A cd b bm cc ov ovr l0 acc bl h hX hD ha hb hn hc;have HDE:=aK hD;have hle:=hD.len;simp only[costs,List.foldl,WOp.cost]at hc;have hcell:=h.st.c0;have hcell1:=h.st.c1;obtain⟨A1,L,cap1,rfl⟩:∃(A1:Option Addr) (L c1:Nat),ovr = .slice A1 L c1:=by
  rcases h.st.own.2 with⟨rfl,h0⟩|⟨g,cap,cur,rfl,_⟩
  ·exact⟨_,_,_,rfl⟩
  ·exact⟨_,_,_,rfl⟩
 have lb:b<wr.heap.size:=h.st.blk.lt;have hmf:∀(fn:Fn) (first cap:Array Value) (w:World),(Instr.makeFunc fn first cap).run Tryz.prog w = .ok (.func fn first cap) w:=fun _ _ _ _=>rfl
 have HS:=aK (((h.newH (H:=wr.heap.size) rfl 37 #[.pointer (some ⟨b,0,none⟩)] (by decide) (by decide)).newH (H:=wr.heap.size+1) (by simp) 3 #[.int .i64 at_] (by decide) (by decide)).newH (H:=wr.heap.size+1+1) (by simp) 3 #[.int .i64 (L:Int)] (by decide) (by decide))
 have HX:=aK hX;have HN:=aK hn;clear h hX hD hn
 go_enter_defers Tryz.func13,Tryz.ntmps13
 go_wp2_with fail
 clear hcell hcell1 lb;generalize ((wr.alloc (Obj.cells #[Value.pointer (some { block:=b,off:=0 })] 37)).alloc (Obj.cells #[Value.int IntKind.i64 at_] 3)).alloc (Obj.cells #[Value.int IntKind.i64 ↑L] 3)=W3 at HS ⊢;generalize wr.heap.size=gw at HS ⊢;obtain⟨ka,kw⟩:=HS.out.two;have kc:=HS.out.st.c0;obtain⟨ad,e2,hx0,hx1,hx2,hx3,hx4,hx5⟩:=at_T35 (Kd.C_below HDE.out.C HS.out.bel) at_ ha hb;cases e2;rw[HN.out]at hx0 hx1 hx2 hx3 hx4 hx5;dsimp only at hx0 hx1 hx2 hx3 hx4 hx5;have lad:(ad.add (at_.toNat*6)).block<W3.heap.size:=World.block_lt_of_cell? W3 _ hx0;have lb:b<W3.heap.size:=HS.out.st.blk.lt;have lga:gw+1<W3.heap.size:=World.block_lt_of_cell? W3 _ ka;have lgw:gw<W3.heap.size:=World.block_lt_of_cell? W3 _ kw;replace HS:=aK (HS.out.newH (H:=W3.heap.size) rfl 35 #[.int .i64 2,.string n1,.string n2,.string n3,.int .i64 0,.int .i64 n5] (by decide) (by decide)).drew
 go_region
 clear hx0 hx1 hx2 hx3 hx4 hx5 lad lb lga lgw kc ka kw;generalize (W3.alloc (Obj.cells #[Value.int IntKind.i64 2,Value.string n1,Value.string n2,Value.string n3,Value.int IntKind.i64 0,Value.int IntKind.i64 n5] 35)).drew=W4 at HS ⊢;generalize W3.heap.size=gn at HS ⊢;obtain⟨k0,k1,k2,k3,k4,k5,ka,kw⟩:=HS.out.nine
 go_wp2_with fail
 refine(HS.out.put (by first|rfl|simp) (by omega) [n3] (by simp) (by omega)).mono ?_
 rintro e W ⟨rfl,ovn,HSn⟩;replace HS:=aK HSn;clear HSn k0 k1 k2 k3 k4 k5 ka kw;obtain⟨k0,k1,k2,k3,k4,k5,ka,kw⟩:=HS.out.nine
 go_wp2_with fail
 refine(HS.out.put (by first|rfl|simp) (by omega) [n1] (by simp) (by omega)).mono ?_
 rintro e W ⟨rfl,ovn,HSn⟩;replace HS:=aK HSn;clear HSn k0 k1 k2 k3 k4 k5 ka kw;obtain⟨k0,k1,k2,k3,k4,k5,ka,kw⟩:=HS.out.nine
 go_wp2_with fail
 refine(HS.out.kids (by first|rfl|simp) HX.out HDE.out (⟨#[40]⟩:ByteArray) (⟨#[41]⟩:ByteArray) E [4] (by decide) (by decide) (by decide) (by decide) (by omega)).mono ?_
 rintro e W ⟨rfl,ovn,HSn⟩;replace HS:=aK HSn;clear HSn k0 k1 k2 k3 k4 k5 ka kw;obtain⟨k0,k1,k2,k3,k4,k5,ka,kw⟩:=HS.out.nine
 go_wp2_with fail
 refine(HS.out.dirs HX.out HDE.out (by omega)).mono ?_
 rintro e W ⟨rfl,ovn,HSn⟩;replace HS:=aK HSn;clear HSn k0 k1 k2 k3 k4 k5 ka kw;obtain⟨k0,k1,k2,k3,k4,k5,ka,kw⟩:=HS.out.nine
 go_wp2_with fail
 refine(HS.out.kids (by first|rfl|simp) HX.out HDE.out E E E [5] (by decide) (by decide) (by decide) (by decide) (by omega)).mono ?_
 rintro e W ⟨rfl,ovn,HSn⟩;replace HS:=aK HSn;clear HSn k0 k1 k2 k3 k4 k5 ka kw;obtain⟨k0,k1,k2,k3,k4,k5,ka,kw⟩:=HS.out.nine
 go_wp2_with fail
 refine leaves_cons (f:=21) (args:=#[.pointer (some ⟨gw+1+1,0,none⟩),.pointer (some ⟨gw,0,none⟩),.pointer (some ⟨gw+1,0,none⟩)]) (by simp) (by simp[go_sem]) ?_
 refine(clo_any HS.out (gf:=gw+1+1) (gw:=gw) (ga:=gw+1) (from_:=(L:Int)) (at_:=at_) (by simp) (by simp) (by simp) (by omega) ha (by omega)).mono ?_
 rintro e u' w'' ⟨rfl,rfl,hz⟩;exact⟨_,results_none rfl _ _ _,rfl,_,hz.tl.tl.tl.tl⟩
theorem node2c (d:List S35) (at_:Int) (l:List Int) (g:Int→List ByteArray) (cs:Int→Nat) (n1 n2 n3:ByteArray) (n4 n5:Int) (hfl:n4=1) :
  NWrites d at_ l g cs ⟨2,n1,n2,n3,n4,n5⟩ [.kids (⟨#[40]⟩:ByteArray) (⟨#[41]⟩:ByteArray) E [4],.kids E E E [10],.kids E E E [5]]:=by
 subst hfl;intro w0 w wr A cd b bm cc ov ovr l0 acc bl h hX hD ha hb hn hc;have HDE:=aK hD;have hle:=hD.len;simp only[costs,List.foldl,WOp.cost]at hc;have hcell:=h.st.c0;have hcell1:=h.st.c1;obtain⟨A1,L,cap1,rfl⟩:∃(A1:Option Addr) (L c1:Nat),ovr = .slice A1 L c1:=by
  rcases h.st.own.2 with⟨rfl,h0⟩|⟨g,cap,cur,rfl,_⟩
  ·exact⟨_,_,_,rfl⟩
  ·exact⟨_,_,_,rfl⟩
 have lb:b<wr.heap.size:=h.st.blk.lt;have hmf:∀(fn:Fn) (first cap:Array Value) (w:World),(Instr.makeFunc fn first cap).run Tryz.prog w = .ok (.func fn first cap) w:=fun _ _ _ _=>rfl
 have HS:=aK (((h.newH (H:=wr.heap.size) rfl 37 #[.pointer (some ⟨b,0,none⟩)] (by decide) (by decide)).newH (H:=wr.heap.size+1) (by simp) 3 #[.int .i64 at_] (by decide) (by decide)).newH (H:=wr.heap.size+1+1) (by simp) 3 #[.int .i64 (L:Int)] (by decide) (by decide))
 have HX:=aK hX;have HN:=aK hn;clear h hX hD hn
 go_enter_defers Tryz.func13,Tryz.ntmps13
 go_wp2_with fail
 clear hcell hcell1 lb;generalize ((wr.alloc (Obj.cells #[Value.pointer (some { block:=b,off:=0 })] 37)).alloc (Obj.cells #[Value.int IntKind.i64 at_] 3)).alloc (Obj.cells #[Value.int IntKind.i64 ↑L] 3)=W3 at HS ⊢;generalize wr.heap.size=gw at HS ⊢;obtain⟨ka,kw⟩:=HS.out.two;have kc:=HS.out.st.c0;obtain⟨ad,e2,hx0,hx1,hx2,hx3,hx4,hx5⟩:=at_T35 (Kd.C_below HDE.out.C HS.out.bel) at_ ha hb;cases e2;rw[HN.out]at hx0 hx1 hx2 hx3 hx4 hx5;dsimp only at hx0 hx1 hx2 hx3 hx4 hx5;have lad:(ad.add (at_.toNat*6)).block<W3.heap.size:=World.block_lt_of_cell? W3 _ hx0;have lb:b<W3.heap.size:=HS.out.st.blk.lt;have lga:gw+1<W3.heap.size:=World.block_lt_of_cell? W3 _ ka;have lgw:gw<W3.heap.size:=World.block_lt_of_cell? W3 _ kw;replace HS:=aK (HS.out.newH (H:=W3.heap.size) rfl 35 #[.int .i64 2,.string n1,.string n2,.string n3,.int .i64 1,.int .i64 n5] (by decide) (by decide)).drew
 go_region
 clear hx0 hx1 hx2 hx3 hx4 hx5 lad lb lga lgw kc ka kw;generalize (W3.alloc (Obj.cells #[Value.int IntKind.i64 2,Value.string n1,Value.string n2,Value.string n3,Value.int IntKind.i64 1,Value.int IntKind.i64 n5] 35)).drew=W4 at HS ⊢;generalize W3.heap.size=gn at HS ⊢;obtain⟨k0,k1,k2,k3,k4,k5,ka,kw⟩:=HS.out.nine
 go_wp2_with fail
 refine(HS.out.kids (by first|rfl|simp) HX.out HDE.out (⟨#[40]⟩:ByteArray) (⟨#[41]⟩:ByteArray) E [4] (by decide) (by decide) (by decide) (by decide) (by omega)).mono ?_
 rintro e W ⟨rfl,ovn,HSn⟩;replace HS:=aK HSn;clear HSn k0 k1 k2 k3 k4 k5 ka kw;obtain⟨k0,k1,k2,k3,k4,k5,ka,kw⟩:=HS.out.nine
 go_wp2_with fail
 refine(HS.out.dirs HX.out HDE.out (by omega)).mono ?_
 rintro e W ⟨rfl,ovn,HSn⟩;replace HS:=aK HSn;clear HSn k0 k1 k2 k3 k4 k5 ka kw;obtain⟨k0,k1,k2,k3,k4,k5,ka,kw⟩:=HS.out.nine
 go_wp2_with fail
 refine(HS.out.kids (by first|rfl|simp) HX.out HDE.out E E E [5] (by decide) (by decide) (by decide) (by decide) (by omega)).mono ?_
 rintro e W ⟨rfl,ovn,HSn⟩;replace HS:=aK HSn;clear HSn k0 k1 k2 k3 k4 k5 ka kw;obtain⟨k0,k1,k2,k3,k4,k5,ka,kw⟩:=HS.out.nine
 go_wp2_with fail
 refine leaves_cons (f:=21) (args:=#[.pointer (some ⟨gw+1+1,0,none⟩),.pointer (some ⟨gw,0,none⟩),.pointer (some ⟨gw+1,0,none⟩)]) (by simp) (by simp[go_sem]) ?_
 refine(clo_any HS.out (gf:=gw+1+1) (gw:=gw) (ga:=gw+1) (from_:=(L:Int)) (at_:=at_) (by simp) (by simp) (by simp) (by omega) ha (by omega)).mono ?_
 rintro e u' w'' ⟨rfl,rfl,hz⟩;exact⟨_,results_none rfl _ _ _,rfl,_,hz.tl.tl.tl.tl⟩
theorem node3 (d:List S35) (at_:Int) (l:List Int) (g:Int→List ByteArray) (cs:Int→Nat) (n1 n2 n3:ByteArray) (n4 n5:Int) :
  NWrites d at_ l g cs ⟨3,n1,n2,n3,n4,n5⟩ [.put [(⟨#[102,114,97,103,109,101,110,116]⟩:ByteArray),n1,(⟨#[111,110]⟩:ByteArray),n3],.kids E E E [10],.kids E E E [5]]:=by
 intro w0 w wr A cd b bm cc ov ovr l0 acc bl h hX hD ha hb hn hc;have HDE:=aK hD;have hle:=hD.len;simp only[costs,List.foldl,WOp.cost]at hc;have hcell:=h.st.c0;have hcell1:=h.st.c1;obtain⟨A1,L,cap1,rfl⟩:∃(A1:Option Addr) (L c1:Nat),ovr = .slice A1 L c1:=by
  rcases h.st.own.2 with⟨rfl,h0⟩|⟨g,cap,cur,rfl,_⟩
  ·exact⟨_,_,_,rfl⟩
  ·exact⟨_,_,_,rfl⟩
 have lb:b<wr.heap.size:=h.st.blk.lt;have hmf:∀(fn:Fn) (first cap:Array Value) (w:World),(Instr.makeFunc fn first cap).run Tryz.prog w = .ok (.func fn first cap) w:=fun _ _ _ _=>rfl
 have HS:=aK (((h.newH (H:=wr.heap.size) rfl 37 #[.pointer (some ⟨b,0,none⟩)] (by decide) (by decide)).newH (H:=wr.heap.size+1) (by simp) 3 #[.int .i64 at_] (by decide) (by decide)).newH (H:=wr.heap.size+1+1) (by simp) 3 #[.int .i64 (L:Int)] (by decide) (by decide))
 have HX:=aK hX;have HN:=aK hn;clear h hX hD hn
 go_enter_defers Tryz.func13,Tryz.ntmps13
 go_wp2_with fail
 clear hcell hcell1 lb;generalize ((wr.alloc (Obj.cells #[Value.pointer (some { block:=b,off:=0 })] 37)).alloc (Obj.cells #[Value.int IntKind.i64 at_] 3)).alloc (Obj.cells #[Value.int IntKind.i64 ↑L] 3)=W3 at HS ⊢;generalize wr.heap.size=gw at HS ⊢;obtain⟨ka,kw⟩:=HS.out.two;have kc:=HS.out.st.c0;obtain⟨ad,e2,hx0,hx1,hx2,hx3,hx4,hx5⟩:=at_T35 (Kd.C_below HDE.out.C HS.out.bel) at_ ha hb;cases e2;rw[HN.out]at hx0 hx1 hx2 hx3 hx4 hx5;dsimp only at hx0 hx1 hx2 hx3 hx4 hx5;have lad:(ad.add (at_.toNat*6)).block<W3.heap.size:=World.block_lt_of_cell? W3 _ hx0;have lb:b<W3.heap.size:=HS.out.st.blk.lt;have lga:gw+1<W3.heap.size:=World.block_lt_of_cell? W3 _ ka;have lgw:gw<W3.heap.size:=World.block_lt_of_cell? W3 _ kw;replace HS:=aK (HS.out.newH (H:=W3.heap.size) rfl 35 #[.int .i64 3,.string n1,.string n2,.string n3,.int .i64 n4,.int .i64 n5] (by decide) (by decide)).drew
 go_region
 clear hx0 hx1 hx2 hx3 hx4 hx5 lad lb lga lgw kc ka kw;generalize (W3.alloc (Obj.cells #[Value.int IntKind.i64 3,Value.string n1,Value.string n2,Value.string n3,Value.int IntKind.i64 n4,Value.int IntKind.i64 n5] 35)).drew=W4 at HS ⊢;generalize W3.heap.size=gn at HS ⊢;obtain⟨k0,k1,k2,k3,k4,k5,ka,kw⟩:=HS.out.nine
 go_wp2_with fail
 refine(HS.out.put (by first|rfl|simp) (by omega) [(⟨#[102,114,97,103,109,101,110,116]⟩:ByteArray),n1,(⟨#[111,110]⟩:ByteArray),n3] (by simp) (by omega)).mono ?_
 rintro e W ⟨rfl,ovn,HSn⟩;replace HS:=aK HSn;clear HSn k0 k1 k2 k3 k4 k5 ka kw;obtain⟨k0,k1,k2,k3,k4,k5,ka,kw⟩:=HS.out.nine
 go_wp2_with fail
 refine(HS.out.dirs HX.out HDE.out (by omega)).mono ?_
 rintro e W ⟨rfl,ovn,HSn⟩;replace HS:=aK HSn;clear HSn k0 k1 k2 k3 k4 k5 ka kw;obtain⟨k0,k1,k2,k3,k4,k5,ka,kw⟩:=HS.out.nine
 go_wp2_with fail
 refine(HS.out.kids (by first|rfl|simp) HX.out HDE.out E E E [5] (by decide) (by decide) (by decide) (by decide) (by omega)).mono ?_
 rintro e W ⟨rfl,ovn,HSn⟩;replace HS:=aK HSn;clear HSn k0 k1 k2 k3 k4 k5 ka kw;obtain⟨k0,k1,k2,k3,k4,k5,ka,kw⟩:=HS.out.nine
 go_wp2_with fail
 refine leaves_cons (f:=21) (args:=#[.pointer (some ⟨gw+1+1,0,none⟩),.pointer (some ⟨gw,0,none⟩),.pointer (some ⟨gw+1,0,none⟩)]) (by simp) (by simp[go_sem]) ?_
 refine(clo_any HS.out (gf:=gw+1+1) (gw:=gw) (ga:=gw+1) (from_:=(L:Int)) (at_:=at_) (by simp) (by simp) (by simp) (by omega) ha (by omega)).mono ?_
 rintro e u' w'' ⟨rfl,rfl,hz⟩;exact⟨_,results_none rfl _ _ _,rfl,_,hz.tl.tl.tl.tl⟩
theorem node4 (d:List S35) (at_:Int) (l:List Int) (g:Int→List ByteArray) (cs:Int→Nat) (n1 n2 n3:ByteArray) (n4 n5:Int) :
  NWrites d at_ l g cs ⟨4,n1,n2,n3,n4,n5⟩ [.put [(⟨#[36]⟩:ByteArray),n1,(⟨#[58]⟩:ByteArray)],.fT E,.fV (⟨#[61]⟩:ByteArray)]:=by
 intro w0 w wr A cd b bm cc ov ovr l0 acc bl h hX hD ha hb hn hc;have HDE:=aK hD;have hle:=hD.len;simp only[costs,List.foldl,WOp.cost]at hc;have hcell:=h.st.c0;have hcell1:=h.st.c1;obtain⟨A1,L,cap1,rfl⟩:∃(A1:Option Addr) (L c1:Nat),ovr = .slice A1 L c1:=by
  rcases h.st.own.2 with⟨rfl,h0⟩|⟨g,cap,cur,rfl,_⟩
  ·exact⟨_,_,_,rfl⟩
  ·exact⟨_,_,_,rfl⟩
 have lb:b<wr.heap.size:=h.st.blk.lt;have hmf:∀(fn:Fn) (first cap:Array Value) (w:World),(Instr.makeFunc fn first cap).run Tryz.prog w = .ok (.func fn first cap) w:=fun _ _ _ _=>rfl
 have HS:=aK (((h.newH (H:=wr.heap.size) rfl 37 #[.pointer (some ⟨b,0,none⟩)] (by decide) (by decide)).newH (H:=wr.heap.size+1) (by simp) 3 #[.int .i64 at_] (by decide) (by decide)).newH (H:=wr.heap.size+1+1) (by simp) 3 #[.int .i64 (L:Int)] (by decide) (by decide))
 have HX:=aK hX;have HN:=aK hn;clear h hX hD hn
 go_enter_defers Tryz.func13,Tryz.ntmps13
 go_wp2_with fail
 clear hcell hcell1 lb;generalize ((wr.alloc (Obj.cells #[Value.pointer (some { block:=b,off:=0 })] 37)).alloc (Obj.cells #[Value.int IntKind.i64 at_] 3)).alloc (Obj.cells #[Value.int IntKind.i64 ↑L] 3)=W3 at HS ⊢;generalize wr.heap.size=gw at HS ⊢;obtain⟨ka,kw⟩:=HS.out.two;have kc:=HS.out.st.c0;obtain⟨ad,e2,hx0,hx1,hx2,hx3,hx4,hx5⟩:=at_T35 (Kd.C_below HDE.out.C HS.out.bel) at_ ha hb;cases e2;rw[HN.out]at hx0 hx1 hx2 hx3 hx4 hx5;dsimp only at hx0 hx1 hx2 hx3 hx4 hx5;have lad:(ad.add (at_.toNat*6)).block<W3.heap.size:=World.block_lt_of_cell? W3 _ hx0;have lb:b<W3.heap.size:=HS.out.st.blk.lt;have lga:gw+1<W3.heap.size:=World.block_lt_of_cell? W3 _ ka;have lgw:gw<W3.heap.size:=World.block_lt_of_cell? W3 _ kw;replace HS:=aK (HS.out.newH (H:=W3.heap.size) rfl 35 #[.int .i64 4,.string n1,.string n2,.string n3,.int .i64 n4,.int .i64 n5] (by decide) (by decide)).drew
 go_region
 clear hx0 hx1 hx2 hx3 hx4 hx5 lad lb lga lgw kc ka kw;generalize (W3.alloc (Obj.cells #[Value.int IntKind.i64 4,Value.string n1,Value.string n2,Value.string n3,Value.int IntKind.i64 n4,Value.int IntKind.i64 n5] 35)).drew=W4 at HS ⊢;generalize W3.heap.size=gn at HS ⊢;obtain⟨k0,k1,k2,k3,k4,k5,ka,kw⟩:=HS.out.nine
 go_wp2_with fail
 refine(HS.out.put (by first|rfl|simp) (by omega) [(⟨#[36]⟩:ByteArray),n1,(⟨#[58]⟩:ByteArray)] (by simp) (by omega)).mono ?_
 rintro e W ⟨rfl,ovn,HSn⟩;replace HS:=aK HSn;clear HSn k0 k1 k2 k3 k4 k5 ka kw;obtain⟨k0,k1,k2,k3,k4,k5,ka,kw⟩:=HS.out.nine
 go_wp2_with fail
 refine(HS.out.firstT HX.out HDE.out E (by decide) (by omega)).mono ?_
 rintro e W ⟨rfl,ovn,HSn⟩;replace HS:=aK HSn;clear HSn k0 k1 k2 k3 k4 k5 ka kw;obtain⟨k0,k1,k2,k3,k4,k5,ka,kw⟩:=HS.out.nine
 go_wp2_with fail
 refine(HS.out.firstV HX.out HDE.out (⟨#[61]⟩:ByteArray) (by decide) (by omega)).mono ?_
 rintro e W ⟨rfl,ovn,HSn⟩;replace HS:=aK HSn;clear HSn k0 k1 k2 k3 k4 k5 ka kw;obtain⟨k0,k1,k2,k3,k4,k5,ka,kw⟩:=HS.out.nine
 go_wp2_with fail
 refine leaves_cons (f:=21) (args:=#[.pointer (some ⟨gw+1+1,0,none⟩),.pointer (some ⟨gw,0,none⟩),.pointer (some ⟨gw+1,0,none⟩)]) (by simp) (by simp[go_sem]) ?_
 refine(clo_any HS.out (gf:=gw+1+1) (gw:=gw) (ga:=gw+1) (from_:=(L:Int)) (at_:=at_) (by simp) (by simp) (by simp) (by omega) ha (by omega)).mono ?_
 rintro e u' w'' ⟨rfl,rfl,hz⟩;exact⟨_,results_none rfl _ _ _,rfl,_,hz.tl.tl.tl.tl⟩
theorem node5 (d:List S35) (at_:Int) (l:List Int) (g:Int→List ByteArray) (cs:Int→Nat) (n1 n2 n3:ByteArray) (n4 n5:Int) :
  NWrites d at_ l g cs ⟨5,n1,n2,n3,n4,n5⟩ [.kids (⟨#[123]⟩:ByteArray) (⟨#[125]⟩:ByteArray) E [6,7,8]]:=by
 intro w0 w wr A cd b bm cc ov ovr l0 acc bl h hX hD ha hb hn hc;have HDE:=aK hD;have hle:=hD.len;simp only[costs,List.foldl,WOp.cost]at hc;have hcell:=h.st.c0;have hcell1:=h.st.c1;obtain⟨A1,L,cap1,rfl⟩:∃(A1:Option Addr) (L c1:Nat),ovr = .slice A1 L c1:=by
  rcases h.st.own.2 with⟨rfl,h0⟩|⟨g,cap,cur,rfl,_⟩
  ·exact⟨_,_,_,rfl⟩
  ·exact⟨_,_,_,rfl⟩
 have lb:b<wr.heap.size:=h.st.blk.lt;have hmf:∀(fn:Fn) (first cap:Array Value) (w:World),(Instr.makeFunc fn first cap).run Tryz.prog w = .ok (.func fn first cap) w:=fun _ _ _ _=>rfl
 have HS:=aK (((h.newH (H:=wr.heap.size) rfl 37 #[.pointer (some ⟨b,0,none⟩)] (by decide) (by decide)).newH (H:=wr.heap.size+1) (by simp) 3 #[.int .i64 at_] (by decide) (by decide)).newH (H:=wr.heap.size+1+1) (by simp) 3 #[.int .i64 (L:Int)] (by decide) (by decide))
 have HX:=aK hX;have HN:=aK hn;clear h hX hD hn
 go_enter_defers Tryz.func13,Tryz.ntmps13
 go_wp2_with fail
 clear hcell hcell1 lb;generalize ((wr.alloc (Obj.cells #[Value.pointer (some { block:=b,off:=0 })] 37)).alloc (Obj.cells #[Value.int IntKind.i64 at_] 3)).alloc (Obj.cells #[Value.int IntKind.i64 ↑L] 3)=W3 at HS ⊢;generalize wr.heap.size=gw at HS ⊢;obtain⟨ka,kw⟩:=HS.out.two;have kc:=HS.out.st.c0;obtain⟨ad,e2,hx0,hx1,hx2,hx3,hx4,hx5⟩:=at_T35 (Kd.C_below HDE.out.C HS.out.bel) at_ ha hb;cases e2;rw[HN.out]at hx0 hx1 hx2 hx3 hx4 hx5;dsimp only at hx0 hx1 hx2 hx3 hx4 hx5;have lad:(ad.add (at_.toNat*6)).block<W3.heap.size:=World.block_lt_of_cell? W3 _ hx0;have lb:b<W3.heap.size:=HS.out.st.blk.lt;have lga:gw+1<W3.heap.size:=World.block_lt_of_cell? W3 _ ka;have lgw:gw<W3.heap.size:=World.block_lt_of_cell? W3 _ kw;replace HS:=aK (HS.out.newH (H:=W3.heap.size) rfl 35 #[.int .i64 5,.string n1,.string n2,.string n3,.int .i64 n4,.int .i64 n5] (by decide) (by decide)).drew
 go_region
 clear hx0 hx1 hx2 hx3 hx4 hx5 lad lb lga lgw kc ka kw;generalize (W3.alloc (Obj.cells #[Value.int IntKind.i64 5,Value.string n1,Value.string n2,Value.string n3,Value.int IntKind.i64 n4,Value.int IntKind.i64 n5] 35)).drew=W4 at HS ⊢;generalize W3.heap.size=gn at HS ⊢;obtain⟨k0,k1,k2,k3,k4,k5,ka,kw⟩:=HS.out.nine
 go_wp2_with fail
 refine(HS.out.kids (by first|rfl|simp) HX.out HDE.out (⟨#[123]⟩:ByteArray) (⟨#[125]⟩:ByteArray) E [6,7,8] (by decide) (by decide) (by decide) (by decide) (by omega)).mono ?_
 rintro e W ⟨rfl,ovn,HSn⟩;replace HS:=aK HSn;clear HSn k0 k1 k2 k3 k4 k5 ka kw;obtain⟨k0,k1,k2,k3,k4,k5,ka,kw⟩:=HS.out.nine
 go_wp2_with fail
 refine leaves_cons (f:=21) (args:=#[.pointer (some ⟨gw+1+1,0,none⟩),.pointer (some ⟨gw,0,none⟩),.pointer (some ⟨gw+1,0,none⟩)]) (by simp) (by simp[go_sem]) ?_
 refine(clo_any HS.out (gf:=gw+1+1) (gw:=gw) (ga:=gw+1) (from_:=(L:Int)) (at_:=at_) (by simp) (by simp) (by simp) (by omega) ha (by omega)).mono ?_
 rintro e u' w'' ⟨rfl,rfl,hz⟩;exact⟨_,results_none rfl _ _ _,rfl,_,hz.tl.tl.tl.tl⟩
theorem node6a (d:List S35) (at_:Int) (l:List Int) (g:Int→List ByteArray) (cs:Int→Nat) (n1 n2 n3:ByteArray) (n4 n5:Int) (hn2:n2.toList.isEmpty=true) :
  NWrites d at_ l g cs ⟨6,n1,n2,n3,n4,n5⟩ [.put [n1],.kids (⟨#[40]⟩:ByteArray) (⟨#[41]⟩:ByteArray) E [9],.kids E E E [10],.kids E E E [5]]:=by
 intro w0 w wr A cd b bm cc ov ovr l0 acc bl h hX hD ha hb hn hc;have HDE:=aK hD;have hle:=hD.len;simp only[costs,List.foldl,WOp.cost]at hc;have hcell:=h.st.c0;have hcell1:=h.st.c1;obtain⟨A1,L,cap1,rfl⟩:∃(A1:Option Addr) (L c1:Nat),ovr = .slice A1 L c1:=by
  rcases h.st.own.2 with⟨rfl,h0⟩|⟨g,cap,cur,rfl,_⟩
  ·exact⟨_,_,_,rfl⟩
  ·exact⟨_,_,_,rfl⟩
 have lb:b<wr.heap.size:=h.st.blk.lt;have hmf:∀(fn:Fn) (first cap:Array Value) (w:World),(Instr.makeFunc fn first cap).run Tryz.prog w = .ok (.func fn first cap) w:=fun _ _ _ _=>rfl
 have HS:=aK (((h.newH (H:=wr.heap.size) rfl 37 #[.pointer (some ⟨b,0,none⟩)] (by decide) (by decide)).newH (H:=wr.heap.size+1) (by simp) 3 #[.int .i64 at_] (by decide) (by decide)).newH (H:=wr.heap.size+1+1) (by simp) 3 #[.int .i64 (L:Int)] (by decide) (by decide))
 have HX:=aK hX;have HN:=aK hn;clear h hX hD hn
 go_enter_defers Tryz.func13,Tryz.ntmps13
 go_wp2_with fail
 clear hcell hcell1 lb;generalize ((wr.alloc (Obj.cells #[Value.pointer (some { block:=b,off:=0 })] 37)).alloc (Obj.cells #[Value.int IntKind.i64 at_] 3)).alloc (Obj.cells #[Value.int IntKind.i64 ↑L] 3)=W3 at HS ⊢;generalize wr.heap.size=gw at HS ⊢;obtain⟨ka,kw⟩:=HS.out.two;have kc:=HS.out.st.c0;obtain⟨ad,e2,hx0,hx1,hx2,hx3,hx4,hx5⟩:=at_T35 (Kd.C_below HDE.out.C HS.out.bel) at_ ha hb;cases e2;rw[HN.out]at hx0 hx1 hx2 hx3 hx4 hx5;dsimp only at hx0 hx1 hx2 hx3 hx4 hx5;have lad:(ad.add (at_.toNat*6)).block<W3.heap.size:=World.block_lt_of_cell? W3 _ hx0;have lb:b<W3.heap.size:=HS.out.st.blk.lt;have lga:gw+1<W3.heap.size:=World.block_lt_of_cell? W3 _ ka;have lgw:gw<W3.heap.size:=World.block_lt_of_cell? W3 _ kw;replace HS:=aK (HS.out.newH (H:=W3.heap.size) rfl 35 #[.int .i64 6,.string n1,.string n2,.string n3,.int .i64 n4,.int .i64 n5] (by decide) (by decide)).drew
 go_region
 clear hx0 hx1 hx2 hx3 hx4 hx5 lad lb lga lgw kc ka kw;generalize (W3.alloc (Obj.cells #[Value.int IntKind.i64 6,Value.string n1,Value.string n2,Value.string n3,Value.int IntKind.i64 n4,Value.int IntKind.i64 n5] 35)).drew=W4 at HS ⊢;generalize W3.heap.size=gn at HS ⊢;obtain⟨k0,k1,k2,k3,k4,k5,ka,kw⟩:=HS.out.nine
 go_wp2_with fail
 refine(HS.out.put (by first|rfl|simp) (by omega) [n1] (by simp) (by omega)).mono ?_
 rintro e W ⟨rfl,ovn,HSn⟩;replace HS:=aK HSn;clear HSn k0 k1 k2 k3 k4 k5 ka kw;obtain⟨k0,k1,k2,k3,k4,k5,ka,kw⟩:=HS.out.nine
 go_wp2_with fail
 refine(HS.out.kids (by first|rfl|simp) HX.out HDE.out (⟨#[40]⟩:ByteArray) (⟨#[41]⟩:ByteArray) E [9] (by decide) (by decide) (by decide) (by decide) (by omega)).mono ?_
 rintro e W ⟨rfl,ovn,HSn⟩;replace HS:=aK HSn;clear HSn k0 k1 k2 k3 k4 k5 ka kw;obtain⟨k0,k1,k2,k3,k4,k5,ka,kw⟩:=HS.out.nine
 go_wp2_with fail
 refine(HS.out.dirs HX.out HDE.out (by omega)).mono ?_
 rintro e W ⟨rfl,ovn,HSn⟩;replace HS:=aK HSn;clear HSn k0 k1 k2 k3 k4 k5 ka kw;obtain⟨k0,k1,k2,k3,k4,k5,ka,kw⟩:=HS.out.nine
 go_wp2_with fail
 refine(HS.out.kids (by first|rfl|simp) HX.out HDE.out E E E [5] (by decide) (by decide) (by decide) (by decide) (by omega)).mono ?_
 rintro e W ⟨rfl,ovn,HSn⟩;replace HS:=aK HSn;clear HSn k0 k1 k2 k3 k4 k5 ka kw;obtain⟨k0,k1,k2,k3,k4,k5,ka,kw⟩:=HS.out.nine
 go_wp2_with fail
 refine leaves_cons (f:=21) (args:=#[.pointer (some ⟨gw+1+1,0,none⟩),.pointer (some ⟨gw,0,none⟩),.pointer (some ⟨gw+1,0,none⟩)]) (by simp) (by simp[go_sem]) ?_
 refine(clo_any HS.out (gf:=gw+1+1) (gw:=gw) (ga:=gw+1) (from_:=(L:Int)) (at_:=at_) (by simp) (by simp) (by simp) (by omega) ha (by omega)).mono ?_
 rintro e u' w'' ⟨rfl,rfl,hz⟩;exact⟨_,results_none rfl _ _ _,rfl,_,hz.tl.tl.tl.tl⟩
theorem node6b (d:List S35) (at_:Int) (l:List Int) (g:Int→List ByteArray) (cs:Int→Nat) (n1 n2 n3:ByteArray) (n4 n5:Int) (hn2:n2.toList.isEmpty=false) :
  NWrites d at_ l g cs ⟨6,n1,n2,n3,n4,n5⟩ [.put [n2,(⟨#[58]⟩:ByteArray)],.put [n1],.kids (⟨#[40]⟩:ByteArray) (⟨#[41]⟩:ByteArray) E [9],.kids E E E [10],.kids E E E [5]]:=by
 intro w0 w wr A cd b bm cc ov ovr l0 acc bl h hX hD ha hb hn hc;have HDE:=aK hD;have hle:=hD.len;simp only[costs,List.foldl,WOp.cost]at hc;have hcell:=h.st.c0;have hcell1:=h.st.c1;obtain⟨A1,L,cap1,rfl⟩:∃(A1:Option Addr) (L c1:Nat),ovr = .slice A1 L c1:=by
  rcases h.st.own.2 with⟨rfl,h0⟩|⟨g,cap,cur,rfl,_⟩
  ·exact⟨_,_,_,rfl⟩
  ·exact⟨_,_,_,rfl⟩
 have lb:b<wr.heap.size:=h.st.blk.lt;have hmf:∀(fn:Fn) (first cap:Array Value) (w:World),(Instr.makeFunc fn first cap).run Tryz.prog w = .ok (.func fn first cap) w:=fun _ _ _ _=>rfl
 have HS:=aK (((h.newH (H:=wr.heap.size) rfl 37 #[.pointer (some ⟨b,0,none⟩)] (by decide) (by decide)).newH (H:=wr.heap.size+1) (by simp) 3 #[.int .i64 at_] (by decide) (by decide)).newH (H:=wr.heap.size+1+1) (by simp) 3 #[.int .i64 (L:Int)] (by decide) (by decide))
 have HX:=aK hX;have HN:=aK hn;clear h hX hD hn
 go_enter_defers Tryz.func13,Tryz.ntmps13
 go_wp2_with fail
 clear hcell hcell1 lb;generalize ((wr.alloc (Obj.cells #[Value.pointer (some { block:=b,off:=0 })] 37)).alloc (Obj.cells #[Value.int IntKind.i64 at_] 3)).alloc (Obj.cells #[Value.int IntKind.i64 ↑L] 3)=W3 at HS ⊢;generalize wr.heap.size=gw at HS ⊢;obtain⟨ka,kw⟩:=HS.out.two;have kc:=HS.out.st.c0;obtain⟨ad,e2,hx0,hx1,hx2,hx3,hx4,hx5⟩:=at_T35 (Kd.C_below HDE.out.C HS.out.bel) at_ ha hb;cases e2;rw[HN.out]at hx0 hx1 hx2 hx3 hx4 hx5;dsimp only at hx0 hx1 hx2 hx3 hx4 hx5;have lad:(ad.add (at_.toNat*6)).block<W3.heap.size:=World.block_lt_of_cell? W3 _ hx0;have lb:b<W3.heap.size:=HS.out.st.blk.lt;have lga:gw+1<W3.heap.size:=World.block_lt_of_cell? W3 _ ka;have lgw:gw<W3.heap.size:=World.block_lt_of_cell? W3 _ kw;replace HS:=aK (HS.out.newH (H:=W3.heap.size) rfl 35 #[.int .i64 6,.string n1,.string n2,.string n3,.int .i64 n4,.int .i64 n5] (by decide) (by decide)).drew
 go_region
 clear hx0 hx1 hx2 hx3 hx4 hx5 lad lb lga lgw kc ka kw;generalize (W3.alloc (Obj.cells #[Value.int IntKind.i64 6,Value.string n1,Value.string n2,Value.string n3,Value.int IntKind.i64 n4,Value.int IntKind.i64 n5] 35)).drew=W4 at HS ⊢;generalize W3.heap.size=gn at HS ⊢;obtain⟨k0,k1,k2,k3,k4,k5,ka,kw⟩:=HS.out.nine
 go_wp2_with fail
 refine(HS.out.put (by first|rfl|simp) (by omega) [n2,(⟨#[58]⟩:ByteArray)] (by simp) (by omega)).mono ?_
 rintro e W ⟨rfl,ovn,HSn⟩;replace HS:=aK HSn;clear HSn k0 k1 k2 k3 k4 k5 ka kw;obtain⟨k0,k1,k2,k3,k4,k5,ka,kw⟩:=HS.out.nine
 go_wp2_with fail
 refine(HS.out.put (by first|rfl|simp) (by omega) [n1] (by simp) (by omega)).mono ?_
 rintro e W ⟨rfl,ovn,HSn⟩;replace HS:=aK HSn;clear HSn k0 k1 k2 k3 k4 k5 ka kw;obtain⟨k0,k1,k2,k3,k4,k5,ka,kw⟩:=HS.out.nine
 go_wp2_with fail
 refine(HS.out.kids (by first|rfl|simp) HX.out HDE.out (⟨#[40]⟩:ByteArray) (⟨#[41]⟩:ByteArray) E [9] (by decide) (by decide) (by decide) (by decide) (by omega)).mono ?_
 rintro e W ⟨rfl,ovn,HSn⟩;replace HS:=aK HSn;clear HSn k0 k1 k2 k3 k4 k5 ka kw;obtain⟨k0,k1,k2,k3,k4,k5,ka,kw⟩:=HS.out.nine
 go_wp2_with fail
 refine(HS.out.dirs HX.out HDE.out (by omega)).mono ?_
 rintro e W ⟨rfl,ovn,HSn⟩;replace HS:=aK HSn;clear HSn k0 k1 k2 k3 k4 k5 ka kw;obtain⟨k0,k1,k2,k3,k4,k5,ka,kw⟩:=HS.out.nine
 go_wp2_with fail
 refine(HS.out.kids (by first|rfl|simp) HX.out HDE.out E E E [5] (by decide) (by decide) (by decide) (by decide) (by omega)).mono ?_
 rintro e W ⟨rfl,ovn,HSn⟩;replace HS:=aK HSn;clear HSn k0 k1 k2 k3 k4 k5 ka kw;obtain⟨k0,k1,k2,k3,k4,k5,ka,kw⟩:=HS.out.nine
 go_wp2_with fail
 refine leaves_cons (f:=21) (args:=#[.pointer (some ⟨gw+1+1,0,none⟩),.pointer (some ⟨gw,0,none⟩),.pointer (some ⟨gw+1,0,none⟩)]) (by simp) (by simp[go_sem]) ?_
 refine(clo_any HS.out (gf:=gw+1+1) (gw:=gw) (ga:=gw+1) (from_:=(L:Int)) (at_:=at_) (by simp) (by simp) (by simp) (by omega) ha (by omega)).mono ?_
 rintro e u' w'' ⟨rfl,rfl,hz⟩;exact⟨_,results_none rfl _ _ _,rfl,_,hz.tl.tl.tl.tl⟩
end Go.Proofs.YtjolkdnfbmkjiaaGreatDoor.Wr
