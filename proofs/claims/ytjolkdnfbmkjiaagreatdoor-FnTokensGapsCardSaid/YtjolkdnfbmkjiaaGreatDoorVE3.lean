import Derived.Test.YtjolkdnfbmkjiaaGreatDoorVE2
import Derived.Defers
set_option maxRecDepth 100000
set_option maxHeartbeats 8000000
set_option linter.unusedVariables false
set_option linter.unusedSimpArgs false
namespace Go.Proofs.YtjolkdnfbmkjiaaGreatDoor.Wr
open Go.RowKit Mem Go.Proofs.YtjolkdnfbmkjiaaGreatDoorW.PrintWords PFnTokensGaps
theorem rest11 (d:List S35) (at_:Int) (l:List Int) (g:Int→List ByteArray) (cs:Int→Nat) (n1 n2 n3:ByteArray) (n4 n5:Int) :
  Writes d at_ l g cs 29 ⟨11,n1,n2,n3,n4,n5⟩ [.put [(⟨#[36]⟩:ByteArray),n1]]:=by
 intro w0 w wr A cd b bm cc ov ovr l0 acc bl h hX hD ha hb hn hc;have HDE:=aK hD;obtain⟨ad,e2,hx0,hx1,hx2,hx3,hx4,hx5⟩:=at_T35 (Kd.C_below hD.C h.bel) at_ ha hb;cases e2;rw[hn]at hx0 hx1 hx2 hx3 hx4 hx5;dsimp only at hx0 hx1 hx2 hx3 hx4 hx5;simp only[costs,List.foldl,WOp.cost]at hc;have hcell:=h.st.c0;have HS:=aK (h.new 35 #[.int .i64 11,.string n1,.string n2,.string n3,.int .i64 n4,.int .i64 n5] (by decide) (by decide))
 have HX:=aK hX;clear h hX hD hn;go_enter Tryz.func29,Tryz.ntmps29
 go_wp2_with fail
 refine(HS.out.put (by first|rfl|simp) (by omega) [(⟨#[36]⟩:ByteArray),n1] (by simp) (by omega)).mono ?_
 rintro e W ⟨rfl,ovn,HSn⟩;replace HS:=aK HSn;clear HSn;obtain⟨k0,k1,k2,k3,k4,k5⟩:=HS.out.six
 go_wp2_with fail
 go_end0
 exact⟨rfl,_,HS.out.tl⟩
theorem rest12 (d:List S35) (at_:Int) (l:List Int) (g:Int→List ByteArray) (cs:Int→Nat) (n1 n2 n3:ByteArray) (n4 n5:Int) :
  Writes d at_ l g cs 29 ⟨12,n1,n2,n3,n4,n5⟩ [.put [n3]]:=by
 intro w0 w wr A cd b bm cc ov ovr l0 acc bl h hX hD ha hb hn hc;have HDE:=aK hD;obtain⟨ad,e2,hx0,hx1,hx2,hx3,hx4,hx5⟩:=at_T35 (Kd.C_below hD.C h.bel) at_ ha hb;cases e2;rw[hn]at hx0 hx1 hx2 hx3 hx4 hx5;dsimp only at hx0 hx1 hx2 hx3 hx4 hx5;simp only[costs,List.foldl,WOp.cost]at hc;have hcell:=h.st.c0;have HS:=aK (h.new 35 #[.int .i64 12,.string n1,.string n2,.string n3,.int .i64 n4,.int .i64 n5] (by decide) (by decide))
 have HX:=aK hX;clear h hX hD hn;go_enter Tryz.func29,Tryz.ntmps29
 go_wp2_with fail
 refine(HS.out.put (by first|rfl|simp) (by omega) [n3] (by simp) (by omega)).mono ?_
 rintro e W ⟨rfl,ovn,HSn⟩;replace HS:=aK HSn;clear HSn;obtain⟨k0,k1,k2,k3,k4,k5⟩:=HS.out.six
 go_wp2_with fail
 go_end0
 exact⟨rfl,_,HS.out.tl⟩
theorem rest13 (d:List S35) (at_:Int) (l:List Int) (g:Int→List ByteArray) (cs:Int→Nat) (n1 n2 n3:ByteArray) (n4 n5:Int) :
  Writes d at_ l g cs 29 ⟨13,n1,n2,n3,n4,n5⟩ [.put [n3]]:=by
 intro w0 w wr A cd b bm cc ov ovr l0 acc bl h hX hD ha hb hn hc;have HDE:=aK hD;obtain⟨ad,e2,hx0,hx1,hx2,hx3,hx4,hx5⟩:=at_T35 (Kd.C_below hD.C h.bel) at_ ha hb;cases e2;rw[hn]at hx0 hx1 hx2 hx3 hx4 hx5;dsimp only at hx0 hx1 hx2 hx3 hx4 hx5;simp only[costs,List.foldl,WOp.cost]at hc;have hcell:=h.st.c0;have HS:=aK (h.new 35 #[.int .i64 13,.string n1,.string n2,.string n3,.int .i64 n4,.int .i64 n5] (by decide) (by decide))
 have HX:=aK hX;clear h hX hD hn;go_enter Tryz.func29,Tryz.ntmps29
 go_wp2_with fail
 refine(HS.out.put (by first|rfl|simp) (by omega) [n3] (by simp) (by omega)).mono ?_
 rintro e W ⟨rfl,ovn,HSn⟩;replace HS:=aK HSn;clear HSn;obtain⟨k0,k1,k2,k3,k4,k5⟩:=HS.out.six
 go_wp2_with fail
 go_end0
 exact⟨rfl,_,HS.out.tl⟩
theorem rest16 (d:List S35) (at_:Int) (l:List Int) (g:Int→List ByteArray) (cs:Int→Nat) (n1 n2 n3:ByteArray) (n4 n5:Int) :
  Writes d at_ l g cs 29 ⟨16,n1,n2,n3,n4,n5⟩ [.put [n1]]:=by
 intro w0 w wr A cd b bm cc ov ovr l0 acc bl h hX hD ha hb hn hc;have HDE:=aK hD;obtain⟨ad,e2,hx0,hx1,hx2,hx3,hx4,hx5⟩:=at_T35 (Kd.C_below hD.C h.bel) at_ ha hb;cases e2;rw[hn]at hx0 hx1 hx2 hx3 hx4 hx5;dsimp only at hx0 hx1 hx2 hx3 hx4 hx5;simp only[costs,List.foldl,WOp.cost]at hc;have hcell:=h.st.c0;have HS:=aK (h.new 35 #[.int .i64 16,.string n1,.string n2,.string n3,.int .i64 n4,.int .i64 n5] (by decide) (by decide))
 have HX:=aK hX;clear h hX hD hn;go_enter Tryz.func29,Tryz.ntmps29
 go_wp2_with fail
 refine(HS.out.put (by first|rfl|simp) (by omega) [n1] (by simp) (by omega)).mono ?_
 rintro e W ⟨rfl,ovn,HSn⟩;replace HS:=aK HSn;clear HSn;obtain⟨k0,k1,k2,k3,k4,k5⟩:=HS.out.six
 go_wp2_with fail
 go_end0
 exact⟨rfl,_,HS.out.tl⟩
theorem rest20 (d:List S35) (at_:Int) (l:List Int) (g:Int→List ByteArray) (cs:Int→Nat) (n1 n2 n3:ByteArray) (n4 n5:Int) :
  Writes d at_ l g cs 29 ⟨20,n1,n2,n3,n4,n5⟩ [.put [n1]]:=by
 intro w0 w wr A cd b bm cc ov ovr l0 acc bl h hX hD ha hb hn hc;have HDE:=aK hD;obtain⟨ad,e2,hx0,hx1,hx2,hx3,hx4,hx5⟩:=at_T35 (Kd.C_below hD.C h.bel) at_ ha hb;cases e2;rw[hn]at hx0 hx1 hx2 hx3 hx4 hx5;dsimp only at hx0 hx1 hx2 hx3 hx4 hx5;simp only[costs,List.foldl,WOp.cost]at hc;have hcell:=h.st.c0;have HS:=aK (h.new 35 #[.int .i64 20,.string n1,.string n2,.string n3,.int .i64 n4,.int .i64 n5] (by decide) (by decide))
 have HX:=aK hX;clear h hX hD hn;go_enter Tryz.func29,Tryz.ntmps29
 go_wp2_with fail
 refine(HS.out.put (by first|rfl|simp) (by omega) [n1] (by simp) (by omega)).mono ?_
 rintro e W ⟨rfl,ovn,HSn⟩;replace HS:=aK HSn;clear HSn;obtain⟨k0,k1,k2,k3,k4,k5⟩:=HS.out.six
 go_wp2_with fail
 go_end0
 exact⟨rfl,_,HS.out.tl⟩
theorem rest28 (d:List S35) (at_:Int) (l:List Int) (g:Int→List ByteArray) (cs:Int→Nat) (n1 n2 n3:ByteArray) (n4 n5:Int) :
  Writes d at_ l g cs 29 ⟨28,n1,n2,n3,n4,n5⟩ [.put [n1]]:=by
 intro w0 w wr A cd b bm cc ov ovr l0 acc bl h hX hD ha hb hn hc;have HDE:=aK hD;obtain⟨ad,e2,hx0,hx1,hx2,hx3,hx4,hx5⟩:=at_T35 (Kd.C_below hD.C h.bel) at_ ha hb;cases e2;rw[hn]at hx0 hx1 hx2 hx3 hx4 hx5;dsimp only at hx0 hx1 hx2 hx3 hx4 hx5;simp only[costs,List.foldl,WOp.cost]at hc;have hcell:=h.st.c0;have HS:=aK (h.new 35 #[.int .i64 28,.string n1,.string n2,.string n3,.int .i64 n4,.int .i64 n5] (by decide) (by decide))
 have HX:=aK hX;clear h hX hD hn;go_enter Tryz.func29,Tryz.ntmps29
 go_wp2_with fail
 refine(HS.out.put (by first|rfl|simp) (by omega) [n1] (by simp) (by omega)).mono ?_
 rintro e W ⟨rfl,ovn,HSn⟩;replace HS:=aK HSn;clear HSn;obtain⟨k0,k1,k2,k3,k4,k5⟩:=HS.out.six
 go_wp2_with fail
 go_end0
 exact⟨rfl,_,HS.out.tl⟩
theorem rest33 (d:List S35) (at_:Int) (l:List Int) (g:Int→List ByteArray) (cs:Int→Nat) (n1 n2 n3:ByteArray) (n4 n5:Int) :
  Writes d at_ l g cs 29 ⟨33,n1,n2,n3,n4,n5⟩ [.put [n1]]:=by
 intro w0 w wr A cd b bm cc ov ovr l0 acc bl h hX hD ha hb hn hc;have HDE:=aK hD;obtain⟨ad,e2,hx0,hx1,hx2,hx3,hx4,hx5⟩:=at_T35 (Kd.C_below hD.C h.bel) at_ ha hb;cases e2;rw[hn]at hx0 hx1 hx2 hx3 hx4 hx5;dsimp only at hx0 hx1 hx2 hx3 hx4 hx5;simp only[costs,List.foldl,WOp.cost]at hc;have hcell:=h.st.c0;have HS:=aK (h.new 35 #[.int .i64 33,.string n1,.string n2,.string n3,.int .i64 n4,.int .i64 n5] (by decide) (by decide))
 have HX:=aK hX;clear h hX hD hn;go_enter Tryz.func29,Tryz.ntmps29
 go_wp2_with fail
 refine(HS.out.put (by first|rfl|simp) (by omega) [n1] (by simp) (by omega)).mono ?_
 rintro e W ⟨rfl,ovn,HSn⟩;replace HS:=aK HSn;clear HSn;obtain⟨k0,k1,k2,k3,k4,k5⟩:=HS.out.six
 go_wp2_with fail
 go_end0
 exact⟨rfl,_,HS.out.tl⟩
theorem rest38 (d:List S35) (at_:Int) (l:List Int) (g:Int→List ByteArray) (cs:Int→Nat) (n1 n2 n3:ByteArray) (n4 n5:Int) :
  Writes d at_ l g cs 29 ⟨38,n1,n2,n3,n4,n5⟩ [.put [n1]]:=by
 intro w0 w wr A cd b bm cc ov ovr l0 acc bl h hX hD ha hb hn hc;have HDE:=aK hD;obtain⟨ad,e2,hx0,hx1,hx2,hx3,hx4,hx5⟩:=at_T35 (Kd.C_below hD.C h.bel) at_ ha hb;cases e2;rw[hn]at hx0 hx1 hx2 hx3 hx4 hx5;dsimp only at hx0 hx1 hx2 hx3 hx4 hx5;simp only[costs,List.foldl,WOp.cost]at hc;have hcell:=h.st.c0;have HS:=aK (h.new 35 #[.int .i64 38,.string n1,.string n2,.string n3,.int .i64 n4,.int .i64 n5] (by decide) (by decide))
 have HX:=aK hX;clear h hX hD hn;go_enter Tryz.func29,Tryz.ntmps29
 go_wp2_with fail
 refine(HS.out.put (by first|rfl|simp) (by omega) [n1] (by simp) (by omega)).mono ?_
 rintro e W ⟨rfl,ovn,HSn⟩;replace HS:=aK HSn;clear HSn;obtain⟨k0,k1,k2,k3,k4,k5⟩:=HS.out.six
 go_wp2_with fail
 go_end0
 exact⟨rfl,_,HS.out.tl⟩
theorem rest14b (d:List S35) (at_:Int) (l:List Int) (g:Int→List ByteArray) (cs:Int→Nat) (n1 n2 n3:ByteArray) (n4 n5:Int) (q:ByteArray) (hQ:∀W:World,Calls Tryz.prog 46 #[.string n3] W fun e w1=>e = .returned (.string q)∧Below W.heap.size W w1) (hfl:n4=1) :
  Writes d at_ l g cs 29 ⟨14,n1,n2,n3,n4,n5⟩ [.put [q]]:=by
 intro w0 w wr A cd b bm cc ov ovr l0 acc bl h hX hD ha hb hn hc;have HDE:=aK hD;obtain⟨ad,e2,hx0,hx1,hx2,hx3,hx4,hx5⟩:=at_T35 (Kd.C_below hD.C h.bel) at_ ha hb;cases e2;rw[hn]at hx0 hx1 hx2 hx3 hx4 hx5;dsimp only at hx0 hx1 hx2 hx3 hx4 hx5;simp only[costs,List.foldl,WOp.cost]at hc;have hcell:=h.st.c0;have HS:=aK (h.new 35 #[.int .i64 14,.string n1,.string n2,.string n3,.int .i64 n4,.int .i64 n5] (by decide) (by decide))
 have HX:=aK hX;clear h hX hD hn;subst hfl;have HQ:=aK hQ;clear hQ;go_enter Tryz.func29,Tryz.ntmps29
 go_wp2_with (go_at_call 46;refine(HQ.out _).mono ?_;rintro e W ⟨rfl,hbW⟩;replace HS:=aK (HS.out.below hbW);clear hbW)
 refine(HS.out.put (by first|rfl|simp) (by omega) [q] (by simp) (by omega)).mono ?_
 rintro e W ⟨rfl,ovn,HSn⟩;replace HS:=aK HSn;clear HSn;obtain⟨k0,k1,k2,k3,k4,k5⟩:=HS.out.six
 go_wp2_with fail
 go_end0
 exact⟨rfl,_,HS.out.tl⟩
theorem rest14q (d:List S35) (at_:Int) (l:List Int) (g:Int→List ByteArray) (cs:Int→Nat) (n1 n2 n3:ByteArray) (n4 n5:Int) (q:ByteArray) (hQ:∀W:World,Calls Tryz.prog 47 #[.string n3] W fun e w1=>e = .returned (.string q)∧Below W.heap.size W w1) (hfl:n4=0) :
  Writes d at_ l g cs 29 ⟨14,n1,n2,n3,n4,n5⟩ [.put [q]]:=by
 intro w0 w wr A cd b bm cc ov ovr l0 acc bl h hX hD ha hb hn hc;have HDE:=aK hD;obtain⟨ad,e2,hx0,hx1,hx2,hx3,hx4,hx5⟩:=at_T35 (Kd.C_below hD.C h.bel) at_ ha hb;cases e2;rw[hn]at hx0 hx1 hx2 hx3 hx4 hx5;dsimp only at hx0 hx1 hx2 hx3 hx4 hx5;simp only[costs,List.foldl,WOp.cost]at hc;have hcell:=h.st.c0;have HS:=aK (h.new 35 #[.int .i64 14,.string n1,.string n2,.string n3,.int .i64 n4,.int .i64 n5] (by decide) (by decide))
 have HX:=aK hX;clear h hX hD hn;subst hfl;have HQ:=aK hQ;clear hQ;go_enter Tryz.func29,Tryz.ntmps29
 go_wp2_with (go_at_call 47;refine(HQ.out _).mono ?_;rintro e W ⟨rfl,hbW⟩;replace HS:=aK (HS.out.below hbW);clear hbW)
 refine(HS.out.put (by first|rfl|simp) (by omega) [q] (by simp) (by omega)).mono ?_
 rintro e W ⟨rfl,ovn,HSn⟩;replace HS:=aK HSn;clear HSn;obtain⟨k0,k1,k2,k3,k4,k5⟩:=HS.out.six
 go_wp2_with fail
 go_end0
 exact⟨rfl,_,HS.out.tl⟩
theorem rest23b (d:List S35) (at_:Int) (l:List Int) (g:Int→List ByteArray) (cs:Int→Nat) (n1 n2 n3:ByteArray) (n4 n5:Int) (q:ByteArray) (hQ:∀W:World,Calls Tryz.prog 46 #[.string n3] W fun e w1=>e = .returned (.string q)∧Below W.heap.size W w1) (hfl:n4=1) :
  Writes d at_ l g cs 29 ⟨23,n1,n2,n3,n4,n5⟩ [.put [q]]:=by
 intro w0 w wr A cd b bm cc ov ovr l0 acc bl h hX hD ha hb hn hc;have HDE:=aK hD;obtain⟨ad,e2,hx0,hx1,hx2,hx3,hx4,hx5⟩:=at_T35 (Kd.C_below hD.C h.bel) at_ ha hb;cases e2;rw[hn]at hx0 hx1 hx2 hx3 hx4 hx5;dsimp only at hx0 hx1 hx2 hx3 hx4 hx5;simp only[costs,List.foldl,WOp.cost]at hc;have hcell:=h.st.c0;have HS:=aK (h.new 35 #[.int .i64 23,.string n1,.string n2,.string n3,.int .i64 n4,.int .i64 n5] (by decide) (by decide))
 have HX:=aK hX;clear h hX hD hn;subst hfl;have HQ:=aK hQ;clear hQ;go_enter Tryz.func29,Tryz.ntmps29
 go_wp2_with (go_at_call 46;refine(HQ.out _).mono ?_;rintro e W ⟨rfl,hbW⟩;replace HS:=aK (HS.out.below hbW);clear hbW)
 refine(HS.out.put (by first|rfl|simp) (by omega) [q] (by simp) (by omega)).mono ?_
 rintro e W ⟨rfl,ovn,HSn⟩;replace HS:=aK HSn;clear HSn;obtain⟨k0,k1,k2,k3,k4,k5⟩:=HS.out.six
 go_wp2_with fail
 go_end0
 exact⟨rfl,_,HS.out.tl⟩
theorem rest23q (d:List S35) (at_:Int) (l:List Int) (g:Int→List ByteArray) (cs:Int→Nat) (n1 n2 n3:ByteArray) (n4 n5:Int) (q:ByteArray) (hQ:∀W:World,Calls Tryz.prog 47 #[.string n3] W fun e w1=>e = .returned (.string q)∧Below W.heap.size W w1) (hfl:n4=0) :
  Writes d at_ l g cs 29 ⟨23,n1,n2,n3,n4,n5⟩ [.put [q]]:=by
 intro w0 w wr A cd b bm cc ov ovr l0 acc bl h hX hD ha hb hn hc;have HDE:=aK hD;obtain⟨ad,e2,hx0,hx1,hx2,hx3,hx4,hx5⟩:=at_T35 (Kd.C_below hD.C h.bel) at_ ha hb;cases e2;rw[hn]at hx0 hx1 hx2 hx3 hx4 hx5;dsimp only at hx0 hx1 hx2 hx3 hx4 hx5;simp only[costs,List.foldl,WOp.cost]at hc;have hcell:=h.st.c0;have HS:=aK (h.new 35 #[.int .i64 23,.string n1,.string n2,.string n3,.int .i64 n4,.int .i64 n5] (by decide) (by decide))
 have HX:=aK hX;clear h hX hD hn;subst hfl;have HQ:=aK hQ;clear hQ;go_enter Tryz.func29,Tryz.ntmps29
 go_wp2_with (go_at_call 47;refine(HQ.out _).mono ?_;rintro e W ⟨rfl,hbW⟩;replace HS:=aK (HS.out.below hbW);clear hbW)
 refine(HS.out.put (by first|rfl|simp) (by omega) [q] (by simp) (by omega)).mono ?_
 rintro e W ⟨rfl,ovn,HSn⟩;replace HS:=aK HSn;clear HSn;obtain⟨k0,k1,k2,k3,k4,k5⟩:=HS.out.six
 go_wp2_with fail
 go_end0
 exact⟨rfl,_,HS.out.tl⟩
theorem rest15f (d:List S35) (at_:Int) (l:List Int) (g:Int→List ByteArray) (cs:Int→Nat) (n1 n2 n3:ByteArray) (n4 n5:Int) (hfl:n4=0) :
  Writes d at_ l g cs 29 ⟨15,n1,n2,n3,n4,n5⟩ [.put [(⟨#[102,97,108,115,101]⟩:ByteArray)]]:=by
 intro w0 w wr A cd b bm cc ov ovr l0 acc bl h hX hD ha hb hn hc;have HDE:=aK hD;obtain⟨ad,e2,hx0,hx1,hx2,hx3,hx4,hx5⟩:=at_T35 (Kd.C_below hD.C h.bel) at_ ha hb;cases e2;rw[hn]at hx0 hx1 hx2 hx3 hx4 hx5;dsimp only at hx0 hx1 hx2 hx3 hx4 hx5;simp only[costs,List.foldl,WOp.cost]at hc;have hcell:=h.st.c0;have HS:=aK (h.new 35 #[.int .i64 15,.string n1,.string n2,.string n3,.int .i64 n4,.int .i64 n5] (by decide) (by decide))
 have HX:=aK hX;clear h hX hD hn;subst hfl;go_enter Tryz.func29,Tryz.ntmps29
 go_wp2_with fail
 replace HS:=aK (HS.out.below ((Below.refl _ _).alloc (Nat.le_refl _) (.cells #[.string (⟨#[102,97,108,115,101]⟩:ByteArray),.string (⟨#[116,114,117,101]⟩:ByteArray)] 9)));refine(HS.out.put (by first|rfl|simp) (by omega) [(⟨#[102,97,108,115,101]⟩:ByteArray)] (by simp) (by omega)).mono ?_
 rintro e W ⟨rfl,ovn,HSn⟩;replace HS:=aK HSn;clear HSn;obtain⟨k0,k1,k2,k3,k4,k5⟩:=HS.out.six
 go_wp2_with fail
 go_end0
 exact⟨rfl,_,HS.out.tl⟩
theorem rest15t (d:List S35) (at_:Int) (l:List Int) (g:Int→List ByteArray) (cs:Int→Nat) (n1 n2 n3:ByteArray) (n4 n5:Int) (hfl:n4=1) :
  Writes d at_ l g cs 29 ⟨15,n1,n2,n3,n4,n5⟩ [.put [(⟨#[116,114,117,101]⟩:ByteArray)]]:=by
 intro w0 w wr A cd b bm cc ov ovr l0 acc bl h hX hD ha hb hn hc;have HDE:=aK hD;obtain⟨ad,e2,hx0,hx1,hx2,hx3,hx4,hx5⟩:=at_T35 (Kd.C_below hD.C h.bel) at_ ha hb;cases e2;rw[hn]at hx0 hx1 hx2 hx3 hx4 hx5;dsimp only at hx0 hx1 hx2 hx3 hx4 hx5;simp only[costs,List.foldl,WOp.cost]at hc;have hcell:=h.st.c0;have HS:=aK (h.new 35 #[.int .i64 15,.string n1,.string n2,.string n3,.int .i64 n4,.int .i64 n5] (by decide) (by decide))
 have HX:=aK hX;clear h hX hD hn;subst hfl;go_enter Tryz.func29,Tryz.ntmps29
 go_wp2_with fail
 replace HS:=aK (HS.out.below ((Below.refl _ _).alloc (Nat.le_refl _) (.cells #[.string (⟨#[102,97,108,115,101]⟩:ByteArray),.string (⟨#[116,114,117,101]⟩:ByteArray)] 9)));refine(HS.out.put (by first|rfl|simp) (by omega) [(⟨#[116,114,117,101]⟩:ByteArray)] (by simp) (by omega)).mono ?_
 rintro e W ⟨rfl,ovn,HSn⟩;replace HS:=aK HSn;clear HSn;obtain⟨k0,k1,k2,k3,k4,k5⟩:=HS.out.six
 go_wp2_with fail
 go_end0
 exact⟨rfl,_,HS.out.tl⟩
theorem sum_take (cs:Int→Nat) (l:List Int) (i:Nat) (h:i<l.length):((l.take (i+1)).map cs).sum=((l.take i).map cs).sum+cs (l.getD i 0):=by
 rw[take_snoc 0 l i h,List.map_append,List.sum_append];simp
theorem sum_le (cs:Int→Nat) (l:List Int) (i:Nat):((l.take i).map cs).sum≤(l.map cs).sum:=by
 conv=>rhs;rw[←List.take_append_drop i l]
 rw[List.map_append,List.sum_append];omega
theorem flat_take (g:Int→List ByteArray) (l:List Int) (i:Nat) (h:i<l.length):(l.take (i+1)).flatMap g=(l.take i).flatMap g++g (l.getD i 0):=by
 rw[take_snoc 0 l i h,List.flatMap_append];simp
theorem NSt.restart {w0 w wr:World} {A:Option Addr} {cd b bm cc:Nat} {d:List S35} {ov ovr:Value} {l0 acc:List ByteArray} {bl:List (Nat×TypeId×Array Value)} (h:NSt w0 A cd d b bm w ov l0 bl wr ovr acc cc):NSt w0 A cd d b bm wr ovr (l0++acc) bl wr ovr [] cc:=
 ⟨by rw[List.append_nil];exact h.st,h.bel,.refl _ _,h.kept⟩
theorem NSt.rejoin {w0 w wr w':World} {A:Option Addr} {cd b bm cc cc':Nat} {d:List S35} {ov ovr ov':Value} {l0 acc x:List ByteArray} {bl bl':List (Nat×TypeId×Array Value)} (h:NSt w0 A cd d b bm w ov l0 bl wr ovr acc cc) (k:NSt w0 A cd d b bm wr ovr (l0++acc) bl' w' ov' x cc'):NSt w0 A cd d b bm w ov l0 bl w' ov' (acc++x) cc':=h.next k.st k.wk
theorem rest17 (d:List S35) (at_:Int) (l:List Int) (g:Int→List ByteArray) (cs:Int→Nat) (n1 n2 n3:ByteArray) (n4 n5:Int) :
  Writes d at_ l g cs 29 ⟨17,n1,n2,n3,n4,n5⟩ [.put [(⟨#[91]⟩:ByteArray)],.all,.put [(⟨#[93]⟩:ByteArray)]]:=by
 intro w0 w wr A cd b bm cc ov ovr l0 acc bl h hX hD ha hb hn hc;have HDE:=aK hD;obtain⟨ad,e2,hx0,hx1,hx2,hx3,hx4,hx5⟩:=at_T35 (Kd.C_below hD.C h.bel) at_ ha hb;cases e2;rw[hn]at hx0 hx1 hx2 hx3 hx4 hx5;dsimp only at hx0 hx1 hx2 hx3 hx4 hx5;simp only[costs,List.foldl,WOp.cost]at hc;have hcell:=h.st.c0;have hll:=hX.len;have hp:=h.new 35 #[.int .i64 17,.string n1,.string n2,.string n3,.int .i64 n4,.int .i64 n5] (by decide) (by decide)
 have hfresh:=fun_ne hp.st;have hp2:=hp.below ((Below.refl _ _).alloc (Nat.le_refl _) (.cells #[.string (⟨#[91]⟩:ByteArray),.string (⟨#[93]⟩:ByteArray)] 9));have hsig:Blk _ _ 9 _:=Blk.new (wr.alloc (.cells #[.int .i64 17,.string n1,.string n2,.string n3,.int .i64 n4,.int .i64 n5] 35)) 9 #[.string (⟨#[91]⟩:ByteArray),.string (⟨#[93]⟩:ByteArray)];have HS0:=aK hp2.tl;have HS:=aK hp2.restart;have HSG:=aK (And.intro hsig hfresh);have HX:=aK hX;clear h hX hD hn hp hp2 hsig hfresh;go_enter Tryz.func29,Tryz.ntmps29
 go_wp2_with fail
 refine(HS.out.put (by first|rfl|simp) (by omega) [(⟨#[91]⟩:ByteArray)] (by simp) (by omega)).mono ?_
 rintro e W ⟨rfl,ovn,HSn⟩;replace HS:=aK HSn;clear HSn;have kc:=HS.out.st.c0;obtain⟨K,hK⟩:=HX.out.K;have HKK:=aK hK;have HC:=aK (Kd.C_below HDE.out.C HS.out.bel);clear hK
 go_wp2_with (go_at_call 22;refine(spec_Kids.calls K _ cd d at_ l _ HC.out HDE.out.le HKK.out).mono ?_;rintro e w1 ⟨v,rfl,hR,hb1⟩;have HR:=aK hR;have HW1:=aK hb1;clear hR hb1)
 obtain⟨Al,cl,rfl⟩:=Kd.R_slice HR.out;replace HS:=aK (HS.out.below HW1.out);have HL0:=aK HS.out.restart
 go_loopw [7] (fun v7 wr3=>∃(i:Nat) (ovl:Value),v7 = .int .i64 (i:Int)∧i≤l.length∧Aside0 (NSt w0 (some ad) cd d b bm w1 ovn _ _ wr3 ovl ((l.take i).flatMap g) (cc+wt [(⟨#[91]⟩:ByteArray)]+((l.take i).map cs).sum))) (fun v7 _=>l.length-(intOf v7).toNat)
 case atStart=>exact⟨0,ovn,rfl,Nat.zero_le _,HL0⟩
 case round=>
  obtain⟨i,ovl,rfl,hi,HL⟩:=hrel
  by_cases hil:i=l.length
  ·subst hil
   have hlt:decide ((l.length:Int)<(l.length:Int))=false:=decide_eq_false (by omega)
   rw[List.take_length]at HL;have HJ:=aK (HS.out.rejoin HL.out);obtain⟨hs1,hs2⟩:=Blk.stay9 HSG.out.1 HS0.out.st HJ.out.wk HSG.out.2;have hs3:=(hs1.cell 1).trans rfl;clear hs1 hs2;simp at hs3
   go_wp2_with fail
   refine(HJ.out.put (by first|rfl|simp) (by omega) [(⟨#[93]⟩:ByteArray)] (by simp) (by omega)).mono ?_
   rintro e W5 ⟨rfl,ovz,HZ⟩;have HZ:=aK HZ
   go_wp2_with fail
   go_end0
   refine⟨rfl,ovz,?_⟩;have q:=HS0.out.rejoin HZ.out;show NSt w0 (some ad) cd d b bm w ov l0 bl _ ovz (acc++[(⟨#[91]⟩:ByteArray)]++l.flatMap g++[(⟨#[93]⟩:ByteArray)]) (cc+wt [(⟨#[91]⟩:ByteArray)]+(l.map cs).sum+wt [(⟨#[93]⟩:ByteArray)])
   simpa only[List.nil_append,List.append_assoc]using q
  ·have hlt:decide ((i:Int)<(l.length:Int))=true:=decide_eq_true (by omega)
   have hil2:i<l.length:=by omega
   have hsum:=sum_take cs l i hil2;have hsle:=sum_le cs l (i+1);have hfl:=flat_take g l i hil2;obtain⟨x,hx⟩:∃x,l.getD i 0=x:=⟨_,rfl⟩;have hxm:x∈l:=by rw[←hx,List.getD_eq_getElem?_getD,List.getElem?_eq_getElem hil2];exact List.getElem_mem _
   rw[hx]at hsum hfl;obtain⟨ad1,e1,hx9⟩:=Kd.at_int (Kd.R_reads' (R_stay HR.out HS.out.st HL.out.wk)).2.2 i (by omega) (by omega)
   cases e1;rw[rd_D,hx,Int.toNat_natCast]at hx9;have HF:=aK (And.intro hfl hsum);clear hfl
   go_wp2_with (go_at_call 13;refine(HL.out.node (HX.out.spec x hxm) HDE.out (by omega)).mono ?_;rintro e w4 ⟨rfl,ov4,h4⟩;have H4:=aK h4;clear h4)
   refine⟨⟨i+1,ov4,by simp,hil2,⟨?_⟩⟩,by simp[intOf];omega⟩
   rw[HF.out.1,HF.out.2,←Nat.add_assoc];exact H4.out
theorem rest18 (d:List S35) (at_:Int) (l:List Int) (g:Int→List ByteArray) (cs:Int→Nat) (n1 n2 n3:ByteArray) (n4 n5:Int) :
  Writes d at_ l g cs 29 ⟨18,n1,n2,n3,n4,n5⟩ [.put [(⟨#[123]⟩:ByteArray)],.all,.put [(⟨#[125]⟩:ByteArray)]]:=by
 intro w0 w wr A cd b bm cc ov ovr l0 acc bl h hX hD ha hb hn hc;have HDE:=aK hD;obtain⟨ad,e2,hx0,hx1,hx2,hx3,hx4,hx5⟩:=at_T35 (Kd.C_below hD.C h.bel) at_ ha hb;cases e2;rw[hn]at hx0 hx1 hx2 hx3 hx4 hx5;dsimp only at hx0 hx1 hx2 hx3 hx4 hx5;simp only[costs,List.foldl,WOp.cost]at hc;have hcell:=h.st.c0;have hll:=hX.len;have hp:=h.new 35 #[.int .i64 18,.string n1,.string n2,.string n3,.int .i64 n4,.int .i64 n5] (by decide) (by decide)
 replace hp:=hp.below ((Below.refl _ _).alloc (Nat.le_refl _) (.cells #[.string (⟨#[91]⟩:ByteArray),.string (⟨#[93]⟩:ByteArray)] 9));have hfresh:=fun_ne hp.st;have hp2:=hp.below ((Below.refl _ _).alloc (Nat.le_refl _) (.cells #[.string (⟨#[123]⟩:ByteArray),.string (⟨#[125]⟩:ByteArray)] 9));have hsig:Blk _ _ 9 _:=Blk.new ((wr.alloc (.cells #[.int .i64 18,.string n1,.string n2,.string n3,.int .i64 n4,.int .i64 n5] 35)).alloc (.cells #[.string (⟨#[91]⟩:ByteArray),.string (⟨#[93]⟩:ByteArray)] 9)) 9 #[.string (⟨#[123]⟩:ByteArray),.string (⟨#[125]⟩:ByteArray)];have HS0:=aK hp2.tl;have HS:=aK hp2.restart;have HSG:=aK (And.intro hsig hfresh);have HX:=aK hX;clear h hX hD hn hp hp2 hsig hfresh;go_enter Tryz.func29,Tryz.ntmps29
 go_wp2_with fail
 refine(HS.out.put (by first|rfl|simp) (by omega) [(⟨#[123]⟩:ByteArray)] (by simp) (by omega)).mono ?_
 rintro e W ⟨rfl,ovn,HSn⟩;replace HS:=aK HSn;clear HSn;have kc:=HS.out.st.c0;obtain⟨K,hK⟩:=HX.out.K;have HKK:=aK hK;have HC:=aK (Kd.C_below HDE.out.C HS.out.bel);clear hK
 go_wp2_with (go_at_call 22;refine(spec_Kids.calls K _ cd d at_ l _ HC.out HDE.out.le HKK.out).mono ?_;rintro e w1 ⟨v,rfl,hR,hb1⟩;have HR:=aK hR;have HW1:=aK hb1;clear hR hb1)
 obtain⟨Al,cl,rfl⟩:=Kd.R_slice HR.out;replace HS:=aK (HS.out.below HW1.out);have HL0:=aK HS.out.restart
 go_loopw [7] (fun v7 wr3=>∃(i:Nat) (ovl:Value),v7 = .int .i64 (i:Int)∧i≤l.length∧Aside0 (NSt w0 (some ad) cd d b bm w1 ovn _ _ wr3 ovl ((l.take i).flatMap g) (cc+wt [(⟨#[123]⟩:ByteArray)]+((l.take i).map cs).sum))) (fun v7 _=>l.length-(intOf v7).toNat)
 case atStart=>exact⟨0,ovn,rfl,Nat.zero_le _,HL0⟩
 case round=>
  obtain⟨i,ovl,rfl,hi,HL⟩:=hrel
  by_cases hil:i=l.length
  ·subst hil
   have hlt:decide ((l.length:Int)<(l.length:Int))=false:=decide_eq_false (by omega)
   rw[List.take_length]at HL;have HJ:=aK (HS.out.rejoin HL.out);obtain⟨hs1,hs2⟩:=Blk.stay9 HSG.out.1 HS0.out.st HJ.out.wk HSG.out.2;have hs3:=(hs1.cell 1).trans rfl;clear hs1 hs2;simp at hs3
   go_wp2_with fail
   refine(HJ.out.put (by first|rfl|simp) (by omega) [(⟨#[125]⟩:ByteArray)] (by simp) (by omega)).mono ?_
   rintro e W5 ⟨rfl,ovz,HZ⟩;have HZ:=aK HZ
   go_wp2_with fail
   go_end0
   refine⟨rfl,ovz,?_⟩;have q:=HS0.out.rejoin HZ.out;show NSt w0 (some ad) cd d b bm w ov l0 bl _ ovz (acc++[(⟨#[123]⟩:ByteArray)]++l.flatMap g++[(⟨#[125]⟩:ByteArray)]) (cc+wt [(⟨#[123]⟩:ByteArray)]+(l.map cs).sum+wt [(⟨#[125]⟩:ByteArray)])
   simpa only[List.nil_append,List.append_assoc]using q
  ·have hlt:decide ((i:Int)<(l.length:Int))=true:=decide_eq_true (by omega)
   have hil2:i<l.length:=by omega
   have hsum:=sum_take cs l i hil2;have hsle:=sum_le cs l (i+1);have hfl:=flat_take g l i hil2;obtain⟨x,hx⟩:∃x,l.getD i 0=x:=⟨_,rfl⟩;have hxm:x∈l:=by rw[←hx,List.getD_eq_getElem?_getD,List.getElem?_eq_getElem hil2];exact List.getElem_mem _
   rw[hx]at hsum hfl;obtain⟨ad1,e1,hx9⟩:=Kd.at_int (Kd.R_reads' (R_stay HR.out HS.out.st HL.out.wk)).2.2 i (by omega) (by omega)
   cases e1;rw[rd_D,hx,Int.toNat_natCast]at hx9;have HF:=aK (And.intro hfl hsum);clear hfl
   go_wp2_with (go_at_call 13;refine(HL.out.node (HX.out.spec x hxm) HDE.out (by omega)).mono ?_;rintro e w4 ⟨rfl,ov4,h4⟩;have H4:=aK h4;clear h4)
   refine⟨⟨i+1,ov4,by simp,hil2,⟨?_⟩⟩,by simp[intOf];omega⟩
   rw[HF.out.1,HF.out.2,←Nat.add_assoc];exact H4.out
theorem rest21 (d:List S35) (at_:Int) (l:List Int) (g:Int→List ByteArray) (cs:Int→Nat) (n1 n2 n3:ByteArray) (n4 n5:Int) (hNX:NodeSpec d (at_+1) (g (at_+1)) (cs (at_+1))) :
  Writes d at_ l g cs 29 ⟨21,n1,n2,n3,n4,n5⟩ [.put [(⟨#[91]⟩:ByteArray)],.node (at_+1),.put [(⟨#[93]⟩:ByteArray)]]:=by
 intro w0 w wr A cd b bm cc ov ovr l0 acc bl h hX hD ha hb hn hc;have HDE:=aK hD;obtain⟨ad,e2,hx0,hx1,hx2,hx3,hx4,hx5⟩:=at_T35 (Kd.C_below hD.C h.bel) at_ ha hb;cases e2;rw[hn]at hx0 hx1 hx2 hx3 hx4 hx5;dsimp only at hx0 hx1 hx2 hx3 hx4 hx5;simp only[costs,List.foldl,WOp.cost]at hc;have hcell:=h.st.c0;have HS:=aK (h.new 35 #[.int .i64 21,.string n1,.string n2,.string n3,.int .i64 n4,.int .i64 n5] (by decide) (by decide))
 have HX:=aK hX;clear h hX hD hn;have HNX:=aK hNX;clear hNX;have hle:=HDE.out.len;go_enter Tryz.func29,Tryz.ntmps29
 go_wp2_with fail
 refine(HS.out.put (by first|rfl|simp) (by omega) [(⟨#[91]⟩:ByteArray)] (by simp) (by omega)).mono ?_
 rintro e W ⟨rfl,ovn,HSn⟩;replace HS:=aK HSn;clear HSn;obtain⟨k0,k1,k2,k3,k4,k5⟩:=HS.out.six
 go_wp2_with fail
 refine(HS.out.node HNX.out HDE.out (by omega)).mono ?_
 rintro e W ⟨rfl,ovn,HSn⟩;replace HS:=aK HSn;clear HSn;obtain⟨k0,k1,k2,k3,k4,k5⟩:=HS.out.six
 go_wp2_with fail
 refine(HS.out.put (by first|rfl|simp) (by omega) [(⟨#[93]⟩:ByteArray)] (by simp) (by omega)).mono ?_
 rintro e W ⟨rfl,ovn,HSn⟩;replace HS:=aK HSn;clear HSn;obtain⟨k0,k1,k2,k3,k4,k5⟩:=HS.out.six
 go_wp2_with fail
 go_end0
 exact⟨rfl,_,HS.out.tl⟩
theorem rest22 (d:List S35) (at_:Int) (l:List Int) (g:Int→List ByteArray) (cs:Int→Nat) (n1 n2 n3:ByteArray) (n4 n5:Int) (hNX:NodeSpec d (at_+1) (g (at_+1)) (cs (at_+1))) :
  Writes d at_ l g cs 29 ⟨22,n1,n2,n3,n4,n5⟩ [.node (at_+1),.put [(⟨#[33]⟩:ByteArray)]]:=by
 intro w0 w wr A cd b bm cc ov ovr l0 acc bl h hX hD ha hb hn hc;have HDE:=aK hD;obtain⟨ad,e2,hx0,hx1,hx2,hx3,hx4,hx5⟩:=at_T35 (Kd.C_below hD.C h.bel) at_ ha hb;cases e2;rw[hn]at hx0 hx1 hx2 hx3 hx4 hx5;dsimp only at hx0 hx1 hx2 hx3 hx4 hx5;simp only[costs,List.foldl,WOp.cost]at hc;have hcell:=h.st.c0;have HS:=aK (h.new 35 #[.int .i64 22,.string n1,.string n2,.string n3,.int .i64 n4,.int .i64 n5] (by decide) (by decide))
 have HX:=aK hX;clear h hX hD hn;have HNX:=aK hNX;clear hNX;have hle:=HDE.out.len;go_enter Tryz.func29,Tryz.ntmps29
 go_wp2_with fail
 refine(HS.out.node HNX.out HDE.out (by omega)).mono ?_
 rintro e W ⟨rfl,ovn,HSn⟩;replace HS:=aK HSn;clear HSn;obtain⟨k0,k1,k2,k3,k4,k5⟩:=HS.out.six
 go_wp2_with fail
 refine(HS.out.put (by first|rfl|simp) (by omega) [(⟨#[33]⟩:ByteArray)] (by simp) (by omega)).mono ?_
 rintro e W ⟨rfl,ovn,HSn⟩;replace HS:=aK HSn;clear HSn;obtain⟨k0,k1,k2,k3,k4,k5⟩:=HS.out.six
 go_wp2_with fail
 go_end0
 exact⟨rfl,_,HS.out.tl⟩
theorem def39 (d:List S35) (at_:Int) (l:List Int) (g:Int→List ByteArray) (cs:Int→Nat) (n1 n2 n3:ByteArray) (n4 n5:Int) (hNX:NodeSpec d (at_+1) (g (at_+1)) (cs (at_+1))) :
  Writes d at_ l g cs 48 ⟨39,n1,n2,n3,n4,n5⟩ [.kids E E E [23],.put [(⟨#[101,120,116,101,110,100]⟩:ByteArray)],.node (at_+1)]:=by
 intro w0 w wr A cd b bm cc ov ovr l0 acc bl h hX hD ha hb hn hc;have HDE:=aK hD;obtain⟨ad,e2,hx0,hx1,hx2,hx3,hx4,hx5⟩:=at_T35 (Kd.C_below hD.C h.bel) at_ ha hb;cases e2;rw[hn]at hx0 hx1 hx2 hx3 hx4 hx5;dsimp only at hx0 hx1 hx2 hx3 hx4 hx5;simp only[costs,List.foldl,WOp.cost]at hc;have hcell:=h.st.c0;have HS:=aK (h.new 35 #[.int .i64 39,.string n1,.string n2,.string n3,.int .i64 n4,.int .i64 n5] (by decide) (by decide))
 have HX:=aK hX;clear h hX hD hn;have HNX:=aK hNX;clear hNX;have hle:=HDE.out.len;go_enter Tryz.func48,Tryz.ntmps48
 go_wp2_with fail
 refine(HS.out.about HX.out HDE.out (by omega)).mono ?_
 rintro e W ⟨rfl,ovn,HSn⟩;replace HS:=aK HSn;clear HSn;obtain⟨k0,k1,k2,k3,k4,k5⟩:=HS.out.six
 go_wp2_with fail
 refine(HS.out.put (by first|rfl|simp) (by omega) [(⟨#[101,120,116,101,110,100]⟩:ByteArray)] (by simp) (by omega)).mono ?_
 rintro e W ⟨rfl,ovn,HSn⟩;replace HS:=aK HSn;clear HSn;obtain⟨k0,k1,k2,k3,k4,k5⟩:=HS.out.six
 go_wp2_with fail
 refine(HS.out.node HNX.out HDE.out (by omega)).mono ?_
 rintro e W ⟨rfl,ovn,HSn⟩;replace HS:=aK HSn;clear HSn;obtain⟨k0,k1,k2,k3,k4,k5⟩:=HS.out.six
 go_wp2_with fail
 go_end0
 exact⟨rfl,_,HS.out.tl⟩
theorem keyed3:Go.Maps.Keyed Tryz.prog 3:=Go.Maps.int_keyed Tryz.underlying3
theorem wf64 {x:Int} (h0:0≤x) (h1:x<1000000):(Lit.int .i64 x).wf=true:=by
 simp[Lit.wf,IntKind.min,IntKind.max,IntKind.signed,IntKind.bits];omega
section
variable {w0 w wr w':World} {A:Option Addr} {cd b bm cc cc':Nat} {d:List S35} {ov ovr ov':Value} {l0 acc x:List ByteArray} {bl:List (Nat×TypeId×Array Value)} {at_:Int}
theorem NSt.turned (h:NSt w0 A cd d b bm w ov l0 bl wr ovr acc cc) {n:Nat} {D:DataW Unit} (hn:n≤cc+1) (h1:w'.ownsMap Tryz.prog 3 MR bm n D) (h2:wr.grownBy w' (some bm)):NSt w0 A cd d b bm w ov l0 bl w' ovr acc (cc+1):=by
 have hne:=h.st.ne;have hnm:=h.st.own_nem;obtain⟨n0,D0,_,hm0⟩:=h.st.map;have hK:WK b bm wr ovr w' ovr:=⟨h2.os,h2.tape,h2.output,h2.size,fun g h3 _ h4 _=>h2.block g h3 (fun e=>h4 (Option.some.inj e)),fun g e=>.inl e⟩;refine⟨⟨?_,?_,⟨n,D,hn,h1⟩,h.st.hb,h.st.hm,Nat.le_succ_of_le h.st.len⟩,h.bel.trans (hK.below h.st),h.wk.trans hK,fun y hy=>⟨(h.kept y hy).1,(h.kept y hy).2.1,Blk.stay (h.kept y hy).2.2 h.st hK (h.kept y hy).1 (h.kept y hy).2.1⟩⟩
 ·exact Blk.grown h.st.blk h2 (fun e=>hne (Option.some.inj e))
 ·exact own_move h.st.own (fun k hk=>h2.block k (own_lt h.st.own k hk) (fun e=>hnm (hk.trans e)))
theorem clo_any (h:NSt w0 A cd d b bm w ov l0 bl wr ovr acc cc) {gf gw ga:Nat} {from_:Int} (hf:(gf,3,#[.int .i64 from_])∈bl) (hw:(gw,37,#[.pointer (some ⟨b,0,none⟩)])∈bl) (ha:(ga,3,#[.int .i64 at_])∈bl) (hc:cc≤1000000) (h0:0≤at_) (h1:at_<1000000) :
  CallsD Tryz.prog 21 #[.pointer (some ⟨gf,0,none⟩),.pointer (some ⟨gw,0,none⟩),.pointer (some ⟨ga,0,none⟩)] .returning wr fun e u' w'=>u' = .returning∧e = .returned (.tuple #[])∧NSt w0 A cd d b bm w ov l0 bl w' ovr acc (cc+1):=by
 have cf:=((h.kept _ hf).2.2.cell 0).trans rfl;have cw:=((h.kept _ hw).2.2.cell 0).trans rfl;have ca:=((h.kept _ ha).2.2.cell 0).trans rfl;dsimp only at cf cw ca;have c1:=h.st.c1;have c2:=h.st.c2;obtain⟨A1,L,cap1,rfl⟩:∃(A1:Option Addr) (L c1:Nat),ovr = .slice A1 L c1:=by
  rcases h.st.own.2 with⟨rfl,h0⟩|⟨g,cap,cur,rfl,_⟩
  ·exact⟨_,_,_,rfl⟩
  ·exact⟨_,_,_,rfl⟩
 obtain⟨n,D,hn,hm⟩:=h.st.map;have hm':wr.drew.ownsMap Tryz.prog 3 MR bm n D:=ownsMap_below hm (below_drew (Below.refl _ _));obtain⟨w2,hrun,hown2,hgrow⟩:=hm'.update (t:=38) keyed3 Tryz.underlying38 (by simp[maxLen];omega) (key:=.int .i64 at_) (val:=.agg #[.int .i64 from_,.int .i64 (L:Int)]) (kl:=.int .i64 at_) (d:=.lit (.bool true)) (ps:=[]) (Go.Maps.keyOf_int_mk Tryz.underlying3 (wf64 h0 h1)) rfl
 have HF:=aK (h.drew.turned (by omega) hown2 hgrow)
 clear h hm hm' hown2 hgrow hf hw ha
 go_enter_d Tryz.func21,Tryz.ntmps21
 go_region
 go_end0
 exact⟨rfl,HF.out⟩
end
def NWrites (d:List S35) (at_:Int) (l:List Int) (g:Int→List ByteArray) (cs:Int→Nat) (n:S35) (ops:List WOp):Prop:=
 ∀(w0 w wr:World) (A:Option Addr) (cd b bm cc:Nat) (ov ovr:Value) (l0 acc:List ByteArray) (bl:List (Nat×TypeId×Array Value)),
  NSt w0 A cd d b bm w ov l0 bl wr ovr acc cc→Cx d at_ l g cs→DE w0 A cd d→0≤at_→at_<d.length→rd_T35 d at_=n→costs d cs l cc ops≤900000→
  Calls Tryz.prog 13 #[.pointer (some ⟨b,0,none⟩),.int .i64 at_] wr fun e w'=>e = .returned (.tuple #[])∧∃ov',NSt w0 A cd d b bm w ov l0 bl w' ov' (outs d g l acc ops) (costs d cs l cc ops+1)
section
variable {w0 w wr w':World} {A:Option Addr} {cd b bm cc cc':Nat} {d:List S35} {ov ovr ov':Value} {l0 acc x:List ByteArray} {bl:List (Nat×TypeId×Array Value)} {at_:Int}
theorem NSt.newH {H:Nat} (h:NSt w0 A cd d b bm w ov l0 bl wr ovr acc cc) (hH:wr.heap.size=H) (t:TypeId) (vs:Array Value) (h1:t≠40) (h2:t≠9):NSt w0 A cd d b bm w ov l0 ((H,t,vs)::bl) (wr.alloc (.cells vs t)) ovr acc cc:=by
 subst hH;exact h.new t vs h1 h2
theorem NSt.nine {gn gf ga gw:Nat} {a0 a1 a2 a3 a4 a5 vf va vw:Value} (h:NSt w0 A cd d b bm w ov l0 ((gn,35,#[a0,a1,a2,a3,a4,a5])::(gf,3,#[vf])::(ga,3,#[va])::(gw,37,#[vw])::bl) wr ovr acc cc) :
  wr.cell? ⟨gn,0,none⟩=some a0∧wr.cell? ⟨gn,1,none⟩=some a1∧wr.cell? ⟨gn,2,none⟩=some a2∧wr.cell? ⟨gn,3,none⟩=some a3∧wr.cell? ⟨gn,4,none⟩=some a4∧wr.cell? ⟨gn,5,none⟩=some a5∧wr.cell? ⟨ga,0,none⟩=some va∧wr.cell? ⟨gw,0,none⟩=some vw:=by
 obtain⟨k0,k1,k2,k3,k4,k5⟩:=h.six;have ha:=(h.kept (ga,3,#[va]) (by simp)).2.2
 have hw:=(h.kept (gw,37,#[vw]) (by simp)).2.2
 exact⟨k0,k1,k2,k3,k4,k5,(ha.cell 0).trans rfl,(hw.cell 0).trans rfl⟩
theorem NSt.two {gf ga gw:Nat} {vf va vw:Value} (h:NSt w0 A cd d b bm w ov l0 ((gf,3,#[vf])::(ga,3,#[va])::(gw,37,#[vw])::bl) wr ovr acc cc) :
  wr.cell? ⟨ga,0,none⟩=some va∧wr.cell? ⟨gw,0,none⟩=some vw:=by
 have ha:=(h.kept (ga,3,#[va]) (by simp)).2.2
 have hw:=(h.kept (gw,37,#[vw]) (by simp)).2.2
 exact⟨(ha.cell 0).trans rfl,(hw.cell 0).trans rfl⟩
end
end Go.Proofs.YtjolkdnfbmkjiaaGreatDoor.Wr
