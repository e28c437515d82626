import Derived.Test.YtjolkdnfbmkjiaaGreatDoorVPE
import Derived.Test.YtjolkdnfbmkjiaaGreatDoorVA2
import Derived.Test.YtjolkdnfbmkjiaaGreatDoorVW1
import Derived.Laws.BitsLemmas
set_option maxRecDepth 100000
set_option maxHeartbeats 8000000
set_option linter.unusedVariables false
set_option linter.unusedSimpArgs false
namespace Go.Proofs.YtjolkdnfbmkjiaaGreatDoor.ErrP
open Go.RowKit PzzLineEnds Go.Proofs.YtjolkdnfbmkjiaaGreatDoorW.PrintWords Go.Proofs.YtjolkdnfbmkjiaaGreatDoorW.PrintLast
def Pair (n:Int) (x:List Int):Prop:=∃a b:Int,x=[a,b]∧0≤a∧a≤b∧b≤n
theorem l0_pairs (l:List Int) (hl:l.length≤140737488351232):∀(d k:Nat) (acc:List (List Int)) (i:Int),0≤i→(l.length:Int)-i≤d→2*d+2<k→(acc.length:Int)≤1000000+i→i≤l.length+1→l.length≤1000000000→(∀x∈acc,Pair l.length x)→
  ∃r,location_zzLineEnds.l0 k l acc i=some r∧(∀x∈r,Pair l.length x)∧(r.length:Int)≤1000002+l.length:=by
 intro d
 induction d using Nat.strongRecOn with
 | _ d ih=>
  intro k acc i h0 hd hk ha hi hb hacc;obtain⟨k,rfl⟩:∃m,k=m+1:=⟨k-1,by omega⟩
  simp only[location_zzLineEnds.l0]
  by_cases hlt:i<(l.length:Int)
  ·rw[if_pos hlt,if_pos h0]
   obtain⟨k,rfl⟩:∃m,k=m+1:=⟨k-1,by omega⟩
   have w1:wrap64 (i+1)=i+1:=by unfold wrap64;omega
   have w2:wrap64 (i+2)=i+2:=by unfold wrap64;omega
   have w3:wrap64 (i+1+1)=i+1+1:=by unfold wrap64;omega
   have hp1:∀x∈acc++[[i,i+1]],Pair l.length x:=by
    intro x hx;rcases List.mem_append.1 hx with h|h
    ·exact hacc x h
    ·rw[List.mem_singleton.1 h];exact⟨i,i+1,rfl,by omega,by omega,by omega⟩
   have step1:∀acc',(acc'.length:Int)≤1000000+(i+1)→(∀x∈acc',Pair l.length x)→∃r,location_zzLineEnds.l0 k l acc' (i+1)=some r∧(∀x∈r,Pair l.length x)∧(r.length:Int)≤1000002+l.length:=
    fun acc' h1 h2=>ih (d-1) (by omega) k acc' (i+1) (by omega) (by omega) (by omega) h1 (by omega) hb h2
   have hj0:∃r,location_zzLineEnds.j1 (k+1) l acc i false=some r∧(∀x∈r,Pair l.length x)∧(r.length:Int)≤1000002+l.length:=by
    simp only[location_zzLineEnds.j1];rw[if_neg (by decide),if_pos h0,if_pos hlt,w1]
    have hlen:((acc++[[i,i+1]]).length:Int)≤1000000+(i+1):=by rw[List.length_append];simp;omega
    by_cases e1:rd l i=13
    ·rw[if_pos e1,if_pos (by omega)];exact step1 _ hlen hp1
    ·rw[if_neg e1]
     by_cases e2:rd l i=10
     ·rw[if_pos e2,if_pos (by omega)];exact step1 _ hlen hp1
     ·rw[if_neg e2];exact step1 _ (by omega) hacc
   have hj1:i+1<l.length→∃r,location_zzLineEnds.j1 (k+1) l acc i true=some r∧(∀x∈r,Pair l.length x)∧(r.length:Int)≤1000002+l.length:=by
    intro hlt2;simp only[location_zzLineEnds.j1];rw[if_pos trivial,if_pos (by omega),w1,w2,w3]
    refine ih (d-2) (by omega) k _ (i+1+1) (by omega) (by omega) (by omega) (by rw[List.length_append];simp;omega) (by omega) hb ?_
    intro x hx;rcases List.mem_append.1 hx with h|h
    ·exact hacc x h
    ·rw[List.mem_singleton.1 h];exact⟨i,i+2,rfl,by omega,by omega,by omega⟩
   by_cases e1:rd l i=13
   ·rw[if_pos e1,w1]
    by_cases e2:i+1<(l.length:Int)
    ·rw[if_pos e2,if_pos (by omega)]
     cases(rd l (i+1)==10)with
     | true=>exact hj1 e2
     | false=>exact hj0
    ·rw[if_neg e2];exact hj0
   ·rw[if_neg e1];exact hj0
  ·rw[if_neg hlt]
   exact⟨acc,rfl,hacc,by omega⟩
theorem line_ends (l:List Int) (hl:l.length≤1000000000):∃k r,location_zzLineEnds.f k l=some r∧(∀x∈r,Pair l.length x)∧(r.length:Int)≤1000002+l.length:=by
 obtain⟨r,h⟩:=l0_pairs l (by omega) l.length (2*l.length+3) [] 0 (by omega) (by omega) (by omega) (by simp) (by omega) hl (by simp)
 exact⟨_,r,h⟩
end Go.Proofs.YtjolkdnfbmkjiaaGreatDoor.ErrP
namespace Go.Proofs.YtjolkdnfbmkjiaaGreatDoor.Err
open Go.RowKit Env PzzLineEnds Go.Proofs.YtjolkdnfbmkjiaaGreatDoorW.PrintWords Go.Proofs.YtjolkdnfbmkjiaaGreatDoorW.PrintLast
theorem body_kd {w:World} {bb:Nat} {s:ByteArray} (h:BodyAt w bb s) (hs:s.size≤140737488351232):Kd.C (Kd.int .u8) w (some ⟨bb,0,none⟩) (bytesOf s).length (bytesOf s):=by
 refine⟨rfl,by rw[bytesOf_length];omega,fun hn=>⟨_,rfl,fun j p hp=>⟨[.int .u8 p],rfl,rfl,fun i u hu=>?_⟩⟩⟩
 have hj:j<s.size:=by have:=(List.getElem?_eq_some_iff.1 hp).1;rwa[bytesOf_length]at this
 have hi:i=0:=by have:=(List.getElem?_eq_some_iff.1 hu).1;simpa using this
 subst hi;simp only[List.getElem?_cons_zero,Option.some.injEq]at hu;subst hu;have e:p=bt s j:=by
  rw[←rd_bytesOf s j];unfold rd;simp[List.getD_eq_getElem?_getD,hp]
 show w.cell? ((⟨bb,0,none⟩:Addr).add (j*1+0))=_;rw[add_plain,e]
 simpa using h j hj
def Ends (w:World) (n:Int) (A:Option Addr) (m:Nat):Prop:=∀k:Nat,k<m→∃ad g0:Addr,∃c:Nat,∃a b:Int,A=some ad∧w.cell? (ad.add k)=some (.slice (some g0) 2 c)∧2≤c∧w.cell? g0=some (.int .i64 a)∧w.cell? (g0.add 1)=some (.int .i64 b)∧0≤a∧a≤b∧b≤n
theorem ends_of {w:World} {n:Int} {A:Option Addr} {r:List (List Int)} (h:(Kd.slice 3 (Kd.int .i64)).C w A r.length r) (hp:∀x∈r,ErrP.Pair n x):Ends w n A r.length:=by
 intro k hk;obtain⟨ad,e,hc⟩:=h.2.2 (by omega)
 obtain⟨c,hl,hK,hcell⟩:=hc k _ (List.getElem?_eq_getElem hk);obtain⟨a,b,hx,h0,h1,h2⟩:=hp _ (List.getElem_mem hk);rw[hx]at hK;obtain⟨A',c',rfl,hcc,hC⟩:=hK;obtain⟨g0,e0,hg⟩:=hC.2.2 (by simp)
 subst e0;have q0:=hcell 0 _ rfl;obtain⟨c0,_,hk0,hz0⟩:=hg 0 a rfl;obtain⟨c1,_,hk1,hz1⟩:=hg 1 b rfl;have z0:w.cell? g0=some (.int .i64 a):=by
  have:=hz0 0 (.int .i64 a) (by rw[hk0];rfl)
  have e:g0.add (0*(Kd.int IntKind.i64).sz+0)=g0:=by simp[Addr.add]
  rwa[e]at this
 have z1:w.cell? (g0.add 1)=some (.int .i64 b):=by
  have:=hz1 0 (.int .i64 b) (by rw[hk1];rfl)
  exact this
 exact⟨ad,g0,c',a,b,e,by simpa[Kd.slice]using q0,by simpa using hcc,z0,z1,h0,h1,h2⟩
theorem lineEnds_any (bb cap:Nat) (s:ByteArray) (w:World) (h:BodyAt w bb s) (hs:s.size≤1000000000) (hcap:s.size≤cap) :
  Calls Tryz.prog 108 #[.slice (some ⟨bb,0,none⟩) s.size cap] w fun e w'=>
   ∃A c m,e = .returned (.slice A m c)∧m≤c∧m≤1000000000000∧Ends w' s.size A m∧Below w.heap.size w w':=by
 obtain⟨k,r,hr,hp,hlen⟩:=ErrP.line_ends (bytesOf s) (by rw[bytesOf_length];exact hs)
 have hc:=location_zzLineEnds.calls k (some ⟨bb,0,none⟩) cap (bytesOf s) r w (body_kd h (by omega)) (by rw[bytesOf_length];exact hcap) hr
 rw[bytesOf_length]at hc;refine hc.mono ?_;rintro e w' ⟨v0,rfl,hS,hb⟩;obtain⟨A,c,rfl,hcc,hC⟩:=Kd.R_reads (Kd.S_R hS);rw[bytesOf_length]at hp hlen;exact⟨A,c,r.length,rfl,hcc,by omega,ends_of hC hp,hb⟩
theorem two_kept2 {w w1:World} {t:TypeId} {x0 x1:Value} (hb:Below (w.heap.size+1) (w.alloc (.cells #[x0,x1] t)) w1) :
  w1.cell? ⟨w.heap.size,0,none⟩=some x0∧w1.cell? ⟨w.heap.size,1,none⟩=some x1∧w1.frozen? ⟨w.heap.size,0,none⟩=false∧w1.frozen? ⟨w.heap.size,1,none⟩=false:=by
 have h:=Blk.below (Blk.new w t #[x0,x1]) hb (by omega)
 exact⟨(h.cell 0).trans rfl,(h.cell 1).trans rfl,h.frozen 0,h.frozen 1⟩
theorem below_two2 {w w1:World} {x0 x1:Value} (h:Below w.heap.size w w1):Below w.heap.size w ((w1.setCell ⟨w.heap.size,0,none⟩ x0).setCell ⟨w.heap.size,1,none⟩ x1):=
 (h.setCell (p:=⟨w.heap.size,0,none⟩) (Nat.le_refl _) _).setCell (p:=⟨w.heap.size,1,none⟩) (Nat.le_refl _) _
def SomeLoc (w:World) (e:Ending) (w':World):Prop:=∃a b:Int,e = .returned (.agg #[.int .i64 a,.int .i64 b])∧Below w.heap.size w w'
theorem getLocation_any (sb bb cap:Nat) (pos:Int) (s:ByteArray) (w:World) (h:BodyAt w bb s) (h0:w.cell? ⟨sb,0,none⟩=some (.slice (some ⟨bb,0,none⟩) s.size cap)) (hs:s.size≤1000000000) (hcap:s.size≤cap) :
  Calls Tryz.prog 92 #[.pointer (some ⟨sb,0,none⟩),.int .i64 pos] w fun e w'=>SomeLoc w e w':=by
 have hsb:sb<w.heap.size:=World.block_lt_of_cell? w _ h0;have HL:=aK (fun W (hb:Below w.heap.size w W)=>lineEnds_any bb cap s W (h.below hb) hs hcap);clear h;go_enter Tryz.func92,Tryz.ntmps92
 go_wp2_with fail
 refine(HL.out _ (by exact below_alloc (below_alloc (Below.refl _ _) _) _)).mono ?_
 rintro e w2 ⟨A,c,m,rfl,hmc,hm,hE,hb⟩;have hb1:Below (w.heap.size+1) _ w2:=(((Below.refl _ _).alloc (by simp) _).trans (hb.mono (by simp)))
 obtain⟨r0,r1,z0,z1⟩:=two_kept2 hb1;have hs0:w2.cell? ⟨sb,0,none⟩=some (.slice (some ⟨bb,0,none⟩) s.size cap):=by
  have:=(below_one (by simpa using hb1)).cell (p:=⟨sb,0,none⟩) hsb
  rw[this];exact h0
 have HB:=aK (below_one (w:=w) (by simpa using hb1))
 clear hb hb1 HL h0;have HE:=aK hE;clear hE
 go_wp2_with fail
 go_loopw [6,7,26] (fun l c i wr=>∃(x y:Int) (k n:Nat),l = .int .i64 x∧c = .int .i64 y∧i = .int .i64 k∧k≤m∧wr=w2.drewN n) (fun _ _ i _=>m-(intOf i).toNat)
 case atStart=>exact⟨_,_,0,0,rfl,rfl,rfl,by omega,rfl⟩
 case round=>
  obtain⟨x,y,k,n,rfl,rfl,rfl,hk,rfl⟩:=hrel
  by_cases hlt:k<m
  ·obtain⟨ad,g0,cc,a,b',rfl,e1,ecc,e2,e3,e4,e5,e6⟩:=HE.out k hlt
   have hlti:(k:Int)<(m:Int):=by omega
   have hcci:(2:Int)≤(cc:Int):=by omega
   by_cases hpos:a<pos
   ·have hp:decide (a<pos)=true:=decide_eq_true hpos
    obtain⟨a,rfl⟩:=Int.eq_ofNat_of_zero_le e4;obtain⟨b',rfl⟩:=Int.eq_ofNat_of_zero_le (by omega:0≤b')
    have hab:(a:Int)≤(cap:Int):=by omega
    have hbb:b'≤(cap:Int):=by omega
    have e3':w2.cell? { block:=g0.block,off:=g0.off+1 }=some (.int .i64 b'):=e3
    go_wp2_with fail
    go_quiet (fail)
    go_wp2
    go_roundw
    case rel=>exact⟨_,_,k+1,_,rfl,rfl,by go_num,by omega,rfl⟩
    case measure=>simp[intOf];omega
   ·have hp:decide (a<pos)=false:=decide_eq_false hpos
    go_wp2_with fail
    refine bodyPost_ret (v:=.agg #[.int .i64 x,.int .i64 y]) (by simp[results,Tryz.results92,go_sem,r0,r1]) rfl ⟨x,y,rfl,below_two2 (pw_below_drewN HB.out _)⟩
  ·go_wp2_with fail
   refine bodyPost_ret (v:=.agg #[.int .i64 x,.int .i64 y]) (by simp[results,Tryz.results92,go_sem,r0,r1]) rfl ⟨x,y,rfl,below_two2 (pw_below_drewN HB.out _)⟩
end Go.Proofs.YtjolkdnfbmkjiaaGreatDoor.Err
namespace Go.Proofs.YtjolkdnfbmkjiaaGreatDoor.Err
open Go.RowKit Env Go.Proofs.YtjolkdnfbmkjiaaGreatDoorW.PrintWords Go.Proofs.YtjolkdnfbmkjiaaGreatDoorW.PrintLast
def SomeErr (w:World) (e:Ending) (w':World):Prop:=∃g:Nat,e = .returned (.pointer (some ⟨g,0,none⟩))∧Below w.heap.size w w'
theorem newError_any (sb bb cap pb nb pc:Nat) (pos:Int) (s msg:ByteArray) (w:World) (h:BodyAt w bb s) (h0:w.cell? ⟨sb,0,none⟩=some (.slice (some ⟨bb,0,none⟩) s.size cap)) (hs:s.size≤1000000000) (hcap:s.size≤cap)
  (hp:w.cell? ⟨pb,0,none⟩=some (.int .i64 pos)) (hm:(!msg.toList.isEmpty)=true) :
  Calls Tryz.prog 80 #[.string msg,.slice (some ⟨nb,0,none⟩) 0 0,.string ⟨#[]⟩,.pointer (some ⟨sb,0,none⟩),.slice (some ⟨pb,0,none⟩) 1 pc,.slice none 0 0,.nilIface] w fun e w'=>SomeErr w e w':=by
 have hsb:sb<w.heap.size:=World.block_lt_of_cell? w _ h0;have hpb:pb<w.heap.size:=World.block_lt_of_cell? w _ hp;have HL:=aK (fun W (hb:Below w.heap.size w W)=>getLocation_any sb bb cap pos s W (h.below hb) ((hb.cell (p:=⟨sb,0,none⟩) hsb).trans h0) hs hcap);clear h;go_enter Tryz.func80,Tryz.ntmps80
 go_wp2_with fail
 go_loopw [19,88] (fun l i wr=>(i = .int .i64 0∧l = .slice (some ⟨w.heap.size,0,none⟩) 0 0∧wr=w.alloc (.cells #[] 137))∨(i = .int .i64 1∧∃g m c,l = .slice g m c∧Aside0 (Below w.heap.size w wr))) (fun _ i _=>1-(intOf i).toNat)
 case atStart=>exact .inl ⟨rfl,rfl,rfl⟩
 case round=>
  rcases hrel with⟨rfl,rfl,rfl⟩|⟨rfl,g,m,c,rfl,HB⟩
  ·have hp1:(w.alloc (.cells #[] 137)).cell? ⟨pb,0,none⟩=some (.int .i64 pos):=(((Below.refl _ _).alloc (Nat.le_refl _) _).cell (p:=⟨pb,0,none⟩) hpb).trans hp
   go_wp2_with fail
   refine(HL.out _ (by exact below_alloc (Below.refl _ _) _)).mono ?_
   rintro e w2 ⟨x,y,rfl,hb⟩;have HB:=aK (below_one (w:=w) (by simpa using hb))
   clear hb
   go_wp2_with fail
   exact⟨.inr ⟨rfl,_,_,_,rfl,aK (below_alloc (below_alloc (below_alloc HB.out _) _) _).drew⟩,by simp[intOf]⟩
  ·go_wp2_with fail
   refine bodyPost_ret (v:=.pointer (some ⟨wr.heap.size,0,none⟩)) (by simp[results,Tryz.results80,go_sem]) rfl ⟨_,rfl,?_⟩
   exact below_alloc HB.out _
theorem newErr_any (sb bb cap pb nb pc:Nat) (pos:Int) (s msg:ByteArray) (w:World) (h:BodyAt w bb s) (h0:w.cell? ⟨sb,0,none⟩=some (.slice (some ⟨bb,0,none⟩) s.size cap)) (hs:s.size≤1000000000) (hcap:s.size≤cap)
  (hp:w.cell? ⟨pb,0,none⟩=some (.int .i64 pos)) (hm:(!msg.toList.isEmpty)=true) :
  Calls Tryz.prog 67 #[.string msg,.slice (some ⟨nb,0,none⟩) 0 0,.string ⟨#[]⟩,.pointer (some ⟨sb,0,none⟩),.slice (some ⟨pb,0,none⟩) 1 pc,.nilIface] w fun e w'=>SomeErr w e w':=by
 go_enter Tryz.func67,Tryz.ntmps67
 go_wp2_with fail
 refine(newError_any sb bb cap pb nb pc pos s msg w h h0 hs hcap hp hm).mono ?_;rintro e w2 ⟨g,rfl,hb⟩
 go_wp2_with fail
 exact bodyPost_ret (v:=.pointer (some ⟨g,0,none⟩)) (by simp[results,Tryz.results67,go_sem]) rfl ⟨_,rfl,hb⟩
theorem syntaxError_any (sb bb cap:Nat) (pos:Int) (s msg:ByteArray) (w:World) (h:BodyAt w bb s) (h0:w.cell? ⟨sb,0,none⟩=some (.slice (some ⟨bb,0,none⟩) s.size cap)) (hs:s.size≤1000000000) (hcap:s.size≤cap) :
  Calls Tryz.prog 52 #[.pointer (some ⟨sb,0,none⟩),.int .i64 pos,.string msg] w fun e w'=>SomeErr w e w':=by
 have hsb:sb<w.heap.size:=World.block_lt_of_cell? w _ h0;have HL:=aK (fun W (hb:Below w.heap.size w W) (pb nb:Nat) (hp:W.cell? ⟨pb,0,none⟩=some (.int .i64 pos)) (msg:ByteArray) (hm:(!msg.toList.isEmpty)=true)=>newErr_any sb bb cap pb nb 1 pos s msg W (h.below hb) ((hb.cell (p:=⟨sb,0,none⟩) hsb).trans h0) hs hcap hp hm);clear h;go_enter Tryz.func52,Tryz.ntmps52
 go_wp2_with fail
 have hb0:Below w.heap.size w ((w.alloc (Obj.cells #[] 129)).alloc (Obj.cells #[Value.int IntKind.i64 pos] 3)):=below_alloc (below_alloc (Below.refl _ _) _) _;refine(HL.out _ (by exact hb0) (w.heap.size+1) _ (by simp[go_sem]) _ (by decide_cbv)).mono ?_
 rintro e w2 ⟨g,rfl,hb⟩;have hb1:=aK (hb0.trans (hb.mono (by simp;omega)))
 clear hb
 go_wp2_with fail
 exact bodyPost_ret (v:=.pointer (some ⟨g,0,none⟩)) (by simp[results,Tryz.results52,go_sem]) rfl ⟨_,rfl,hb1.out⟩
end Go.Proofs.YtjolkdnfbmkjiaaGreatDoor.Err
namespace Go.Proofs.YtjolkdnfbmkjiaaGreatDoor.Uni
open Go.RowKit
theorem wrap_nat (n:Nat) (h:n<2 ^ 64):IntKind.i64.wrap (n:Int)=if 2*n<2 ^ 64 then(n:Int)else(n:Int)-(2 ^ 64:Nat):=by
 rw[IntKind.wrap_i64];split<;>omega
theorem bits_or_toInt (x y:Int):Go.bits .or .i64 x y=(BitVec.ofInt 64 x ||| BitVec.ofInt 64 y).toInt:=by
 have h:=(BitVec.ofInt 64 x ||| BitVec.ofInt 64 y).isLt
 rw[BitVec.toInt_eq_toNat_cond,←wrap_nat _ h];rfl
theorem all_ones:(BitVec.allOnes 64).toInt = -1:=by decide
theorem or_neg (x y:Int) (hx : -4096≤x) (hx':x<0) : -4096≤Go.bits .or .i64 x y∧Go.bits .or .i64 x y<0:=by
 rw[bits_or_toInt];have e1:(BitVec.ofInt 64 x).toInt=x:=by
  rw[BitVec.toInt_ofInt];simp only[Int.bmod_def];omega
 have e2:(BitVec.ofInt 64 x).sshiftRight 12=BitVec.allOnes 64:=by
  apply BitVec.eq_of_toInt_eq;rw[BitVec.toInt_sshiftRight,e1,Int.shiftRight_eq_div_pow,all_ones];simp;omega
 have e3:(BitVec.ofInt 64 x ||| BitVec.ofInt 64 y).sshiftRight 12=BitVec.allOnes 64:=by
  rw[BitVec.sshiftRight_or_distrib,e2,BitVec.allOnes_or]
 have e4:=congrArg BitVec.toInt e3;rw[BitVec.toInt_sshiftRight,Int.shiftRight_eq_div_pow,all_ones]at e4;generalize (BitVec.ofInt 64 x ||| BitVec.ofInt 64 y).toInt=r at *
 omega
theorem or_comm (x y:Int):Go.bits .or .i64 x y=Go.bits .or .i64 y x:=by rw[bits_or_toInt,bits_or_toInt,BitVec.or_comm]
theorem wraps64 (n:Int) (h₀:0≤n) (h₁:n<2 ^ 20):IntKind.i64.wrap n=n:=by rw[IntKind.wrap_i64];omega
def hx (c:Int):Int:=if 48≤c∧c≤57 then c-48 else if 97≤c∧c≤102 then c-87 else if 65≤c∧c≤70 then c-55 else -1
theorem hx_range (c:Int) : -1≤hx c∧hx c≤15:=by
 unfold hx;split
 ·omega
 ·split
  ·omega
  ·split<;>omega
def ored (a b c d:Int):Int:=wrap32 (Go.bits .or .i64 (Go.bits .or .i64 (Go.bits .or .i64 (wrap64 (a*4096)) (wrap64 (b*256))) (wrap64 (c*16))) d)
theorem ored_is (a b c d:Int) (ha : -1≤a∧a≤15) (hb : -1≤b∧b≤15) (hc : -1≤c∧c≤15) (hd : -1≤d∧d≤15) :
  if a<0∨b<0∨c<0∨d<0 then ored a b c d<0 ∧ -4096≤ored a b c d else ored a b c d=4096*a+256*b+16*c+d:=by
 have e1:wrap64 (a*4096)=a*4096:=by unfold wrap64;omega
 have e2:wrap64 (b*256)=b*256:=by unfold wrap64;omega
 have e3:wrap64 (c*16)=c*16:=by unfold wrap64;omega
 unfold ored;rw[e1,e2,e3];have big:∀n:Int,-4096≤n→n<65536→wrap32 n=n:=by intro n _ _;unfold wrap32;omega
 split
 ·rename_i h
  suffices H : -4096≤(Go.bits .or .i64 (Go.bits .or .i64 (Go.bits .or .i64 (a*4096) (b*256)) (c*16)) d)∧(Go.bits .or .i64 (Go.bits .or .i64 (Go.bits .or .i64 (a*4096) (b*256)) (c*16)) d)<0 by
   rw[big _ H.1 (by omega)];exact⟨H.2,H.1⟩
  by_cases h4:d<0
  ·rw[or_comm];exact or_neg _ _ (by omega) h4
  ·refine or_neg _ _ ?_ ?_ <;> ·
    have H3 : -4096≤Go.bits .or .i64 (Go.bits .or .i64 (a*4096) (b*256)) (c*16)∧Go.bits .or .i64 (Go.bits .or .i64 (a*4096) (b*256)) (c*16)<0:=by
     by_cases h3:c<0
     ·rw[or_comm];exact or_neg _ _ (by omega) (by omega)
     ·have H2 : -4096≤Go.bits .or .i64 (a*4096) (b*256)∧Go.bits .or .i64 (a*4096) (b*256)<0:=by
       by_cases h2:b<0
       ·rw[or_comm];exact or_neg _ _ (by omega) (by omega)
       ·exact or_neg _ _ (by omega) (by omega)
      exact or_neg _ _ H2.1 H2.2
    first|exact H3.1|exact H3.2
 ·rename_i h
  have f1:Go.bits .or .i64 (a*4096) (b*256)=a*4096+b*256:=bits_join .i64 20 (by decide) wraps64 12 _ _ (by omega) (by omega) (by omega) (by omega) (by omega) (by omega)
  have f2:Go.bits .or .i64 (a*4096+b*256) (c*16)=a*4096+b*256+c*16:=bits_join .i64 20 (by decide) wraps64 8 _ _ (by omega) (by omega) (by omega) (by omega) (by omega) (by omega)
  have f3:Go.bits .or .i64 (a*4096+b*256+c*16) d=a*4096+b*256+c*16+d:=bits_join .i64 20 (by decide) wraps64 4 _ _ (by omega) (by omega) (by omega) (by omega) (by omega) (by omega)
  rw[f1,f2,f3,big _ (by omega) (by omega)]
  omega
open Go.Proofs.YtjolkdnfbmkjiaaGreatDoorW.PrintWords Rel
theorem hx_hexV (c:Int):hx c=hexV c:=rfl
theorem ret_int {k:IntKind} {a b:Int} (h:a=b):Ending.returned (.int k a) = .returned (.int k b):=by rw[h]
theorem hexa (c:Int) (w:World) (h0:0≤c) (h1:c≤255) :
  Calls Tryz.prog 118 #[.int .u8 c] w fun e w'=>e = .returned (.int .i64 (hx c))∧w=w':=by
 have hc:c<48∨(48≤c∧c≤57)∨(57<c∧c<65)∨(65≤c∧c≤70)∨(70<c∧c<97)∨(97≤c∧c≤102)∨102<c:=by omega
 rcases hc with a1|⟨a1,a2⟩|⟨a1,a2⟩|⟨a1,a2⟩|⟨a1,a2⟩|⟨a1,a2⟩|a1
 ·have E:=aK (show hx c = -1 by unfold hx;rw[if_neg (by omega),if_neg (by omega),if_neg (by omega)])
  go_enter Tryz.func118,Tryz.ntmps118;go_wp2
  go_ret
  exact⟨ret_int (by rw[E.out]),rfl⟩
 ·have E:=aK (show hx c=c-48 by unfold hx;rw[if_pos (by omega)])
  go_enter Tryz.func118,Tryz.ntmps118;go_wp2
  go_ret
  exact⟨ret_int (by rw[E.out]),rfl⟩
 ·have E:=aK (show hx c = -1 by unfold hx;rw[if_neg (by omega),if_neg (by omega),if_neg (by omega)])
  go_enter Tryz.func118,Tryz.ntmps118;go_wp2
  go_ret
  exact⟨ret_int (by rw[E.out]),rfl⟩
 ·have E:=aK (show hx c=c-55 by unfold hx;rw[if_neg (by omega),if_neg (by omega),if_pos (by omega)])
  go_enter Tryz.func118,Tryz.ntmps118;go_wp2
  go_ret
  exact⟨ret_int (by first|(rw[E.out];done)|(rw[E.out];omega)),rfl⟩
 ·have E:=aK (show hx c = -1 by unfold hx;rw[if_neg (by omega),if_neg (by omega),if_neg (by omega)])
  go_enter Tryz.func118,Tryz.ntmps118;go_wp2
  go_ret
  exact⟨ret_int (by rw[E.out]),rfl⟩
 ·have E:=aK (show hx c=c-87 by unfold hx;rw[if_neg (by omega),if_pos (by omega)])
  go_enter Tryz.func118,Tryz.ntmps118;go_wp2
  go_ret
  exact⟨ret_int (by first|(rw[E.out];done)|(rw[E.out];omega)),rfl⟩
 ·have E:=aK (show hx c = -1 by unfold hx;rw[if_neg (by omega),if_neg (by omega),if_neg (by omega)])
  go_enter Tryz.func118,Tryz.ntmps118;go_wp2
  go_ret
  exact⟨ret_int (by rw[E.out]),rfl⟩
theorem char2hex_any (c:Int) (w:World) (h0:0≤c) (h1:c≤255) :
  Calls Tryz.prog 89 #[.int .i32 c] w fun e w'=>e = .returned (.int .i64 (hx c))∧w=w':=by
 have hc:c<48∨(48≤c∧c≤57)∨(57<c∧c<65)∨(65≤c∧c≤70)∨(70<c∧c<97)∨(97≤c∧c≤102)∨102<c:=by omega
 rcases hc with a1|⟨a1,a2⟩|⟨a1,a2⟩|⟨a1,a2⟩|⟨a1,a2⟩|⟨a1,a2⟩|a1
 ·have E:=aK (show hx c = -1 by unfold hx;rw[if_neg (by omega),if_neg (by omega),if_neg (by omega)])
  go_enter Tryz.func89,Tryz.ntmps89;go_wp2
  go_ret
  exact⟨ret_int (by rw[E.out]),rfl⟩
 ·have E:=aK (show hx c=c-48 by unfold hx;rw[if_pos (by omega)])
  go_enter Tryz.func89,Tryz.ntmps89;go_wp2
  go_ret
  exact⟨ret_int (by first|(rw[E.out];done)|(rw[E.out];omega)),rfl⟩
 ·have E:=aK (show hx c = -1 by unfold hx;rw[if_neg (by omega),if_neg (by omega),if_neg (by omega)])
  go_enter Tryz.func89,Tryz.ntmps89;go_wp2
  go_ret
  exact⟨ret_int (by rw[E.out]),rfl⟩
 ·have E:=aK (show hx c=c-55 by unfold hx;rw[if_neg (by omega),if_neg (by omega),if_pos (by omega)])
  go_enter Tryz.func89,Tryz.ntmps89;go_wp2
  go_ret
  exact⟨ret_int (by first|(rw[E.out];done)|(rw[E.out];omega)),rfl⟩
 ·have E:=aK (show hx c = -1 by unfold hx;rw[if_neg (by omega),if_neg (by omega),if_neg (by omega)])
  go_enter Tryz.func89,Tryz.ntmps89;go_wp2
  go_ret
  exact⟨ret_int (by rw[E.out]),rfl⟩
 ·have E:=aK (show hx c=c-87 by unfold hx;rw[if_neg (by omega),if_pos (by omega)])
  go_enter Tryz.func89,Tryz.ntmps89;go_wp2
  go_ret
  exact⟨ret_int (by first|(rw[E.out];done)|(rw[E.out];omega)),rfl⟩
 ·have E:=aK (show hx c = -1 by unfold hx;rw[if_neg (by omega),if_neg (by omega),if_neg (by omega)])
  go_enter Tryz.func89,Tryz.ntmps89;go_wp2
  go_ret
  exact⟨ret_int (by rw[E.out]),rfl⟩
theorem uniCharCode_any (a b c d:Int) (w:World) (ha:0≤a∧a≤255) (hb:0≤b∧b≤255) (hc:0≤c∧c≤255) (hd:0≤d∧d≤255) :
  Calls Tryz.prog 73 #[.int .i32 a,.int .i32 b,.int .i32 c,.int .i32 d] w fun e w'=>e = .returned (.int .i32 (ored (hx a) (hx b) (hx c) (hx d)))∧w=w':=by
 have HA:=aK (char2hex_any a w ha.1 ha.2);have HB:=aK (char2hex_any b w hb.1 hb.2);have HC:=aK (char2hex_any c w hc.1 hc.2);have HD:=aK (char2hex_any d w hd.1 hd.2);have ra:=hx_range a;have rb:=hx_range b;have rc:=hx_range c;have rd:=hx_range d;generalize hx a=x at *;generalize hx b=y at *;generalize hx c=z at *;generalize hx d=u at *;go_enter Tryz.func73,Tryz.ntmps73
 go_wp2_with fail
 refine HA.out.mono ?_;rintro e w' ⟨rfl,rfl⟩
 go_wp2_with fail
 refine HB.out.mono ?_;rintro e w' ⟨rfl,rfl⟩
 go_wp2_with fail
 refine HC.out.mono ?_;rintro e w' ⟨rfl,rfl⟩
 go_wp2_with fail
 refine HD.out.mono ?_;rintro e w' ⟨rfl,rfl⟩
 go_wp2_with fail
 go_ret
 exact⟨ret_int (by unfold ored;rw[show wrap64 (x*4096)=x*4096 by unfold wrap64;omega,show wrap64 (y*256)=y*256 by unfold wrap64;omega,show wrap64 (z*16)=z*16 by unfold wrap64;omega]),rfl⟩
open Classical in
theorem ored_hex (s:ByteArray) (a:Nat):if hexOk s a then ored (hx (bt s (a+2:Nat))) (hx (bt s (a+3:Nat))) (hx (bt s (a+4:Nat))) (hx (bt s (a+5:Nat)))=uniV s a else ored (hx (bt s (a+2:Nat))) (hx (bt s (a+3:Nat))) (hx (bt s (a+4:Nat))) (hx (bt s (a+5:Nat)))<0:=by
 have h:=ored_is _ _ _ _ (hx_range (bt s (a+2:Nat))) (hx_range (bt s (a+3:Nat))) (hx_range (bt s (a+4:Nat))) (hx_range (bt s (a+5:Nat)))
 by_cases hk:hexOk s a
 ·rw[if_pos hk]
  have hk':=hk;unfold hexOk at hk';rw[if_neg (by rw[hx_hexV,hx_hexV,hx_hexV,hx_hexV];omega)]at h
  exact h
 ·rw[if_neg hk]
  have hk':¬(0≤hexV (bt s (a+2:Nat))∧0≤hexV (bt s (a+3:Nat))∧0≤hexV (bt s (a+4:Nat))∧0≤hexV (bt s (a+5:Nat))):=hk;rw[if_pos (by rw[hx_hexV,hx_hexV,hx_hexV,hx_hexV];omega)]at h
  exact h.1
end Go.Proofs.YtjolkdnfbmkjiaaGreatDoor.Uni
