import Derived.Test.YtjolkdnfbmkjiaaGreatDoorVF2
set_option maxRecDepth 100000
set_option maxHeartbeats 8000000
set_option linter.unusedVariables false
set_option linter.unusedSimpArgs false
namespace Go.Proofs.YtjolkdnfbmkjiaaGreatDoor.Wr
open Go.RowKit Mem Go.Proofs.YtjolkdnfbmkjiaaGreatDoorW.PrintWords PFnTokensGaps Tr
theorem RU.mk0 {w1:World} {d:List S35} {l:List Int} {A Al:Option Addr} {cd cl:Nat} (hl:l.length≤cl) (hC:Kd.C k35 w1 A d.length d) (hR:Kd.C (Kd.int .i64) w1 Al l.length l) (hr:∀x∈l,0≤x∧x<d.length) (hn:l.length≤400) :
  RU w1 (w1.alloc (.cells #[.slice A d.length cd,.slice Al l.length cl,.int .i64 0] 72)) (w1.alloc (.cells #[.slice A d.length cd,.slice Al l.length cl,.int .i64 0] 72)) w1.heap.size d l 0:=
 ⟨⟨⟨A,cd,Al,cl,hl,Blk.new w1 72 _,Nat.le_refl _,hC,hR⟩,(Below.refl _ _).alloc (Nat.le_refl _) _,fun _ _ _=>rfl,Nat.le_refl _⟩,hr,hn⟩
theorem RU.mk1 {w1:World} {d:List S35} {l:List Int} {A Al:Option Addr} {cd cl:Nat} {a0 a1 a2 a3 a4 a5:Addr} {k n4 n5:Int} {n1 n2 n3:ByteArray} (y0:w1.cell? a0=some (.int .i64 k)) (y1:w1.cell? a1=some (.string n1)) (y2:w1.cell? a2=some (.string n2)) (y3:w1.cell? a3=some (.string n3)) (y4:w1.cell? a4=some (.int .i64 n4)) (y5:w1.cell? a5=some (.int .i64 n5)) (h1:l.length≤cl∧Kd.C (Kd.int .i64) w1 Al l.length l) (hC:Kd.C k35 w1 A d.length d) (h2:(∀x∈l,0≤x∧x<d.length)∧l.length≤400) :
  Aside0 (RU w1 (w1.alloc (.cells #[.slice A d.length cd,.slice Al l.length cl,.int .i64 0] 72)) ((w1.alloc (.cells #[.slice A d.length cd,.slice Al l.length cl,.int .i64 0] 72)).alloc (.cells #[.int .i64 k,.string n1,.string n2,.string n3,.int .i64 n4,.int .i64 n5] 35)) w1.heap.size d l 0):=
 ⟨(RU.mk0 h1.1 hC h1.2 h2.1 h2.2).below ((Below.refl _ _).alloc (Nat.le_refl _) _)⟩
def SPost (W:World) (q:Bool→Prop) (e:Ending) (w':World):Prop:=∃r:Bool,e = .returned (.bool r)∧Below W.heap.size W w'∧q r
def SH (k:Int) (P:Int→Prop):Prop:=∀(W:World) (d:List S35) (l:List Int) (A:Option Addr) (cd p m:Nat) (n1 n2 n3:ByteArray) (n4 n5:Int),P n4→Kd.C k35 W A d.length d→d.length≤cd→d.length≤400→Nod d p m→Tops d (p+1) (p+m) l→spec_Kids.f 402 d p=some l→rd_T35 d (p:Int)=⟨k,n1,n2,n3,n4,n5⟩→
  Calls Tryz.prog 20 #[.slice A d.length cd,.int .i64 p] W fun e w'=>SPost W (fun _=>True) e w'
set_option maxRecDepth 100000
set_option maxHeartbeats 8000000
theorem vS {p:Prop} (h:p:=by
 intro W d l A cd p m n1 n2 n3 n4 n5 hfl hC hcd hdl hN hl hK hn
 try subst hfl
 obtain⟨ad,e2,z0,z1,z2,z3,z4,z5⟩:=at_T35 hC (p:Int) (by omega) (by have:=hN.lt;omega)
 cases e2;rw[hn]at z0 z1 z2 z3 z4 z5;simp only[Int.toNat_natCast]at z0 z1 z2 z3 z4 z5;have hp0:(0:Int)≤(p:Int):=by omega
 have hpd:(p:Int)<(d.length:Int):=by have:=hN.lt;omega
 have hNR:=hl.mem;have hrng:∀x∈l,0≤x∧x<d.length:=fun x hx=>by
  obtain⟨q,m',e1,_,_,e4⟩:=hNR x hx;have:=e4.lt;omega
 have hlen:l.length≤400:=by have:=hl.len;have:=hN.le;omega
 have HCW:=aK hC;have HK:=aK hK;have HNO:=aK hN;have HRG:=aK (And.intro hrng hlen);have HL:=aK hl;clear hC hK hN hNR hrng hl hn;go_enter Tryz.func20,Tryz.ntmps20
 go_wp2_with (go_at_call 22;refine(spec_Kids.calls 402 _ cd d p l _ HCW.out hcd HK.out).mono ?_;rintro e w1 ⟨v,rfl,hR,hb⟩;obtain⟨Al,cl,rfl,hcl,hRC⟩:=Kd.R_reads hR;have HB1:=aK hb;have HR:=aK (And.intro hcl hRC);have y0:=(hb.cell (World.block_lt_of_cell? W _ z0)).trans z0;have y1:=(hb.cell (World.block_lt_of_cell? W _ z1)).trans z1;have y2:=(hb.cell (World.block_lt_of_cell? W _ z2)).trans z2;have y3:=(hb.cell (World.block_lt_of_cell? W _ z3)).trans z3;have y4:=(hb.cell (World.block_lt_of_cell? W _ z4)).trans z4;have y5:=(hb.cell (World.block_lt_of_cell? W _ z5)).trans z5;have lad:=World.block_lt_of_cell? w1 _ y0;clear hb hR hcl hRC z0 z1 z2 z3 z4 z5)
 have HC:=aK (Kd.C_below HCW.out HB1.out);have HS:=RU.mk1 (cd:=cd) y0 y1 y2 y3 y4 y5 HR.out HC.out HRG.out;have hq2:=HS.out.c2;clear y0 y1 y2 y3 y4 y5
 go_wp2_with (first|(go_at_call 38;refine(HS.out.allA (by first|rfl|simp) (by simp) (by rfl) (by decide)).mono ?_;rintro e Wn ⟨rfl,ln,sn,hn⟩;replace HS:=aK hn;clear hn;have hq2:=HS.out.c2)|(go_at_call 39;refine HS.out.end_.mono ?_;rintro e Wn ⟨rfl,hn⟩;replace HS:=aK hn;clear hn;have hq2:=HS.out.c2)|(go_at_call 43;refine HS.out.most.mono ?_;rintro e Wn ⟨rfl,hn⟩;replace HS:=aK hn;clear hn;have hq2:=HS.out.c2)|(go_at_call 40;refine(HS.out.one (by decide)).mono ?_;rintro e Wn ⟨rn,ln,rfl,hn,hon⟩;clear hon;replace HS:=aK hn;clear hn;have hq2:=HS.out.c2)|(go_at_call 42;refine(fixedAt_any HS.out HC.out hcd hdl HNO.out).mono ?_;rintro e Wn ⟨rn,rfl,hn⟩;replace HS:=aK hn;clear hn;have hq2:=HS.out.c2)|(go_at_call 64;refine(fixedHere_any HS.out HC.out hcd hdl HNO.out).mono ?_;rintro e Wn ⟨rn,rfl,hn⟩;replace HS:=aK hn;clear hn;have hq2:=HS.out.c2))
 all_goals
  refine bodyPost_ret (results_tmp rfl _ _ _) rfl ?_;exact⟨_,rfl,HB1.out.trans (HS.out.t.bel.mono HB1.out.size),trivial⟩):p:=h
theorem shaped2a:SH 2 (· = 1):=vS
theorem shaped2b:SH 2 (· = 0):=vS
theorem shaped1:SH 1 (fun _=>True):=vS
theorem shaped3:SH 3 (fun _=>True):=vS
theorem shaped4:SH 4 (fun _=>True):=vS
theorem shaped5:SH 5 (fun _=>True):=vS
theorem shaped6:SH 6 (fun _=>True):=vS
theorem shaped7:SH 7 (fun _=>True):=vS
theorem shaped8:SH 8 (fun _=>True):=vS
theorem shaped9:SH 9 (fun _=>True):=vS
theorem shaped10:SH 10 (fun _=>True):=vS
theorem shaped18:SH 18 (fun _=>True):=vS
theorem shaped19:SH 19 (fun _=>True):=vS
theorem shaped21 {W:World} {d:List S35} {l:List Int} {A:Option Addr} {cd p m:Nat} {n1 n2 n3:ByteArray} {n4 n5:Int} (hC:Kd.C k35 W A d.length d) (hcd:d.length≤cd) (hdl:d.length≤400) (hN:Nod d p m) (hl:Tops d (p+1) (p+m) l) (hK:spec_Kids.f 402 d p=some l) (hn:rd_T35 d (p:Int)=⟨21,n1,n2,n3,n4,n5⟩) :
  Calls Tryz.prog 20 #[.slice A d.length cd,.int .i64 p] W fun e w'=>SPost W (fun r=>r=true→l≠[]) e w':=by
 obtain⟨ad,e2,z0,z1,z2,z3,z4,z5⟩:=at_T35 hC (p:Int) (by omega) (by have:=hN.lt;omega)
 cases e2;rw[hn]at z0 z1 z2 z3 z4 z5;simp only[Int.toNat_natCast]at z0 z1 z2 z3 z4 z5;have hp0:(0:Int)≤(p:Int):=by omega
 have hpd:(p:Int)<(d.length:Int):=by have:=hN.lt;omega
 have hNR:=hl.mem;have hrng:∀x∈l,0≤x∧x<d.length:=fun x hx=>by
  obtain⟨q,m',e1,_,_,e4⟩:=hNR x hx;have:=e4.lt;omega
 have hlen:l.length≤400:=by have:=hl.len;have:=hN.le;omega
 have HCW:=aK hC;have HK:=aK hK;have HNO:=aK hN;have HRG:=aK (And.intro hrng hlen);have HL:=aK hl;clear hC hK hN hNR hrng hl hn;go_enter Tryz.func20,Tryz.ntmps20
 go_wp2_with (go_at_call 22;refine(spec_Kids.calls 402 _ cd d p l _ HCW.out hcd HK.out).mono ?_;rintro e w1 ⟨v,rfl,hR,hb⟩;obtain⟨Al,cl,rfl,hcl,hRC⟩:=Kd.R_reads hR;have HB1:=aK hb;have HR:=aK (And.intro hcl hRC);have y0:=(hb.cell (World.block_lt_of_cell? W _ z0)).trans z0;have y1:=(hb.cell (World.block_lt_of_cell? W _ z1)).trans z1;have y2:=(hb.cell (World.block_lt_of_cell? W _ z2)).trans z2;have y3:=(hb.cell (World.block_lt_of_cell? W _ z3)).trans z3;have y4:=(hb.cell (World.block_lt_of_cell? W _ z4)).trans z4;have y5:=(hb.cell (World.block_lt_of_cell? W _ z5)).trans z5;have lad:=World.block_lt_of_cell? w1 _ y0;clear hb hR hcl hRC z0 z1 z2 z3 z4 z5)
 have HC:=aK (Kd.C_below HCW.out HB1.out);have HS:=RU.mk1 (cd:=cd) y0 y1 y2 y3 y4 y5 HR.out HC.out HRG.out;clear y0 y1 y2 y3 y4 y5;refine(HS.out.one (by decide)).mono ?_
 rintro e Wn ⟨rn,ln,rfl,hn,hon⟩;replace HS:=aK hn;clear hn;cases rn with
 | false=>
  go_wp2_with fail
  refine bodyPost_ret (results_tmp rfl _ _ _) rfl ?_;exact⟨false,rfl,HB1.out.trans (HS.out.t.bel.mono HB1.out.size),fun h=>by cases h⟩
 | true=>
  obtain⟨x,hx,_⟩:=hon rfl;have hne:l≠[]:=by rw[hx];exact List.cons_ne_nil _ _
  have HNE:=aK hne;clear hne hx
  go_wp2_with fail
  refine HS.out.end_.mono ?_;rintro e Wn ⟨rfl,hn⟩;replace HS:=aK hn;clear hn
  go_wp2_with fail
  all_goals
   refine bodyPost_ret (results_tmp rfl _ _ _) rfl ?_;exact⟨_,rfl,HB1.out.trans (HS.out.t.bel.mono HB1.out.size),fun _=>HNE.out⟩
theorem shaped22 {W:World} {d:List S35} {l:List Int} {A:Option Addr} {cd p m:Nat} {n1 n2 n3:ByteArray} {n4 n5:Int} (hC:Kd.C k35 W A d.length d) (hcd:d.length≤cd) (hdl:d.length≤400) (hN:Nod d p m) (hl:Tops d (p+1) (p+m) l) (hK:spec_Kids.f 402 d p=some l) (hn:rd_T35 d (p:Int)=⟨22,n1,n2,n3,n4,n5⟩) :
  Calls Tryz.prog 20 #[.slice A d.length cd,.int .i64 p] W fun e w'=>SPost W (fun r=>r=true→l≠[]) e w':=by
 obtain⟨ad,e2,z0,z1,z2,z3,z4,z5⟩:=at_T35 hC (p:Int) (by omega) (by have:=hN.lt;omega)
 cases e2;rw[hn]at z0 z1 z2 z3 z4 z5;simp only[Int.toNat_natCast]at z0 z1 z2 z3 z4 z5;have hp0:(0:Int)≤(p:Int):=by omega
 have hpd:(p:Int)<(d.length:Int):=by have:=hN.lt;omega
 have hNR:=hl.mem;have hrng:∀x∈l,0≤x∧x<d.length:=fun x hx=>by
  obtain⟨q,m',e1,_,_,e4⟩:=hNR x hx;have:=e4.lt;omega
 have hlen:l.length≤400:=by have:=hl.len;have:=hN.le;omega
 have HCW:=aK hC;have HK:=aK hK;have HNO:=aK hN;have HRG:=aK (And.intro hrng hlen);have HL:=aK hl;clear hC hK hN hNR hrng hl hn;go_enter Tryz.func20,Tryz.ntmps20
 go_wp2_with (go_at_call 22;refine(spec_Kids.calls 402 _ cd d p l _ HCW.out hcd HK.out).mono ?_;rintro e w1 ⟨v,rfl,hR,hb⟩;obtain⟨Al,cl,rfl,hcl,hRC⟩:=Kd.R_reads hR;have HB1:=aK hb;have HR:=aK (And.intro hcl hRC);have y0:=(hb.cell (World.block_lt_of_cell? W _ z0)).trans z0;have y1:=(hb.cell (World.block_lt_of_cell? W _ z1)).trans z1;have y2:=(hb.cell (World.block_lt_of_cell? W _ z2)).trans z2;have y3:=(hb.cell (World.block_lt_of_cell? W _ z3)).trans z3;have y4:=(hb.cell (World.block_lt_of_cell? W _ z4)).trans z4;have y5:=(hb.cell (World.block_lt_of_cell? W _ z5)).trans z5;have lad:=World.block_lt_of_cell? w1 _ y0;clear hb hR hcl hRC z0 z1 z2 z3 z4 z5)
 have HC:=aK (Kd.C_below HCW.out HB1.out);have HS:=RU.mk1 (cd:=cd) y0 y1 y2 y3 y4 y5 HR.out HC.out HRG.out;clear y0 y1 y2 y3 y4 y5;refine(HS.out.one (by decide)).mono ?_
 rintro e Wn ⟨rn,ln,rfl,hn,hon⟩;replace HS:=aK hn;clear hn;cases rn with
 | false=>
  go_wp2_with fail
  refine bodyPost_ret (results_tmp rfl _ _ _) rfl ?_;exact⟨false,rfl,HB1.out.trans (HS.out.t.bel.mono HB1.out.size),fun h=>by cases h⟩
 | true=>
  obtain⟨x,hx,_⟩:=hon rfl;have hne:l≠[]:=by rw[hx];exact List.cons_ne_nil _ _
  have HNE:=aK hne;clear hne hx
  go_wp2_with fail
  refine HS.out.end_.mono ?_;rintro e Wn ⟨rfl,hn⟩;replace HS:=aK hn;clear hn
  go_wp2_with fail
  all_goals
   refine bodyPost_ret (results_tmp rfl _ _ _) rfl ?_;exact⟨_,rfl,HB1.out.trans (HS.out.t.bel.mono HB1.out.size),fun _=>HNE.out⟩
theorem shaped17 {W:World} {d:List S35} {l:List Int} {A:Option Addr} {cd p m:Nat} {n1 n2 n3:ByteArray} {n4 n5:Int} (hC:Kd.C k35 W A d.length d) (hcd:d.length≤cd) (hdl:d.length≤400) (hN:Nod d p m) (hl:Tops d (p+1) (p+m) l) (hK:spec_Kids.f 402 d p=some l) (hn:rd_T35 d (p:Int)=⟨17,n1,n2,n3,n4,n5⟩) :
  Calls Tryz.prog 20 #[.slice A d.length cd,.int .i64 p] W fun e w'=>SPost W (fun _=>True) e w':=by
 obtain⟨ad,e2,z0,z1,z2,z3,z4,z5⟩:=at_T35 hC (p:Int) (by omega) (by have:=hN.lt;omega)
 cases e2;rw[hn]at z0 z1 z2 z3 z4 z5;simp only[Int.toNat_natCast]at z0 z1 z2 z3 z4 z5;have hp0:(0:Int)≤(p:Int):=by omega
 have hpd:(p:Int)<(d.length:Int):=by have:=hN.lt;omega
 have hNR:=hl.mem;have hrng:∀x∈l,0≤x∧x<d.length:=fun x hx=>by
  obtain⟨q,m',e1,_,_,e4⟩:=hNR x hx;have:=e4.lt;omega
 have hlen:l.length≤400:=by have:=hl.len;have:=hN.le;omega
 have HCW:=aK hC;have HK:=aK hK;have HNO:=aK hN;have HRG:=aK (And.intro hrng hlen);have HL:=aK hl;clear hC hK hN hNR hrng hl hn;go_enter Tryz.func20,Tryz.ntmps20
 go_wp2_with (go_at_call 22;refine(spec_Kids.calls 402 _ cd d p l _ HCW.out hcd HK.out).mono ?_;rintro e w1 ⟨v,rfl,hR,hb⟩;obtain⟨Al,cl,rfl,hcl,hRC⟩:=Kd.R_reads hR;have HB1:=aK hb;have HR:=aK (And.intro hcl hRC);have y0:=(hb.cell (World.block_lt_of_cell? W _ z0)).trans z0;have y1:=(hb.cell (World.block_lt_of_cell? W _ z1)).trans z1;have y2:=(hb.cell (World.block_lt_of_cell? W _ z2)).trans z2;have y3:=(hb.cell (World.block_lt_of_cell? W _ z3)).trans z3;have y4:=(hb.cell (World.block_lt_of_cell? W _ z4)).trans z4;have y5:=(hb.cell (World.block_lt_of_cell? W _ z5)).trans z5;have lad:=World.block_lt_of_cell? w1 _ y0;clear hb hR hcl hRC z0 z1 z2 z3 z4 z5)
 have HC:=aK (Kd.C_below HCW.out HB1.out);have HS:=RU.mk1 (cd:=cd) y0 y1 y2 y3 y4 y5 HR.out HC.out HRG.out;clear y0 y1 y2 y3 y4 y5;generalize hW2:(w1.alloc (Obj.cells #[Value.slice (some ad) d.length cd,Value.slice Al l.length cl,Value.int IntKind.i64 0] 72))=W2 at HS ⊢;generalize W2.alloc _=W3 at HS ⊢
 go_loopw [] (fun wr=>∃(l':List Int) (s':Int),Aside0 (RU w1 W2 wr w1.heap.size d l' s')) (fun wr=>rowLen w1.heap.size wr)
 case atStart=>exact⟨_,_,HS⟩
 case round=>
  clear HS;obtain⟨l',s',HT⟩:=hrel;have hm0:=HT.out.t.len
  go_wp2_with fail
  refine(HT.out.one (by decide)).mono ?_
  rintro e Wn ⟨rn,ln,rfl,hn,hon⟩;have hm1:=hn.t.len;have HS:=aK hn;clear hn;cases rn with
  | false=>
   go_wp2_with (go_at_call 39;refine HS.out.end_.mono ?_;rintro e Wm ⟨rfl,hm⟩;replace HS:=aK hm;clear hm)
   refine bodyPost_ret (results_tmp rfl _ _ _) rfl ?_;exact⟨_,rfl,HB1.out.trans (HS.out.t.bel.mono HB1.out.size),trivial⟩
  | true=>
   obtain⟨x,hx,_⟩:=hon rfl
   go_wp2_with fail
   refine⟨⟨ln,s',HS⟩,?_⟩;rw[hm1,hm0,hx];exact Nat.lt_succ_self _
theorem shaped_type {W:World} {d:List S35} {l:List Int} {A:Option Addr} {cd p m:Nat} {n1 n2 n3:ByteArray} {n4 n5:Int} {k:Int} (hC:Kd.C k35 W A d.length d) (hcd:d.length≤cd) (hdl:d.length≤400) (hN:Nod d p m) (hl:Tops d (p+1) (p+m) l) (hK:spec_Kids.f 402 d p=some l) (hn:rd_T35 d (p:Int)=⟨k,n1,n2,n3,n4,n5⟩) (hT:∀(w1 w W:World) (g:Nat) (l:List Int) (s:Int) (A:Option Addr),RU w1 w W g d l s→Kd.C k35 w1 A d.length d→Calls Tryz.prog 45 #[.pointer (some ⟨g,0,none⟩),.int .i64 k,.slice A d.length cd,.int .i64 p] W fun e w'=>BPost w1 w g d e w') (q1:(k==1)=false) (q2:(k==2)=false) (q3:(k==3)=false) (q8:(k==8)=false) (q4:(k==4)=false) (q5:(k==5)=false) (q6:(k==6)=false) (q7:(k==7)=false) (q9:(k==9)=false) (q19:(k==19)=false) (q10:(k==10)=false) (q17:(k==17)=false) (q18:(k==18)=false) (q21:(k==21)=false) (q22:(k==22)=false) :
  Calls Tryz.prog 20 #[.slice A d.length cd,.int .i64 p] W fun e w'=>SPost W (fun _=>True) e w':=by
 obtain⟨ad,e2,z0,z1,z2,z3,z4,z5⟩:=at_T35 hC (p:Int) (by omega) (by have:=hN.lt;omega)
 cases e2;rw[hn]at z0 z1 z2 z3 z4 z5;simp only[Int.toNat_natCast]at z0 z1 z2 z3 z4 z5;have hp0:(0:Int)≤(p:Int):=by omega
 have hpd:(p:Int)<(d.length:Int):=by have:=hN.lt;omega
 have hNR:=hl.mem;have hrng:∀x∈l,0≤x∧x<d.length:=fun x hx=>by
  obtain⟨q,m',e1,_,_,e4⟩:=hNR x hx;have:=e4.lt;omega
 have hlen:l.length≤400:=by have:=hl.len;have:=hN.le;omega
 have HCW:=aK hC;have HK:=aK hK;have HNO:=aK hN;have HRG:=aK (And.intro hrng hlen);have HL:=aK hl;clear hC hK hN hNR hrng hl hn;go_enter Tryz.func20,Tryz.ntmps20
 go_wp2_with (go_at_call 22;refine(spec_Kids.calls 402 _ cd d p l _ HCW.out hcd HK.out).mono ?_;rintro e w1 ⟨v,rfl,hR,hb⟩;obtain⟨Al,cl,rfl,hcl,hRC⟩:=Kd.R_reads hR;have HB1:=aK hb;have HR:=aK (And.intro hcl hRC);have y0:=(hb.cell (World.block_lt_of_cell? W _ z0)).trans z0;have y1:=(hb.cell (World.block_lt_of_cell? W _ z1)).trans z1;have y2:=(hb.cell (World.block_lt_of_cell? W _ z2)).trans z2;have y3:=(hb.cell (World.block_lt_of_cell? W _ z3)).trans z3;have y4:=(hb.cell (World.block_lt_of_cell? W _ z4)).trans z4;have y5:=(hb.cell (World.block_lt_of_cell? W _ z5)).trans z5;have lad:=World.block_lt_of_cell? w1 _ y0;clear hb hR hcl hRC z0 z1 z2 z3 z4 z5)
 have HC:=aK (Kd.C_below HCW.out HB1.out);have HS:=RU.mk1 (cd:=cd) y0 y1 y2 y3 y4 y5 HR.out HC.out HRG.out;clear y0 y1 y2 y3 y4 y5
 go_wp2_with (go_at_call 45;refine(hT _ _ _ _ _ _ _ HS.out HC.out).mono ?_;rintro e Wn ⟨rn,ln,sn,rfl,hn⟩;replace HS:=aK hn;clear hn)
 refine bodyPost_ret (results_tmp rfl _ _ _) rfl ?_;exact⟨_,rfl,HB1.out.trans (HS.out.t.bel.mono HB1.out.size),trivial⟩
theorem shaped39 {W:World} {d:List S35} {l:List Int} {A:Option Addr} {cd p m:Nat} {n1 n2 n3:ByteArray} {n4 n5:Int} (hC:Kd.C k35 W A d.length d) (hcd:d.length≤cd) (hdl:d.length≤400) (hN:Nod d p m) (hl:Tops d (p+1) (p+m) l) (hK:spec_Kids.f 402 d p=some l) (hn:rd_T35 d (p:Int)=⟨39,n1,n2,n3,n4,n5⟩) :
  Calls Tryz.prog 20 #[.slice A d.length cd,.int .i64 p] W fun e w'=>SPost W (fun r=>r=true→∃x,l=[x]∧kd d x=27) e w':=by
 obtain⟨ad,e2,z0,z1,z2,z3,z4,z5⟩:=at_T35 hC (p:Int) (by omega) (by have:=hN.lt;omega)
 cases e2;rw[hn]at z0 z1 z2 z3 z4 z5;simp only[Int.toNat_natCast]at z0 z1 z2 z3 z4 z5;have hp0:(0:Int)≤(p:Int):=by omega
 have hpd:(p:Int)<(d.length:Int):=by have:=hN.lt;omega
 have hNR:=hl.mem;have hrng:∀x∈l,0≤x∧x<d.length:=fun x hx=>by
  obtain⟨q,m',e1,_,_,e4⟩:=hNR x hx;have:=e4.lt;omega
 have hlen:l.length≤400:=by have:=hl.len;have:=hN.le;omega
 have HCW:=aK hC;have HK:=aK hK;have HNO:=aK hN;have HRG:=aK (And.intro hrng hlen);have HL:=aK hl;clear hC hK hN hNR hrng hl hn;go_enter Tryz.func20,Tryz.ntmps20
 go_wp2_with (go_at_call 22;refine(spec_Kids.calls 402 _ cd d p l _ HCW.out hcd HK.out).mono ?_;rintro e w1 ⟨v,rfl,hR,hb⟩;obtain⟨Al,cl,rfl,hcl,hRC⟩:=Kd.R_reads hR;have HB1:=aK hb;have HR:=aK (And.intro hcl hRC);have y0:=(hb.cell (World.block_lt_of_cell? W _ z0)).trans z0;have y1:=(hb.cell (World.block_lt_of_cell? W _ z1)).trans z1;have y2:=(hb.cell (World.block_lt_of_cell? W _ z2)).trans z2;have y3:=(hb.cell (World.block_lt_of_cell? W _ z3)).trans z3;have y4:=(hb.cell (World.block_lt_of_cell? W _ z4)).trans z4;have y5:=(hb.cell (World.block_lt_of_cell? W _ z5)).trans z5;have lad:=World.block_lt_of_cell? w1 _ y0;clear hb hR hcl hRC z0 z1 z2 z3 z4 z5)
 have HC:=aK (Kd.C_below HCW.out HB1.out);have HS:=RU.mk1 (cd:=cd) y0 y1 y2 y3 y4 y5 HR.out HC.out HRG.out;clear y0 y1 y2 y3 y4 y5
 go_wp2_with (go_at_call 45;refine(type39 HS.out HC.out hcd hdl HNO.out HL.out).mono ?_;rintro e Wn ⟨rn,ln,sn,rfl,hn,hon⟩;replace HS:=aK hn;have HON:=aK hon;clear hn hon)
 refine bodyPost_ret (results_tmp rfl _ _ _) rfl ?_;exact⟨_,rfl,HB1.out.trans (HS.out.t.bel.mono HB1.out.size),HON.out⟩
theorem SPost.imp {W:World} {q q':Bool→Prop} {e:Ending} {w':World} (h:SPost W q e w') (k:∀r,q r→q' r):SPost W q' e w':=by
 obtain⟨r,h1,h2,h3⟩:=h;exact⟨r,h1,h2,k r h3⟩
def Shp (d:List S35) (k:Int) (l:List Int):Prop:=(k=21∨k=22→l≠[])∧(k=39→∃x,l=[x]∧kd d x=27)
theorem shaped_any {W:World} {d:List S35} {l:List Int} {A:Option Addr} {cd p m:Nat} {k:Int} {n1 n2 n3:ByteArray} {n4 n5:Int} (hC:Kd.C k35 W A d.length d) (hcd:d.length≤cd) (hdl:d.length≤400) (hN:Nod d p m) (hl:Tops d (p+1) (p+m) l) (hK:spec_Kids.f 402 d p=some l) (hn:rd_T35 d (p:Int)=⟨k,n1,n2,n3,n4,n5⟩) (hr:1≤k∧k≤39) (hf:k=2→n4=0∨n4=1) :
  Calls Tryz.prog 20 #[.slice A d.length cd,.int .i64 p] W fun e w'=>SPost W (fun r=>r=true→Shp d k l) e w':=by
 have hall:k=1∨k=2∨k=3∨k=4∨k=5∨k=6∨k=7∨k=8∨k=9∨k=10∨k=11∨k=12∨k=13∨k=14∨k=15∨k=16∨k=17∨k=18∨k=19∨k=20∨k=21∨k=22∨k=23∨k=24∨k=25∨k=26∨k=27∨k=28∨k=29∨k=30∨k=31∨k=32∨k=33∨k=34∨k=35∨k=36∨k=37∨k=38∨k=39:=by omega
 rcases hall with rfl|rfl|rfl|rfl|rfl|rfl|rfl|rfl|rfl|rfl|rfl|rfl|rfl|rfl|rfl|rfl|rfl|rfl|rfl|rfl|rfl|rfl|rfl|rfl|rfl|rfl|rfl|rfl|rfl|rfl|rfl|rfl|rfl|rfl|rfl|rfl|rfl|rfl|rfl
 ·exact(shaped1 _ _ _ _ _ _ _ _ _ _ _ _ trivial hC hcd hdl hN hl hK hn).mono (fun _ _ h=>h.imp (fun _ _ _=>⟨(by rintro(h|h)<;>cases h),(by intro h;cases h)⟩))
 ·rcases hf rfl with h4|h4
  ·exact(shaped2b _ _ _ _ _ _ _ _ _ _ _ _ h4 hC hcd hdl hN hl hK hn).mono (fun _ _ h=>h.imp (fun _ _ _=>⟨(by rintro(h|h)<;>cases h),(by intro h;cases h)⟩))
  ·exact(shaped2a _ _ _ _ _ _ _ _ _ _ _ _ h4 hC hcd hdl hN hl hK hn).mono (fun _ _ h=>h.imp (fun _ _ _=>⟨(by rintro(h|h)<;>cases h),(by intro h;cases h)⟩))
 ·exact(shaped3 _ _ _ _ _ _ _ _ _ _ _ _ trivial hC hcd hdl hN hl hK hn).mono (fun _ _ h=>h.imp (fun _ _ _=>⟨(by rintro(h|h)<;>cases h),(by intro h;cases h)⟩))
 ·exact(shaped4 _ _ _ _ _ _ _ _ _ _ _ _ trivial hC hcd hdl hN hl hK hn).mono (fun _ _ h=>h.imp (fun _ _ _=>⟨(by rintro(h|h)<;>cases h),(by intro h;cases h)⟩))
 ·exact(shaped5 _ _ _ _ _ _ _ _ _ _ _ _ trivial hC hcd hdl hN hl hK hn).mono (fun _ _ h=>h.imp (fun _ _ _=>⟨(by rintro(h|h)<;>cases h),(by intro h;cases h)⟩))
 ·exact(shaped6 _ _ _ _ _ _ _ _ _ _ _ _ trivial hC hcd hdl hN hl hK hn).mono (fun _ _ h=>h.imp (fun _ _ _=>⟨(by rintro(h|h)<;>cases h),(by intro h;cases h)⟩))
 ·exact(shaped7 _ _ _ _ _ _ _ _ _ _ _ _ trivial hC hcd hdl hN hl hK hn).mono (fun _ _ h=>h.imp (fun _ _ _=>⟨(by rintro(h|h)<;>cases h),(by intro h;cases h)⟩))
 ·exact(shaped8 _ _ _ _ _ _ _ _ _ _ _ _ trivial hC hcd hdl hN hl hK hn).mono (fun _ _ h=>h.imp (fun _ _ _=>⟨(by rintro(h|h)<;>cases h),(by intro h;cases h)⟩))
 ·exact(shaped9 _ _ _ _ _ _ _ _ _ _ _ _ trivial hC hcd hdl hN hl hK hn).mono (fun _ _ h=>h.imp (fun _ _ _=>⟨(by rintro(h|h)<;>cases h),(by intro h;cases h)⟩))
 ·exact(shaped10 _ _ _ _ _ _ _ _ _ _ _ _ trivial hC hcd hdl hN hl hK hn).mono (fun _ _ h=>h.imp (fun _ _ _=>⟨(by rintro(h|h)<;>cases h),(by intro h;cases h)⟩))
 ·exact(shaped_type hC hcd hdl hN hl hK hn (fun w1 w W g l s A h hC=>type_other 11 rfl rfl rfl rfl rfl rfl rfl rfl rfl rfl rfl rfl _ _ _ _ _ _ _ _ _ _ _ h hC hcd hdl hN) rfl rfl rfl rfl rfl rfl rfl rfl rfl rfl rfl rfl rfl rfl rfl).mono (fun _ _ h=>h.imp (fun _ _ _=>⟨(by rintro(h|h)<;>cases h),(by intro h;cases h)⟩))
 ·exact(shaped_type hC hcd hdl hN hl hK hn (fun w1 w W g l s A h hC=>type_other 12 rfl rfl rfl rfl rfl rfl rfl rfl rfl rfl rfl rfl _ _ _ _ _ _ _ _ _ _ _ h hC hcd hdl hN) rfl rfl rfl rfl rfl rfl rfl rfl rfl rfl rfl rfl rfl rfl rfl).mono (fun _ _ h=>h.imp (fun _ _ _=>⟨(by rintro(h|h)<;>cases h),(by intro h;cases h)⟩))
 ·exact(shaped_type hC hcd hdl hN hl hK hn (fun w1 w W g l s A h hC=>type_other 13 rfl rfl rfl rfl rfl rfl rfl rfl rfl rfl rfl rfl _ _ _ _ _ _ _ _ _ _ _ h hC hcd hdl hN) rfl rfl rfl rfl rfl rfl rfl rfl rfl rfl rfl rfl rfl rfl rfl).mono (fun _ _ h=>h.imp (fun _ _ _=>⟨(by rintro(h|h)<;>cases h),(by intro h;cases h)⟩))
 ·exact(shaped_type hC hcd hdl hN hl hK hn (fun w1 w W g l s A h hC=>type_other 14 rfl rfl rfl rfl rfl rfl rfl rfl rfl rfl rfl rfl _ _ _ _ _ _ _ _ _ _ _ h hC hcd hdl hN) rfl rfl rfl rfl rfl rfl rfl rfl rfl rfl rfl rfl rfl rfl rfl).mono (fun _ _ h=>h.imp (fun _ _ _=>⟨(by rintro(h|h)<;>cases h),(by intro h;cases h)⟩))
 ·exact(shaped_type hC hcd hdl hN hl hK hn (fun w1 w W g l s A h hC=>type_other 15 rfl rfl rfl rfl rfl rfl rfl rfl rfl rfl rfl rfl _ _ _ _ _ _ _ _ _ _ _ h hC hcd hdl hN) rfl rfl rfl rfl rfl rfl rfl rfl rfl rfl rfl rfl rfl rfl rfl).mono (fun _ _ h=>h.imp (fun _ _ _=>⟨(by rintro(h|h)<;>cases h),(by intro h;cases h)⟩))
 ·exact(shaped_type hC hcd hdl hN hl hK hn (fun w1 w W g l s A h hC=>type_other 16 rfl rfl rfl rfl rfl rfl rfl rfl rfl rfl rfl rfl _ _ _ _ _ _ _ _ _ _ _ h hC hcd hdl hN) rfl rfl rfl rfl rfl rfl rfl rfl rfl rfl rfl rfl rfl rfl rfl).mono (fun _ _ h=>h.imp (fun _ _ _=>⟨(by rintro(h|h)<;>cases h),(by intro h;cases h)⟩))
 ·exact(shaped17 hC hcd hdl hN hl hK hn).mono (fun _ _ h=>h.imp (fun _ _ _=>⟨(by rintro(h|h)<;>cases h),(by intro h;cases h)⟩))
 ·exact(shaped18 _ _ _ _ _ _ _ _ _ _ _ _ trivial hC hcd hdl hN hl hK hn).mono (fun _ _ h=>h.imp (fun _ _ _=>⟨(by rintro(h|h)<;>cases h),(by intro h;cases h)⟩))
 ·exact(shaped19 _ _ _ _ _ _ _ _ _ _ _ _ trivial hC hcd hdl hN hl hK hn).mono (fun _ _ h=>h.imp (fun _ _ _=>⟨(by rintro(h|h)<;>cases h),(by intro h;cases h)⟩))
 ·exact(shaped_type hC hcd hdl hN hl hK hn (fun w1 w W g l s A h hC=>type_other 20 rfl rfl rfl rfl rfl rfl rfl rfl rfl rfl rfl rfl _ _ _ _ _ _ _ _ _ _ _ h hC hcd hdl hN) rfl rfl rfl rfl rfl rfl rfl rfl rfl rfl rfl rfl rfl rfl rfl).mono (fun _ _ h=>h.imp (fun _ _ _=>⟨(by rintro(h|h)<;>cases h),(by intro h;cases h)⟩))
 ·exact(shaped21 hC hcd hdl hN hl hK hn).mono (fun _ _ h=>h.imp (fun _ h hr=>⟨fun _=>h hr,(by intro h;cases h)⟩))
 ·exact(shaped22 hC hcd hdl hN hl hK hn).mono (fun _ _ h=>h.imp (fun _ h hr=>⟨fun _=>h hr,(by intro h;cases h)⟩))
 ·exact(shaped_type hC hcd hdl hN hl hK hn (fun w1 w W g l s A h hC=>type_other 23 rfl rfl rfl rfl rfl rfl rfl rfl rfl rfl rfl rfl _ _ _ _ _ _ _ _ _ _ _ h hC hcd hdl hN) rfl rfl rfl rfl rfl rfl rfl rfl rfl rfl rfl rfl rfl rfl rfl).mono (fun _ _ h=>h.imp (fun _ _ _=>⟨(by rintro(h|h)<;>cases h),(by intro h;cases h)⟩))
 ·exact(shaped_type hC hcd hdl hN hl hK hn (fun w1 w W g l s A h hC=>type24 _ _ _ _ _ _ _ _ _ _ _ h hC hcd hdl hN) rfl rfl rfl rfl rfl rfl rfl rfl rfl rfl rfl rfl rfl rfl rfl).mono (fun _ _ h=>h.imp (fun _ _ _=>⟨(by rintro(h|h)<;>cases h),(by intro h;cases h)⟩))
 ·exact(shaped_type hC hcd hdl hN hl hK hn (fun w1 w W g l s A h hC=>type_other 25 rfl rfl rfl rfl rfl rfl rfl rfl rfl rfl rfl rfl _ _ _ _ _ _ _ _ _ _ _ h hC hcd hdl hN) rfl rfl rfl rfl rfl rfl rfl rfl rfl rfl rfl rfl rfl rfl rfl).mono (fun _ _ h=>h.imp (fun _ _ _=>⟨(by rintro(h|h)<;>cases h),(by intro h;cases h)⟩))
 ·exact(shaped_type hC hcd hdl hN hl hK hn (fun w1 w W g l s A h hC=>type26 _ _ _ _ _ _ _ _ _ _ _ h hC hcd hdl hN) rfl rfl rfl rfl rfl rfl rfl rfl rfl rfl rfl rfl rfl rfl rfl).mono (fun _ _ h=>h.imp (fun _ _ _=>⟨(by rintro(h|h)<;>cases h),(by intro h;cases h)⟩))
 ·exact(shaped_type hC hcd hdl hN hl hK hn (fun w1 w W g l s A h hC=>type27 _ _ _ _ _ _ _ _ _ _ _ h hC hcd hdl hN) rfl rfl rfl rfl rfl rfl rfl rfl rfl rfl rfl rfl rfl rfl rfl).mono (fun _ _ h=>h.imp (fun _ _ _=>⟨(by rintro(h|h)<;>cases h),(by intro h;cases h)⟩))
 ·exact(shaped_type hC hcd hdl hN hl hK hn (fun w1 w W g l s A h hC=>type_other 28 rfl rfl rfl rfl rfl rfl rfl rfl rfl rfl rfl rfl _ _ _ _ _ _ _ _ _ _ _ h hC hcd hdl hN) rfl rfl rfl rfl rfl rfl rfl rfl rfl rfl rfl rfl rfl rfl rfl).mono (fun _ _ h=>h.imp (fun _ _ _=>⟨(by rintro(h|h)<;>cases h),(by intro h;cases h)⟩))
 ·exact(shaped_type hC hcd hdl hN hl hK hn (fun w1 w W g l s A h hC=>type29 _ _ _ _ _ _ _ _ _ _ _ h hC hcd hdl hN) rfl rfl rfl rfl rfl rfl rfl rfl rfl rfl rfl rfl rfl rfl rfl).mono (fun _ _ h=>h.imp (fun _ _ _=>⟨(by rintro(h|h)<;>cases h),(by intro h;cases h)⟩))
 ·exact(shaped_type hC hcd hdl hN hl hK hn (fun w1 w W g l s A h hC=>type30 _ _ _ _ _ _ _ _ _ _ _ h hC hcd hdl hN) rfl rfl rfl rfl rfl rfl rfl rfl rfl rfl rfl rfl rfl rfl rfl).mono (fun _ _ h=>h.imp (fun _ _ _=>⟨(by rintro(h|h)<;>cases h),(by intro h;cases h)⟩))
 ·exact(shaped_type hC hcd hdl hN hl hK hn (fun w1 w W g l s A h hC=>type31 _ _ _ _ _ _ _ _ _ _ _ h hC hcd hdl hN) rfl rfl rfl rfl rfl rfl rfl rfl rfl rfl rfl rfl rfl rfl rfl).mono (fun _ _ h=>h.imp (fun _ _ _=>⟨(by rintro(h|h)<;>cases h),(by intro h;cases h)⟩))
 ·exact(shaped_type hC hcd hdl hN hl hK hn (fun w1 w W g l s A h hC=>type32 _ _ _ _ _ _ _ _ _ _ _ h hC hcd hdl hN) rfl rfl rfl rfl rfl rfl rfl rfl rfl rfl rfl rfl rfl rfl rfl).mono (fun _ _ h=>h.imp (fun _ _ _=>⟨(by rintro(h|h)<;>cases h),(by intro h;cases h)⟩))
 ·exact(shaped_type hC hcd hdl hN hl hK hn (fun w1 w W g l s A h hC=>type_other 33 rfl rfl rfl rfl rfl rfl rfl rfl rfl rfl rfl rfl _ _ _ _ _ _ _ _ _ _ _ h hC hcd hdl hN) rfl rfl rfl rfl rfl rfl rfl rfl rfl rfl rfl rfl rfl rfl rfl).mono (fun _ _ h=>h.imp (fun _ _ _=>⟨(by rintro(h|h)<;>cases h),(by intro h;cases h)⟩))
 ·exact(shaped_type hC hcd hdl hN hl hK hn (fun w1 w W g l s A h hC=>type34 _ _ _ _ _ _ _ _ _ _ _ h hC hcd hdl hN) rfl rfl rfl rfl rfl rfl rfl rfl rfl rfl rfl rfl rfl rfl rfl).mono (fun _ _ h=>h.imp (fun _ _ _=>⟨(by rintro(h|h)<;>cases h),(by intro h;cases h)⟩))
 ·exact(shaped_type hC hcd hdl hN hl hK hn (fun w1 w W g l s A h hC=>type35 _ _ _ _ _ _ _ _ _ _ _ h hC hcd hdl hN) rfl rfl rfl rfl rfl rfl rfl rfl rfl rfl rfl rfl rfl rfl rfl).mono (fun _ _ h=>h.imp (fun _ _ _=>⟨(by rintro(h|h)<;>cases h),(by intro h;cases h)⟩))
 ·exact(shaped_type hC hcd hdl hN hl hK hn (fun w1 w W g l s A h hC=>type36 _ _ _ _ _ _ _ _ _ _ _ h hC hcd hdl hN) rfl rfl rfl rfl rfl rfl rfl rfl rfl rfl rfl rfl rfl rfl rfl).mono (fun _ _ h=>h.imp (fun _ _ _=>⟨(by rintro(h|h)<;>cases h),(by intro h;cases h)⟩))
 ·exact(shaped_type hC hcd hdl hN hl hK hn (fun w1 w W g l s A h hC=>type37 _ _ _ _ _ _ _ _ _ _ _ h hC hcd hdl hN) rfl rfl rfl rfl rfl rfl rfl rfl rfl rfl rfl rfl rfl rfl rfl).mono (fun _ _ h=>h.imp (fun _ _ _=>⟨(by rintro(h|h)<;>cases h),(by intro h;cases h)⟩))
 ·exact(shaped_type hC hcd hdl hN hl hK hn (fun w1 w W g l s A h hC=>type_other 38 rfl rfl rfl rfl rfl rfl rfl rfl rfl rfl rfl rfl _ _ _ _ _ _ _ _ _ _ _ h hC hcd hdl hN) rfl rfl rfl rfl rfl rfl rfl rfl rfl rfl rfl rfl rfl rfl rfl).mono (fun _ _ h=>h.imp (fun _ _ _=>⟨(by rintro(h|h)<;>cases h),(by intro h;cases h)⟩))
 ·exact(shaped39 hC hcd hdl hN hl hK hn).mono (fun _ _ h=>h.imp (fun _ h hr=>⟨(by rintro(h|h)<;>cases h),fun _=>h hr⟩))
end Go.Proofs.YtjolkdnfbmkjiaaGreatDoor.Wr
