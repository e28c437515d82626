import Derived.Test.YtjolkdnfbmkjiaaGreatDoorVA4
import Derived.Test.YtjolkdnfbmkjiaaGreatDoorVB7
import Derived.Test.YtjolkdnfbmkjiaaGreatDoorVC5
import Derived.Test.YtjolkdnfbmkjiaaGreatDoorVH2
import Derived.Lib.ConvBytes
set_option maxRecDepth 100000
set_option maxHeartbeats 8000000
set_option linter.unusedVariables false
set_option linter.unusedSimpArgs false
namespace Go.Proofs.YtjolkdnfbmkjiaaGreatDoor.To
open Go.RowKit Go.Proofs.YtjolkdnfbmkjiaaGreatDoorW.PrintWords Keep Go.Proofs.YtjolkdnfbmkjiaaGreatDoor.Mod Rel Sim Four Step Env Err Lx PFnTokensGaps
theorem lex_begin (sb:Nat) (w:World):Calls Tryz.prog 14 #[.pointer (some ⟨sb,0,none⟩)] w fun e w'=>e = .returned (.func (.func 30) #[] #[.pointer (some ⟨w.heap.size+1,0,none⟩),.pointer (some ⟨w.heap.size,0,none⟩)])∧
  w'=(w.alloc (.cells #[.pointer (some ⟨sb,0,none⟩)] 45)).alloc (.cells #[.int .i64 0] 3):=by
 go_enter Tryz.func14,Tryz.ntmps14
 go_wp2_with fail
 go_ret
 exact⟨rfl,rfl⟩
theorem new_source (g len cap bb:Nat) (w:World) (h:Blk w g 48 #[.slice (some ⟨bb,0,none⟩) len cap,.string ⟨#[]⟩]) :
  Calls Tryz.prog 15 #[.pointer (some ⟨g,0,none⟩)] w fun e w'=>e = .returned (.pointer (some ⟨g,0,none⟩))∧∃x,w'=w.setCell ⟨g,1,none⟩ (.string x):=by
 have c0:=(h.cell 0).trans rfl;have c1:=(h.cell 1).trans rfl;have z1:=h.frozen 1;clear h;go_enter Tryz.func15,Tryz.ntmps15
 go_wp2_with fail
 go_ret
 exact⟨rfl,_,rfl⟩
theorem bytes_body (W:World) (e:TypeId) (s:ByteArray):BodyAt (Lib.bytesWorld W e s) W.heap.size s:=fun j hj=>by
 rw[Lib.bytesWorld_cell W e s j hj,bt_nat s j hj];have h':j<s.data.toList.length:=by simpa using hj
 rw[List.getD_eq_getElem?_getD,List.getElem?_eq_getElem h'];rfl
theorem src_tx (w:World) (s:ByteArray) (cap:Nat) (x:ByteArray) (ht:Tabs w) (hsz:s.size≤1000000000) (hcap:s.size≤cap) :
  Tx (w.heap.size+1) w.heap.size cap s (((Lib.bytesWorld w 5 s).alloc (.cells #[.slice (some ⟨w.heap.size,0,none⟩) s.size cap,.string ⟨#[]⟩] 48)).setCell ⟨w.heap.size+1,1,none⟩ (.string x))∧
  Below w.heap.size w (((Lib.bytesWorld w 5 s).alloc (.cells #[.slice (some ⟨w.heap.size,0,none⟩) s.size cap,.string ⟨#[]⟩] 48)).setCell ⟨w.heap.size+1,1,none⟩ (.string x))∧
  (((Lib.bytesWorld w 5 s).alloc (.cells #[.slice (some ⟨w.heap.size,0,none⟩) s.size cap,.string ⟨#[]⟩] 48)).setCell ⟨w.heap.size+1,1,none⟩ (.string x)).heap.size=w.heap.size+2:=by
 have h3:=Lib.bytesWorld_size w 5 s;have h1:=bytes_body w 5 s;have h2:Below w.heap.size w (Lib.bytesWorld w 5 s):=bytes_below (Below.refl _ _) (Nat.le_refl _) _ s;generalize Lib.bytesWorld w 5 s=W at *;have hb:=Blk.new W 48 #[.slice (some ⟨w.heap.size,0,none⟩) s.size cap,.string ⟨#[]⟩];rw[h3]at hb;have hb2:=hb.set_ 1 (.string x);have hB1:Below W.heap.size W (W.alloc (.cells #[.slice (some ⟨w.heap.size,0,none⟩) s.size cap,.string ⟨#[]⟩] 48)):=below_alloc (Below.refl _ _) _;have hB:Below W.heap.size W ((W.alloc (.cells #[.slice (some ⟨w.heap.size,0,none⟩) s.size cap,.string ⟨#[]⟩] 48)).setCell ⟨w.heap.size+1,1,none⟩ (.string x)):=hB1.setCell (p:=⟨w.heap.size+1,1,none⟩) (by show W.heap.size≤w.heap.size+1;omega) _
 have hBB:=h2.trans (hB.mono (by omega))
 refine⟨⟨fun j hj=>pw_cell_below hB (h1 j hj),Utf8Tabs_below ht hBB,(hb2.cell 0).trans rfl,hcap,hsz⟩,hBB,?_⟩;simp[World.setCell,h3]
structure TkI (E:At) (l:List Tok) (b0:Nat) (w wr:World) (i:Nat) (v:Value):Prop where
 le:i≤l.length
 row:Lex.RowAt wr b0 v ((l.take i).map Lex.cv)
 src:Src E wr
 pos:∃p,Blk wr E.qb 3 #[.int .i64 (p:Nat)]∧ReachL E.s l true p (l.drop i)
 bel:Below w.heap.size w wr
 hb:w.heap.size≤b0
 far:Far E
 lt:E.qb<b0∧E.xb<b0∧E.sb<b0∧E.bb<b0∧0<b0∧1<b0∧b0≤wr.heap.size
 wq:w.heap.size≤E.qb
theorem TkI.lx {E:At} {l:List Tok} {b0:Nat} {w wr:World} {i:Nat} {v:Value} (h:TkI E l b0 w wr i v) (hE:E.lx=lxL E.s l true) (ha:E.ask=askL E.s l true) :
  ∃p,Blk wr E.qb 3 #[.int .i64 (p:Nat)]∧ReachL E.s l true p (l.drop i)∧E.ask p∧((∃hi:i<l.length,E.lx p=some l[i])∨(i=l.length∧E.lx p=some ⟨1,E.s.size,E.s.size,⟨#[]⟩⟩)):=by
 obtain⟨p,h1,h2⟩:=h.pos;refine⟨p,h1,h2,by rw[ha];exact .inl ⟨_,h2⟩,?_⟩
 rw[hE,lxL_reach plL h2];rcases Nat.lt_or_ge i l.length with hi|hi
 ·left
  refine⟨hi,?_⟩;rw[List.drop_eq_getElem_cons hi];rfl
 ·right
  have e:i=l.length:=by have:=h.le;omega
  refine⟨e,?_⟩;rw[e,List.drop_length];rfl
theorem chain_len {s:ByteArray} {T:Nat→Tok→Prop} {B:Nat→Prop} {whole:Bool} (hT:∀p t,T p t→t.start=p∧p<t.stop∧t.stop≤s.size) {p:Nat} {l:List Tok} (h:Chain s T B whole p l):p≤s.size→l.length+p≤s.size:=by
 induction h with
 | done _ _=>intro hp;simpa using hp
 | more h1 h2 h3 ih=>
  intro hp;have h4:=hT _ _ h2;have h5:=h1.le;have:=ih h4.2.2;rw[List.length_cons];omega
theorem tabs_lt {w:World} (ht:Tabs w):0<w.heap.size∧1<w.heap.size:=
 ⟨World.block_lt_of_cell? w _ (ht.1 0 (by decide)),World.block_lt_of_cell? w _ (ht.2 0 (by decide)).1⟩
theorem tk_begin {w W5:World} {s:ByteArray} {cap:Nat} {l:List Tok} (hc:ChainL s l true) (hs:s.size≤200000) (ht:Tabs w) (htx:Tx (w.heap.size+1) w.heap.size cap s W5) (hb:Below w.heap.size w W5) (h5:W5.heap.size=w.heap.size+2) :
  TkI ⟨w.heap.size+4,w.heap.size+3,w.heap.size+2,w.heap.size+1,w.heap.size,cap,s,lxL s l true,askL s l true⟩ l (w.heap.size+4) w ((W5.alloc (.cells #[.pointer (some ⟨w.heap.size+1,0,none⟩)] 45)).alloc (.cells #[.int .i64 0] 3)) 0 (.slice none 0 0):=by
 have hx0:=(Blk.new W5 45 #[.pointer (some ⟨w.heap.size+1,0,none⟩)]).alloc (.cells #[.int .i64 0] 3);have hq0:=Blk.new (W5.alloc (.cells #[.pointer (some ⟨w.heap.size+1,0,none⟩)] 45)) 3 #[.int .i64 0];have hb5:Below W5.heap.size W5 ((W5.alloc (.cells #[.pointer (some ⟨w.heap.size+1,0,none⟩)] 45)).alloc (.cells #[.int .i64 0] 3)):=below_alloc (below_alloc (Below.refl _ _) _) _;have hsz:((W5.alloc (.cells #[.pointer (some ⟨w.heap.size+1,0,none⟩)] 45)).alloc (.cells #[.int .i64 0] 3)).heap.size=w.heap.size+4:=by simp[h5]
 simp only[World.size_alloc,h5]at hx0 hq0;obtain⟨g1,g2⟩:=tabs_lt ht;generalize (W5.alloc (.cells #[.pointer (some ⟨w.heap.size+1,0,none⟩)] 45)).alloc (.cells #[.int .i64 0] 3)=W6 at *;exact⟨Nat.zero_le _,own_nil _ _ _ _,⟨(hx0.cell 0).trans rfl,htx.below hb5,okl _ l true hc hs rfl rfl⟩,⟨0,hq0,.first hc⟩,hb.trans (hb5.mono hb.size),by omega,
  by constructor<;>(simp only[];omega),⟨by simp only[];omega,by simp only[];omega,by simp only[];omega,by simp only[];omega,by omega,by omega,by omega⟩,by simp only[];omega⟩
theorem lex_next (E:At) (w:World) (p:Nat) (t:Tok) (hS:Src E w) (hp:E.ask p) (hQ:Blk w E.qb 3 #[.int .i64 p]) (hF:Far E) (ht:E.lx p=some t) :
  Calls Tryz.prog 30 #[.int .i64 0,.pointer (some ⟨E.qb,0,none⟩),.pointer (some ⟨E.xb,0,none⟩)] w fun e w'=>
   e = .returned (.tuple #[tokV t,.nilIface])∧Keeps E.qb E.qb w w'∧Blk w' E.qb 3 #[.int .i64 t.stop]:=
 (lex_zero E w p hS hp hQ hF).mono fun e w' ⟨a,c⟩=>by
  rcases c with⟨t',h1,h2,b⟩|⟨h1,_⟩
  ·rw[ht]at h1
   obtain rfl:=Option.some.inj h1;exact⟨h2,a,b⟩
  ·rw[ht]at h1;cases h1
structure NxR (E:At) (w:World) (t:Tok) (n:Nat) (wx:World):Prop where
 tok:Blk wx n 51 #[.int .i64 t.kind,.int .i64 t.start,.int .i64 t.stop,.string t.value]
 keep:Keeps E.qb E.qb w wx
 qblk:Blk wx E.qb 3 #[.int .i64 t.stop]
 new:w.heap.size≤n
theorem nxA {E:At} {w w2:World} {t:Tok} (hk:Keeps E.qb E.qb w w2) (hv:Blk w2 E.qb 3 #[.int .i64 t.stop]) :
  NxR E w t w2.heap.size (w2.alloc (.cells #[.int .i64 t.kind,.int .i64 t.start,.int .i64 t.stop,.string t.value] 51)):=
 ⟨Blk.new _ _ _,hk.alloc _,Blk.alloc hv _,hk.size⟩
theorem nxB {E:At} {w w2:World} {t:Tok} (hql:E.qb<w.heap.size) (hk:Keeps E.qb E.qb (w.alloc (.cells #[.int .i64 0,.int .i64 0,.int .i64 0,.string ⟨#[]⟩] 51)) w2) (hv:Blk w2 E.qb 3 #[.int .i64 t.stop]) :
  NxR E w t w.heap.size ((((w2.setCell ⟨w.heap.size,0,none⟩ (.int .i64 t.kind)).setCell ⟨w.heap.size,1,none⟩ (.int .i64 t.start)).setCell ⟨w.heap.size,2,none⟩ (.int .i64 t.stop)).setCell ⟨w.heap.size,3,none⟩ (.string t.value)):=by
 have hk1:Keeps E.qb E.qb w w2:=((Keeps.refl E.qb E.qb _).alloc _).trans hk;have hT:=Blk.keep (Blk.new w 51 #[.int .i64 0,.int .i64 0,.int .i64 0,.string ⟨#[]⟩]) hk (by omega) (by omega)
 have nq:E.qb≠w.heap.size:=by omega
 refine⟨(((hT.set_ 0 _).set_ 1 _).set_ 2 _).set_ 3 _,(((hk1.setNew (x:=⟨w.heap.size,0,none⟩) (Nat.le_refl _) _).setNew (x:=⟨w.heap.size,1,none⟩) (Nat.le_refl _) _).setNew (x:=⟨w.heap.size,2,none⟩) (Nat.le_refl _) _).setNew (x:=⟨w.heap.size,3,none⟩) (Nat.le_refl _) _,?_,Nat.le_refl _⟩;exact(((Blk.far hv (p:=⟨w.heap.size,0,none⟩) nq _).far (p:=⟨w.heap.size,1,none⟩) nq _).far (p:=⟨w.heap.size,2,none⟩) nq _).far (p:=⟨w.heap.size,3,none⟩) nq _
theorem TkI.next {E:At} {l:List Tok} {b0:Nat} {w wr:World} {i:Nat} {v:Value} (h:TkI E l b0 w wr i v) (hE:E.lx=lxL E.s l true) (ha:E.ask=askL E.s l true) (hno:∀t∈l,t.kind≠1) :
  ∃p t,Blk wr E.qb 3 #[.int .i64 (p:Nat)]∧ReachL E.s l true p (l.drop i)∧E.ask p∧E.lx p=some t∧((t.kind≠1∧∃hi:i<l.length,t=l[i])∨(t.kind=1∧i=l.length)):=by
 obtain⟨p,h1,h2,h3,h4⟩:=h.lx hE ha;rcases h4 with⟨hi,h4⟩|⟨hi,h4⟩
 ·exact⟨p,_,h1,h2,h3,h4,.inl ⟨hno _ (List.getElem_mem hi),hi,rfl⟩⟩
 ·exact⟨p,_,h1,h2,h3,h4,.inr ⟨rfl,hi⟩⟩
theorem token_any (t:Tok) (W:World):Calls Tryz.prog 16 #[tokV t] W fun e w'=>e = .returned (.agg #[.int .i64 t.kind,.string t.value,.int .i64 t.start,.int .i64 t.stop])∧Below W.heap.size W w':=by
 have HB:=aK (below_alloc (Below.refl W.heap.size W) (.cells #[.int .i64 t.kind,.int .i64 t.start,.int .i64 t.stop,.string t.value] 51));go_enter Tryz.func16,Tryz.ntmps16
 go_wp2_with fail
 refine bodyPost_ret (v:=.agg #[.int .i64 t.kind,.string t.value,.int .i64 t.start,.int .i64 t.stop]) (by simp[results,Tryz.results16,go_sem]) rfl ⟨rfl,below_alloc HB.out _⟩
theorem TkI.row_keep {E:At} {l:List Tok} {b0:Nat} {w wr w2:World} {i:Nat} {v:Value} (h:TkI E l b0 w wr i v) (hk:Keeps E.qb E.qb wr w2):Lex.RowAt w2 b0 v ((l.take i).map Lex.cv):=by
 have hlt:=h.lt.1;have hr:=h.row;unfold Lex.RowAt at hr ⊢;refine⟨hr.1,?_⟩;rcases hr.2 with q|⟨g,cap,cur,r1,r2,r3,r4⟩
 ·exact .inl q
 ·exact .inr ⟨g,cap,cur,r1,r2,(hk.block g (Keep.shape_lt r3) (by omega) (by omega)).trans r3,r4⟩
theorem TkI.bel_keep {E:At} {l:List Tok} {b0:Nat} {w wr w2:World} {i:Nat} {v:Value} (h:TkI E l b0 w wr i v) (hk:Keeps E.qb E.qb wr w2):Below w.heap.size w w2:=h.bel.trans (hk.below h.bel.size h.wq h.wq)
theorem TkI.fin {E:At} {l:List Tok} {b0:Nat} {w wr w2 w3:World} {A:Option Addr} {c:Nat} (h:TkI E l b0 w wr l.length (.slice A l.length c)) (hk:Keeps E.qb E.qb wr w2) (hb:Below w2.heap.size w2 w3):Kd.C k56 w3 A (l.map Wr.sT).length (l.map Wr.sT)∧Below w.heap.size w w3:=by
 have hr:=h.row_keep hk;rw[List.take_length]at hr;have hb2:=h.bel_keep hk;exact⟨Kd.C_below (Wr.row_56 hr) hb,hb2.trans (hb.mono hb2.size)⟩
theorem src_far {E:At} {w w':World} {b:Nat} (h:Src E w) (hb:Below b w w') (h1:E.xb<b) (h2:E.sb<b) (h3:E.bb<b) (h4:0<b) (h5:1<b):Src E w':=
 ⟨(hb.cell (p:=⟨E.xb,0,none⟩) h1).trans h.x0,⟨fun j hj=>(hb.cell (p:=⟨E.bb,j,none⟩) h3).trans (h.tx.body j hj),⟨fun c hc=>(hb.cell (p:=⟨0,c,none⟩) h4).trans (h.tx.tabs.1 c hc),fun i hi=>⟨(hb.cell (p:=⟨1,_,_⟩) h5).trans (h.tx.tabs.2 i hi).1,(hb.cell (p:=⟨1,_,_⟩) h5).trans (h.tx.tabs.2 i hi).2⟩⟩,(hb.cell (p:=⟨E.sb,0,none⟩) h2).trans h.tx.s0,h.tx.cap,h.tx.size⟩,h.ok⟩
theorem src_keep {E:At} {w w':World} (h:Src E w) (hk:Keeps E.qb E.qb w w') (hF:Far E):Src E w':=
 ⟨hk.cell h.x0 hF.xq hF.xq,⟨h.body.keep hk hF.bq hF.bq,tabs_keep h.tx.tabs hk hF.fq hF.fq hF.aq hF.aq,hk.cell h.s0 hF.sq hF.sq,h.cap,h.size⟩,h.ok⟩
theorem TkI.more {E:At} {l:List Tok} {b0 p:Nat} {w wr w2 w4:World} {i:Nat} {v v':Value} (h:TkI E l b0 w wr i v) (hi:i<l.length) (hk:Keeps E.qb E.qb wr w2) (hv:Blk w2 E.qb 3 #[.int .i64 l[i].stop]) (hb:Below b0 w2 w4) (hr:ReachL E.s l true p (l.drop i))
  (ho:w4.ownsRow b0 56 4 v' (i+1) (Mem.toks ((l.take i).map Lex.cv)++[.int .i64 l[i].kind,.string l[i].value,.int .i64 l[i].start,.int .i64 l[i].stop])):TkI E l b0 w w4 (i+1) v':=by
 obtain⟨k1,k2,k3,k4,k5,k6,k7⟩:=h.lt;have et:l.take (i+1)=l.take i++[l[i]]:=by rw[List.take_succ_eq_append_getElem hi]
 have hli:((l.take i).map Lex.cv).length=i:=by rw[List.length_map,List.length_take];omega
 refine⟨hi,?_,src_far (src_keep h.src hk h.far) hb k2 k3 k4 k5 k6,⟨l[i].stop,Blk.below hv hb k1,?_⟩,(h.bel_keep hk).trans (hb.mono (by have:=h.hb;omega)),h.hb,h.far,⟨k1,k2,k3,k4,k5,k6,by have:=hk.size;have:=hb.size;omega⟩,h.wq⟩
 ·rw[et]
  refine Lex.row_snoc (l:=l.take i) (t:=l[i]) ?_;rw[hli,Mem.toks_snoc];exact ho
 ·rw[List.drop_eq_getElem_cons hi]at hr
  exact .next hr
theorem tokens_any (s:ByteArray) (w:World) (l:List Tok) (hc:ChainL s l true) (hs:s.size≤200000) (ht:Tabs w) :
  Calls Tryz.prog 7 #[.string s] w fun e w'=>∃A c,e = .returned (.tuple #[.slice A l.length c,.bool true])∧l.length≤c∧Kd.C k56 w' A (l.map Wr.sT).length (l.map Wr.sT)∧Below w.heap.size w w':=by
 have kb:=fun W=>print_bytes (P:=Tryz.prog) 9 23 5 Tryz.underlying9 Tryz.underlying23 Tryz.underlying5 s W;have hlen:=chain_len plL hc (Nat.zero_le _);have HSM:=aK (fun cap x hcap=>src_tx w s cap x ht (by omega) hcap)
 have HTB:=aK (fun W5 cap h1 h2 h3=>tk_begin (W5:=W5) (cap:=cap) hc hs ht h1 h2 h3);have HNO:=aK (fun t (h:t∈l)=>(chain_mem hc t h).elim fun q hq=>tok_no1 hq);clear ht hc;go_enter Tryz.func7,Tryz.ntmps7
 go_wp2_with fail
 have hcap:=grownCap_ge w s.size 0 5;generalize grownCap w s.size 0 5=cap at *;have hW3:=Lib.bytesWorld_size w 5 s;have HSMO:=aK (HSM.out cap);generalize Lib.bytesWorld w 5 s=W2 at *;refine(new_source W2.heap.size s.size cap w.heap.size _ (Blk.new _ _ _)).mono ?_;rintro e w4 ⟨rfl,x,rfl⟩;obtain⟨htx,hbw,hsz5⟩:=HSMO.out x hcap;rw[hW3];generalize (W2.alloc (.cells #[.slice (some ⟨w.heap.size,0,none⟩) s.size cap,.string ⟨#[]⟩] 48)).setCell ⟨w.heap.size+1,1,none⟩ (.string x)=W5 at *;have HI0:=aK (HTB.out W5 cap htx hbw hsz5);clear htx hbw hW3 HSMO HSM hcap kb HTB;obtain⟨E,hE⟩:∃E:At,E=⟨w.heap.size+4,w.heap.size+3,w.heap.size+2,w.heap.size+1,w.heap.size,cap,s,lxL s l true,askL s l true⟩:=⟨_,rfl⟩;rw[←hE]at HI0;have e1:w.heap.size+2+1=E.qb:=by rw[hE]
 have e2:w.heap.size+2=E.xb:=by rw[hE]
 have HEL:Aside0 (E.lx=lxL E.s l true∧E.ask=askL E.s l true):=⟨by rw[hE];exact⟨rfl,rfl⟩⟩
 clear hE
 go_wp2_with fail
 refine(lex_begin _ _).mono ?_;rintro e w6 ⟨rfl,rfl⟩;rw[hsz5,e1,e2];generalize (W5.alloc (.cells #[.pointer (some ⟨w.heap.size+1,0,none⟩)] 45)).alloc (.cells #[.int .i64 0] 3)=W6 at *;clear e1 e2 hsz5
 go_wp2_with fail
 go_loopg [2] (l.length+1) (fun k v2 wr=>∃i:Nat,k=l.length+1-i∧i≤l.length∧Aside0 (TkI E l (w.heap.size+4) w wr i v2))
 case atStart=>exact⟨0,rfl,Nat.zero_le _,HI0⟩
 case round=>
  clear HI0;obtain⟨i,hk,hil,HI⟩:=hrel;obtain⟨A,c,hv,hAc⟩:=Lex.row_slice HI.out.row;have hli:((l.take i).map Lex.cv).length=i:=by rw[List.length_map,List.length_take];omega
  rw[hli]at hv hAc;subst hv;obtain⟨p,t,hq,hrc,hask,hlx,htc⟩:=HI.out.next HEL.out.1 HEL.out.2 HNO.out;have HL:=aK (fun W (hb:Below wr.heap.size wr W)=>lex_next E W p t (HI.out.src.below hb) hask (hq.below hb hq.lt) HI.out.far hlx);have hql:=hq.lt;have HRC:=aK hrc;have HA:=aK (fun w2 hk hv=>nxA (E:=E) (w:=wr) (w2:=w2) (t:=t) hk hv);have HB:=aK (fun w2 hk hv=>nxB (E:=E) (w:=wr) (w2:=w2) (t:=t) hql hk hv);clear hq hrc hask hlx;rcases htc with⟨hkt,hi,rfl⟩|⟨hkt,rfl⟩
  ·have hkb:(l[i].kind==1)=false:=beq_eq_false_iff_ne.2 hkt
   go_wp2_with fail
   refine(HL.out _ (Below.refl _ _)).mono ?_;rintro e w2 ⟨rfl,hk2,hv2⟩;have HM:=aK (fun w4 v' hb ho=>TkI.more (w4:=w4) (v':=v') HI.out hi hk2 hv2 hb HRC.out ho);have HRW:=aK (HI.out.row_keep hk2);have hb2:w.heap.size+4≤w2.heap.size:=Nat.le_trans HI.out.lt.2.2.2.2.2.2 hk2.size;clear hk2 hv2 HA HB HL;generalize hxx:l[i]=t at *
   go_wp2_with fail
   refine(token_any t _).mono ?_;rintro e w3 ⟨rfl,hb3⟩;have hb23:Below w2.heap.size w2 w3:=(below_alloc (Below.refl _ _) _).trans (hb3.mono (by simp))
   have hrow:=HRW.out.below hb23;unfold Lex.RowAt at hrow;rw[hli]at hrow;have HOW:=aK hrow;have hb3s:=hb23.size;have HB3:=aK hb23;clear hb3 hb23 hrow HRW;obtain⟨i0,hi0,hz0,hz1,hz2⟩:=info_parts Lex.infoTok
   go_wp2_with (at_builtin;refine wpList_append_lies _ (by rfl) _ _ _ (by rfl) (w.heap.size+4) 56 i0 _ 4 40 Tryz.underlying27 hi0 hz0 hz1 hz2 rfl (by omega) (.slice A i c) i (Mem.toks ((l.take i).map Lex.cv)) (by rfl) (HOW.out.alloc _) ⟨w3.heap.size,0,none⟩ 1 1 [.int .i64 t.kind,.string t.value,.int .i64 t.start,.int .i64 t.stop] (by rfl) (by rfl) (World.news_of_block (cs:=#[.int .i64 t.kind,.string t.value,.int .i64 t.start,.int .i64 t.stop]) (t:=56) (fr:=(0,0)) (heap_alloc_new w3 _)) (by simp[Value.oneCell']) (by omega) (by simp[maxLen];omega) (by omega) (by simp;omega) (w3.heap.size+1) (by simp) ?_;intro gg cap1 w4 hown1 hgrow hat hlt4;have HN:=aK (HM.out w4 _ (((HB3.out.mono hb2).alloc (by omega) _).grown hgrow (by simp;omega) (own_base HOW.out)) hown1);clear hown1 hgrow hat)
   go_roundg (l.length+1-(i+1))
   case measure=>omega
   case rel=>exact⟨i+1,rfl,hi,HN⟩
  ·have hkb:(t.kind==1)=true:=beq_iff_eq.2 hkt
   go_wp2_with fail
   refine(HL.out _ (Below.refl _ _)).mono ?_;rintro e w2 ⟨rfl,hk2,hv2⟩;have HK2:=aK hk2;clear hk2 hv2
   go_wp2_with fail
   refine bodyPost_ret (v:=.tuple #[.slice A l.length c,.bool true]) (by simp[results,Tryz.results7,go_sem]) rfl ⟨A,c,rfl,hAc,HI.out.fin HK2.out (below_alloc (Below.refl _ _) _)⟩
end Go.Proofs.YtjolkdnfbmkjiaaGreatDoor.To
namespace Go.Proofs.YtjolkdnfbmkjiaaGreatDoor.Wr
open Go.RowKit Mem Go.Proofs.YtjolkdnfbmkjiaaGreatDoorW.PrintWords Go.Proofs.YtjolkdnfbmkjiaaGreatDoorW.PrintLast PFnTokensGaps
def szs (n:S35):Prop:=n.f1.size≤2147483647∧n.f2.size≤2147483647∧n.f3.size≤2147483647
set_option maxRecDepth 100000
set_option maxHeartbeats 8000000
theorem fits3 (k n4 n5:Int) (n1 n2 n3:ByteArray) (w:World):Calls Tryz.prog 11 #[.agg #[.int .i64 k,.string n1,.string n2,.string n3,.int .i64 n4,.int .i64 n5]] w fun e w'=>∃r:Bool,e = .returned (.bool r)∧Below w.heap.size w w'∧(r=true→szs ⟨k,n1,n2,n3,n4,n5⟩):=by
 have HB:=aK ((Below.refl w.heap.size w).alloc (Nat.le_refl _) (.cells #[.int .i64 k,.string n1,.string n2,.string n3,.int .i64 n4,.int .i64 n5] 35))
 by_cases h1:n1.size≤2147483647<;>by_cases h2:n2.size≤2147483647<;>by_cases h3:n3.size≤2147483647
 all_goals
  go_enter Tryz.func11,Tryz.ntmps11
  go_wp2_with fail
  refine bodyPost_ret (results_tmp rfl _ _ _) rfl ?_;refine⟨_,rfl,HB.out,?_⟩
  first
  | exact fun _=>⟨h1,h2,h3⟩
  | exact fun h=>by cases h
theorem fits_call {w:World} {d:List S35} {A:Option Addr} {cd:Nat} (hC:Kd.C k35 w A d.length d) (hcd:d.length≤cd):Calls Tryz.prog 4 #[.slice A d.length cd] w fun e w'=>∃r:Bool,e = .returned (.bool r)∧Below w.heap.size w w'∧(r=true→d.length≤2147483647∧∀q:Nat,szs (rd_T35 d q)):=by
 by_cases hbig:2147483647<d.length
 ·go_enter Tryz.func4,Tryz.ntmps4
  go_wp2_with fail
  refine bodyPost_ret (results_tmp rfl _ _ _) rfl ?_;exact⟨false,rfl,Below.refl _ _,fun h=>by cases h⟩
 have HC:=aK hC;clear hC;go_enter Tryz.func4,Tryz.ntmps4
 go_wp2_with fail
 go_loopg [10] (d.length+1) (fun k v10 wr=>∃i:Nat,v10 = .int .i64 i∧k=d.length+1-i∧i≤d.length∧Aside0 (Below w.heap.size w wr∧∀q:Nat,q<i→szs (rd_T35 d q)))
 case atStart=>exact⟨0,rfl,rfl,Nat.zero_le _,⟨Below.refl _ _,fun q h=>by omega⟩⟩
 case round=>
  obtain⟨i,rfl,hk,hil,H⟩:=hrel
  by_cases hi:i<d.length
  ·obtain⟨ad,e2,y0,y1,y2,y3,y4,y5⟩:=at_T35 (Kd.C_below HC.out H.out.1) (i:Int) (by omega) (by omega)
   subst e2;simp only[Int.toNat_natCast]at y0 y1 y2 y3 y4 y5;have hin:(0:Int)≤(i:Int):=by omega
   have hid:(i:Int)<(d.length:Int):=by omega
   have hA:=World.block_lt_of_cell? wr _ y0;generalize hn:rd_T35 d (i:Int)=n at *;obtain⟨k,n1,n2,n3,n4,n5⟩:=n;simp only at y0 y1 y2 y3 y4 y5;have HB:=aK (H.out.1.trans (((Below.refl wr.heap.size wr).alloc (Nat.le_refl _) (.cells #[.int .i64 k,.string n1,.string n2,.string n3,.int .i64 n4,.int .i64 n5] 35)).mono H.out.1.size));have HN:=aK hn;clear hn
   go_wp2_with fail
   refine(fits3 k n4 n5 n1 n2 n3 _).mono ?_;rintro e w2 ⟨r,rfl,hb,hr⟩;have HB2:=aK (HB.out.trans (hb.mono HB.out.size));have HR:=aK hr;clear hb hr y0 y1 y2 y3 y4 y5 hA;cases r with
   | false=>
    go_wp2_with fail
    refine bodyPost_ret (results_tmp rfl _ _ _) rfl ?_;exact⟨false,rfl,HB2.out,fun h=>by cases h⟩
   | true=>
    go_wp2_with fail
    go_roundg (d.length+1-(i+1))
    case measure=>omega
    case rel=>
     refine⟨i+1,by go_num,rfl,hi,⟨HB2.out,fun q hq=>?_⟩⟩
     rcases Nat.lt_succ_iff_lt_or_eq.1 hq with h1|rfl
     ·exact H.out.2 q h1
     ·rw[HN.out];exact HR.out (by first|rfl|trivial)
  ·obtain rfl:i=d.length:=by omega
   go_wp2_with fail
   refine bodyPost_ret (results_tmp rfl _ _ _) rfl ?_;refine⟨true,rfl,H.out.1,fun _=>⟨by omega,fun q=>?_⟩⟩
   rcases Nat.lt_or_ge q d.length with hq|hq
   ·exact H.out.2 q hq
   ·have e:rd_T35 d (q:Int)=z35:=by
     unfold rd_T35;rw[Int.toNat_natCast,List.getD_eq_getElem?_getD,List.getElem?_eq_none hq];rfl
    rw[e];exact⟨by decide,by decide,by decide⟩
theorem same_call {w:World} {t u:List Mod.Tok} {A1 A2:Option Addr} {c1 c2:Nat} (h:t.map (fun x=>(x.kind,x.value))=u.map (fun x=>(x.kind,x.value))) (hC1:Kd.C k56 w A1 (t.map sT).length (t.map sT)) (hc1:t.length≤c1) (hC2:Kd.C k56 w A2 (u.map sT).length (u.map sT)) (hc2:u.length≤c2) (hb:t.length≤2147483647) :
  Calls Tryz.prog 10 #[.slice A1 t.length c1,.slice A2 u.length c2,.bool false] w fun e w'=>e = .returned (.bool true)∧Drawn0 w w':=by
 have hl:t.length=u.length:=by simpa using congrArg List.length h
 have he:∀i:Nat,i<t.length→∃(k s1 s2 s3 s4:Int) (v:ByteArray),rd_T56 (t.map sT) (i:Int)=⟨k,v,s1,s2⟩∧rd_T56 (u.map sT) (i:Int)=⟨k,v,s3,s4⟩:=by
  intro i hi;have hu:i<u.length:=by omega
  have e1:rd_T56 (t.map sT) (i:Int)=sT t[i]:=by
   unfold rd_T56;rw[Int.toNat_natCast,List.getD_eq_getElem?_getD,List.getElem?_map,List.getElem?_eq_getElem hi];rfl
  have e2:rd_T56 (u.map sT) (i:Int)=sT u[i]:=by
   unfold rd_T56;rw[Int.toNat_natCast,List.getD_eq_getElem?_getD,List.getElem?_map,List.getElem?_eq_getElem hu];rfl
  have e3:(t[i].kind,t[i].value)=(u[i].kind,u[i].value):=by
   have:=congrArg (fun l=>l[i]?) h
   simpa[List.getElem?_map,List.getElem?_eq_getElem hi,List.getElem?_eq_getElem hu]using this
  rw[e1,e2];have e4:=(Prod.mk.inj e3).1;have e5:=(Prod.mk.inj e3).2;exact⟨t[i].kind,_,_,_,_,t[i].value,rfl,by rw[e4,e5];rfl⟩
 rw[List.length_map]at hC1 hC2;rw[←hl]at hC2 hc2 ⊢;have HC1:=aK hC1;have HC2:=aK hC2;have HE:=aK he;clear h hC1 hC2 he hl;go_enter Tryz.func10,Tryz.ntmps10
 go_wp2_with fail
 go_loopg [7] (t.length+1) (fun k v7 wr=>∃i:Nat,v7 = .int .i64 i∧k=t.length+1-i∧i≤t.length∧Drawn0 w wr)
 case atStart=>exact⟨0,rfl,rfl,Nat.zero_le _,Drawn0.refl _⟩
 case round=>
  obtain⟨i,rfl,hk,hil,⟨m1,rfl⟩⟩:=hrel
  by_cases hi:i<t.length
  ·obtain⟨a1,e1,y0,y1,y2,y3⟩:=at_T56 HC1.out (i:Int) (by omega) (by omega)
   obtain⟨a2,e2,z0,z1,z2,z3⟩:=at_T56 HC2.out (i:Int) (by omega) (by omega)
   subst e1 e2;simp only[Int.toNat_natCast]at y0 y1 z0 z1;obtain⟨k,s1,s2,s3,s4,v,f1,f2⟩:=HE.out i hi;rw[f1]at y0 y1;rw[f2]at z0 z1;have hin:(0:Int)≤(i:Int):=by omega
   have hid:(i:Int)<(t.length:Int):=by omega
   clear y2 y3 z2 z3 f1 f2
   go_wp2_with fail
   repeat (go_quiet (fail);try go_wp2_with fail)
   go_roundg (t.length+1-(i+1))
   case measure=>omega
   case rel=>exact⟨i+1,by go_num,rfl,hi,vD⟩
  ·obtain rfl:i=t.length:=by omega
   go_wp2_with fail
   repeat (go_quiet (fail);try go_wp2_with fail)
   refine bodyPost_ret (results_tmp rfl _ _ _) rfl ?_;exact⟨rfl,vD⟩
end Go.Proofs.YtjolkdnfbmkjiaaGreatDoor.Wr
