import Derived.Test.YtjeldgkbiihokaaGreatDoorVE6
import Derived.Test.YtjeldgkbiihokaaGreatDoorVE7
import Derived.Test.YtjeldgkbiihokaaGreatDoorVF4
import Derived.Test.YtjeldgkbiihokaaGreatDoorVB7
import Derived.Test.YtjeldgkbiihokaaGreatDoorVC1
set_option maxRecDepth 100000
set_option maxHeartbeats 8000000
set_option linter.unusedVariables false
set_option linter.unusedSimpArgs false
namespace Go.Proofs.YtjeldgkbiihokaaGreatDoor.LawV
open Go.RowKit Go.Proofs.YtjeldgkbiihokaaGreatDoorW.PrintWords Go.Proofs.YtjeldgkbiihokaaGreatDoorW.PrintLast Go.Proofs.YtjeldgkbiihokaaGreatDoor.PFnReadValue Go.Proofs.YtjeldgkbiihokaaGreatDoor.Mod Go.Proofs.YtjeldgkbiihokaaGreatDoor.Tree Go.Proofs.YtjeldgkbiihokaaGreatDoor.Rel Go.Proofs.YtjeldgkbiihokaaGreatDoor.Rp Go.Proofs.YtjeldgkbiihokaaGreatDoor.Env Go.Proofs.YtjeldgkbiihokaaGreatDoor.Take Go.Proofs.YtjeldgkbiihokaaGreatDoor.Par Go.Proofs.YtjeldgkbiihokaaGreatDoor.Lx
theorem short_le {k : Nat} {s : ByteArray} (h : laws_short9.f k s = some true) : s.size ≤ 2000 := by
 unfold laws_short9.f at h
 by_cases h1 : (s.size : Int) ≤ 2000
 ·omega
 ·rw [if_neg h1] at h; cases h
theorem lx_at {s : ByteArray} {l : List Tok} {whole : Bool} (hc : ChainL s l whole) (hs : s.size ≤ 2000) : LxAt s (lxL s l whole) (askL s l whole) :=
 ⟨fun pb qb xb sb bb cap => okl ⟨pb, qb, xb, sb, bb, cap, s, lxL s l whole, askL s l whole⟩ l whole hc hs rfl rfl, .inl ⟨l, .first hc⟩⟩
theorem answer_goal {s : ByteArray} {l : List Tok} {whole : Bool} (cst : Bool) (hc : ChainL s l whole) : (lxL s l whole 0).bind (nVal (lxL s l whole) cst 200000) = Answer s cst l whole := by
 rw [lxL_reach plL (.first hc)]
 exact (agree_val plL cst 200000 0 l (.first hc)).1
def s54 (x : Nd) : S54 := ⟨x.kind, x.name, x.alias, x.text, x.flag, x.size⟩
theorem cells_54 (y : NL) : cellsOf y = (y.map s54).flatMap c54 := by
 unfold cellsOf
 rw [List.flatMap_map]
 rfl
theorem own_nodes {w : World} {base : Nat} {d : Value} {y : NL} (h : w.ownsRow base TN 6 d y.length (cellsOf y)) : ∃ A c, d = .slice A (y.map s54).length c ∧ (y.map s54).length ≤ c ∧ Kd.C k54 w A (y.map s54).length (y.map s54) := by
 have h' : w.ownsRow base TN 6 d (y.map s54).length ((y.map s54).flatMap c54) := by
  rw [← cells_54, List.length_map]
  exact h
 have h2 := own_54 h'
 obtain ⟨A, c, rfl⟩ := Kd.R_slice h2
 exact ⟨A, c, rfl, (Kd.R_reads' h2).2.1, (Kd.R_reads' h2).2.2⟩
theorem lk_alike {ns : List S54} {y : NL} (h : Lk ns y) : ∀ i : Nat, i < (y.map s54).length → alike (rd_T54 (y.map s54) (i : Int)) (rd_T54 ns (i : Int)) := by
 induction h with
 | nil => intro i hi; simp at hi
 | @cons a b xs ys hab hrest ih =>
  intro i hi
  rcases i with _ | i
  ·obtain ⟨h0, h1, h2, h3, h4, h5⟩ := hab
   show alike (s54 b) a
   exact ⟨h0.symm, h1.symm, h2.symm, h3.symm, fun hk => (h4 (h0 ▸ hk)).symm, h5.symm⟩
  ·have e := ih i (by simpa using hi)
   exact e
theorem door_false (s : ByteArray) (lx : Nat → Option Tok) (ask : Nat → Prop) (cb : Nat) (w : World) (hc : w.cell? ⟨cb, 0, none⟩ = some (.bool false)) (hx : LxAt s lx ask) (ht : Tabs w) (hs : s.size ≤ 2000) :
  Calls Tryz.prog 5 #[.string s, .pointer (some ⟨cb, 0, none⟩)] w fun e w' => Below w.heap.size w w' ∧
   ((∃ y t d, (lx 0).bind (nVal lx false 200000) = some (y, t) ∧ e = .returned (.tuple #[d, .int .i64 t.start, .bool true]) ∧ w'.ownsRow w.heap.size TN 6 d y.length (cellsOf y) ∧ y.length ≤ 2001) ∨
    ((lx 0).bind (nVal lx false 200000) = none ∧ e = .returned (.tuple #[.slice none 0 0, .int .i64 0, .bool false]))) := by
 have HI := aK (impl_value s lx ask false w hx ht hs)
 clear hx ht
 go_enter Tryz.func5, Tryz.ntmps5
 go_wp2_with fail
 refine HI.out.mono ?_
 rintro e w1 ⟨hb, ⟨y, t, d, hg, rfl, ho, hn⟩ | ⟨hg, rfl⟩⟩
 ·have HR := aK (⟨hb, hg, ho, hn⟩ : Below w.heap.size w w1 ∧ (lx 0).bind (nVal lx false 200000) = some (y, t) ∧ w1.ownsRow w.heap.size TN 6 d y.length (cellsOf y) ∧ y.length ≤ 2001)
  clear hb hg ho hn
  go_wp2_with fail
  refine bodyPost_ret (v := .tuple #[d, .int .i64 t.start, .bool true]) ?_ rfl ⟨HR.out.1, .inl ⟨y, t, d, HR.out.2.1, rfl, HR.out.2.2⟩⟩
  simp [results, Tryz.results5, go_sem]
 ·have HR := aK (⟨hb, hg⟩ : Below w.heap.size w w1 ∧ (lx 0).bind (nVal lx false 200000) = none)
  clear hb hg
  go_wp2_with fail
  refine bodyPost_ret (v := .tuple #[.slice none 0 0, .int .i64 0, .bool false]) ?_ rfl ⟨HR.out.1, .inr ⟨HR.out.2, rfl⟩⟩
  simp [results, Tryz.results5, go_sem]
theorem read9_1 (s : ByteArray) (cb : Nat) (w : World) (hc : w.cell? ⟨cb, 0, none⟩ = some (.bool false)) (ht : Tabs w) :
  Calls Tryz.prog 4 #[.string s, .int .i64 1, .func (.func 5) #[] #[.pointer (some ⟨cb, 0, none⟩)]] w fun e w' => e = .returned (.bool true) ∧ Below w.heap.size w w' := by
 obtain ⟨k, r, hr⟩ := NameP.short9_total s
 have HC := aK hc
 have HT := aK ht
 have HS := aK (fun w => laws_short9.calls k s r w hr)
 have HLE := aK (fun h : r = true => short_le (h ▸ hr))
 clear hc ht hr
 go_enter Tryz.func4, Tryz.ntmps4
 go_wp2_with fail
 refine (HS.out _).mono ?_
 rintro e w1 ⟨rfl, ⟨nd, rfl⟩⟩
 cases r with
 | false =>
  go_wp2_with fail
  go_ret
  exact ⟨rfl, pw_below_drewN (Below.refl _ _) _⟩
 | true =>
  have hs := HLE.out rfl
  have HRD := aK (read_1 s (w.drewN nd) hs)
  have HBN := aK (pw_below_drewN (Below.refl w.heap.size w) nd)
  go_wp2_with fail
  refine HRD.out.mono ?_
  rintro e w2 ⟨hb2, v, next, ok, sure, rfl, hres⟩
  have HB2 := aK (HBN.out.trans hb2)
  clear hb2
  cases sure with
  | false =>
   clear hres
   go_wp2_with fail
   go_ret
   exact ⟨rfl, HB2.out⟩
  | true =>
   obtain ⟨l, whole, hch, hl, hcase⟩ := hres rfl
   have hdd := door_false s (lxL s l whole) (askL s l whole) cb w2 (pw_cell_below HB2.out HC.out) (lx_at hch hs) (Utf8Tabs_below HT.out HB2.out) hs
   rw [answer_goal false hch] at hdd
   have HDD := aK hdd
   clear hdd hres hch
   rcases hcase with ⟨rfl, ha⟩ | ⟨rfl, ns, x, t, hR, hnl, hlk, ha, hnx⟩
   ·have HA := aK ha
    clear ha
    go_wp2_with fail
    refine HDD.out.mono ?_
    rintro e w3 ⟨hb3, ⟨y, t, d, hg, rfl, ho, hn⟩ | ⟨hg, rfl⟩⟩
    ·have h := HA.out.symm.trans hg; cases h
    ·have HB3 := aK (HB2.out.trans (hb3.mono HB2.out.size))
     clear hb3 hg
     go_wp2_with fail
     go_ret
     exact ⟨rfl, HB3.out⟩
   ·have HA := aK ha
    have HR := aK hR
    have HLK := aK hlk
    have HNX := aK hnx
    clear ha hR hlk hnx
    go_wp2_with fail
    refine HDD.out.mono ?_
    rintro e w3 ⟨hb3, ⟨y, t', d, hg, rfl, ho, hn⟩ | ⟨hg, rfl⟩⟩
    ·have h := HA.out.symm.trans hg
     obtain ⟨rfl, rfl⟩ := Prod.mk.inj (Option.some.inj h)
     obtain ⟨A, c, rfl, hAc, hA⟩ := own_nodes ho
     obtain ⟨B, c2, e2⟩ := Kd.R_slice HR.out
     subst e2
     have hB := (Kd.R_reads' (Kd.R_below HR.out hb3)).2.2
     have hlen : ns.length = (x.map s54).length := by rw [HLK.out.len, List.length_map]
     rw [hlen] at hB
     have hsd := same_doc A B c c2 (x.map s54) ns w3 hA hB (by rw [List.length_map]; omega) (lk_alike HLK.out)
     rw [List.length_map] at hsd
     have HSD := aK hsd
     have HB3 := aK (HB2.out.trans (hb3.mono HB2.out.size))
     rw [hlen]
     clear hsd hb3 hg ho hn h hA hB hAc HDD HRD
     go_wp2_with fail
     refine HSD.out.mono ?_
     rintro e w4 ⟨rfl, hb4⟩
     have HB4 := aK (HB3.out.trans (hb4.mono HB3.out.size))
     have hnx := HNX.out
     clear hb4 HNX
     by_cases h0 : next < 0
     ·clear hnx
      go_wp2_with fail
      go_ret
      exact ⟨rfl, HB4.out⟩
     ·obtain rfl : next = t.start := hnx.resolve_left h0
      clear hnx
      go_wp2_with fail
      go_ret
      exact ⟨rfl, HB4.out⟩
    ·have h := HA.out.symm.trans hg; cases h
theorem door_true (s : ByteArray) (lx : Nat → Option Tok) (ask : Nat → Prop) (cb : Nat) (w : World) (hc : w.cell? ⟨cb, 0, none⟩ = some (.bool true)) (hx : LxAt s lx ask) (ht : Tabs w) (hs : s.size ≤ 2000) :
  Calls Tryz.prog 5 #[.string s, .pointer (some ⟨cb, 0, none⟩)] w fun e w' => Below w.heap.size w w' ∧
   ((∃ y t d, (lx 0).bind (nVal lx true 200000) = some (y, t) ∧ e = .returned (.tuple #[d, .int .i64 t.start, .bool true]) ∧ w'.ownsRow w.heap.size TN 6 d y.length (cellsOf y) ∧ y.length ≤ 2001) ∨
    ((lx 0).bind (nVal lx true 200000) = none ∧ e = .returned (.tuple #[.slice none 0 0, .int .i64 0, .bool false]))) := by
 have HI := aK (impl_value s lx ask true w hx ht hs)
 clear hx ht
 go_enter Tryz.func5, Tryz.ntmps5
 go_wp2_with fail
 refine HI.out.mono ?_
 rintro e w1 ⟨hb, ⟨y, t, d, hg, rfl, ho, hn⟩ | ⟨hg, rfl⟩⟩
 ·have HR := aK (⟨hb, hg, ho, hn⟩ : Below w.heap.size w w1 ∧ (lx 0).bind (nVal lx true 200000) = some (y, t) ∧ w1.ownsRow w.heap.size TN 6 d y.length (cellsOf y) ∧ y.length ≤ 2001)
  clear hb hg ho hn
  go_wp2_with fail
  refine bodyPost_ret (v := .tuple #[d, .int .i64 t.start, .bool true]) ?_ rfl ⟨HR.out.1, .inl ⟨y, t, d, HR.out.2.1, rfl, HR.out.2.2⟩⟩
  simp [results, Tryz.results5, go_sem]
 ·have HR := aK (⟨hb, hg⟩ : Below w.heap.size w w1 ∧ (lx 0).bind (nVal lx true 200000) = none)
  clear hb hg
  go_wp2_with fail
  refine bodyPost_ret (v := .tuple #[.slice none 0 0, .int .i64 0, .bool false]) ?_ rfl ⟨HR.out.1, .inr ⟨HR.out.2, rfl⟩⟩
  simp [results, Tryz.results5, go_sem]
theorem read9_2 (s : ByteArray) (cb : Nat) (w : World) (hc : w.cell? ⟨cb, 0, none⟩ = some (.bool true)) (ht : Tabs w) :
  Calls Tryz.prog 4 #[.string s, .int .i64 2, .func (.func 5) #[] #[.pointer (some ⟨cb, 0, none⟩)]] w fun e w' => e = .returned (.bool true) ∧ Below w.heap.size w w' := by
 obtain ⟨k, r, hr⟩ := NameP.short9_total s
 have HC := aK hc
 have HT := aK ht
 have HS := aK (fun w => laws_short9.calls k s r w hr)
 have HLE := aK (fun h : r = true => short_le (h ▸ hr))
 clear hc ht hr
 go_enter Tryz.func4, Tryz.ntmps4
 go_wp2_with fail
 refine (HS.out _).mono ?_
 rintro e w1 ⟨rfl, ⟨nd, rfl⟩⟩
 cases r with
 | false =>
  go_wp2_with fail
  go_ret
  exact ⟨rfl, pw_below_drewN (Below.refl _ _) _⟩
 | true =>
  have hs := HLE.out rfl
  have HRD := aK (read_2 s (w.drewN nd) hs)
  have HBN := aK (pw_below_drewN (Below.refl w.heap.size w) nd)
  go_wp2_with fail
  refine HRD.out.mono ?_
  rintro e w2 ⟨hb2, v, next, ok, sure, rfl, hres⟩
  have HB2 := aK (HBN.out.trans hb2)
  clear hb2
  cases sure with
  | false =>
   clear hres
   go_wp2_with fail
   go_ret
   exact ⟨rfl, HB2.out⟩
  | true =>
   obtain ⟨l, whole, hch, hl, hcase⟩ := hres rfl
   have hdd := door_true s (lxL s l whole) (askL s l whole) cb w2 (pw_cell_below HB2.out HC.out) (lx_at hch hs) (Utf8Tabs_below HT.out HB2.out) hs
   rw [answer_goal true hch] at hdd
   have HDD := aK hdd
   clear hdd hres hch
   rcases hcase with ⟨rfl, ha⟩ | ⟨rfl, ns, x, t, hR, hnl, hlk, ha, hnx⟩
   ·have HA := aK ha
    clear ha
    go_wp2_with fail
    refine HDD.out.mono ?_
    rintro e w3 ⟨hb3, ⟨y, t, d, hg, rfl, ho, hn⟩ | ⟨hg, rfl⟩⟩
    ·have h := HA.out.symm.trans hg; cases h
    ·have HB3 := aK (HB2.out.trans (hb3.mono HB2.out.size))
     clear hb3 hg
     go_wp2_with fail
     go_ret
     exact ⟨rfl, HB3.out⟩
   ·have HA := aK ha
    have HR := aK hR
    have HLK := aK hlk
    have HNX := aK hnx
    clear ha hR hlk hnx
    go_wp2_with fail
    refine HDD.out.mono ?_
    rintro e w3 ⟨hb3, ⟨y, t', d, hg, rfl, ho, hn⟩ | ⟨hg, rfl⟩⟩
    ·have h := HA.out.symm.trans hg
     obtain ⟨rfl, rfl⟩ := Prod.mk.inj (Option.some.inj h)
     obtain ⟨A, c, rfl, hAc, hA⟩ := own_nodes ho
     obtain ⟨B, c2, e2⟩ := Kd.R_slice HR.out
     subst e2
     have hB := (Kd.R_reads' (Kd.R_below HR.out hb3)).2.2
     have hlen : ns.length = (x.map s54).length := by rw [HLK.out.len, List.length_map]
     rw [hlen] at hB
     have hsd := same_doc A B c c2 (x.map s54) ns w3 hA hB (by rw [List.length_map]; omega) (lk_alike HLK.out)
     rw [List.length_map] at hsd
     have HSD := aK hsd
     have HB3 := aK (HB2.out.trans (hb3.mono HB2.out.size))
     rw [hlen]
     clear hsd hb3 hg ho hn h hA hB hAc HDD HRD
     go_wp2_with fail
     refine HSD.out.mono ?_
     rintro e w4 ⟨rfl, hb4⟩
     have HB4 := aK (HB3.out.trans (hb4.mono HB3.out.size))
     have hnx := HNX.out
     clear hb4 HNX
     by_cases h0 : next < 0
     ·clear hnx
      go_wp2_with fail
      go_ret
      exact ⟨rfl, HB4.out⟩
     ·obtain rfl : next = t.start := hnx.resolve_left h0
      clear hnx
      go_wp2_with fail
      go_ret
      exact ⟨rfl, HB4.out⟩
    ·have h := HA.out.symm.trans hg; cases h
theorem law (a : ByteArray) (c : Bool) (w : World) (hT : Lib.Utf8Tabs 0 1 w) (hs : a.size ≤ 140737488351232) :
  Calls Tryz.prog 3 #[.string a, .bool c] w fun e w' => e = .returned (.bool true) ∧ Below w.heap.size w w' := by
 have hB : Below w.heap.size w (w.alloc (.cells #[.bool c] 4)) := below_alloc (Below.refl _ _) _
 have hc : (w.alloc (.cells #[.bool c] 4)).cell? ⟨w.heap.size, 0, none⟩ = some (.bool c) := (Blk.cell (Blk.new w 4 #[.bool c]) 0).trans rfl
 have HT := aK (Utf8Tabs_below hT hB)
 have HB := aK hB
 have HC := aK hc
 clear hT hB hc
 by_cases hbig : 2147483647 < a.size
 ·have hb : (2147483647 : Int) < (a.size : Int) := by omega
  go_enter Tryz.func3, Tryz.ntmps3
  go_wp2_with fail
  go_ret
  exact ⟨rfl, HB.out⟩
 ·have hb : ¬ (2147483647 : Int) < (a.size : Int) := by omega
  cases c with
  | false =>
   have HR := aK (read9_1 a w.heap.size _ HC.out HT.out)
   go_enter Tryz.func3, Tryz.ntmps3
   go_wp2_with fail
   refine HR.out.mono ?_
   rintro e w1 ⟨rfl, hb1⟩
   have HB1 := aK (HB.out.trans (hb1.mono HB.out.size))
   clear hb1
   go_wp2_with fail
   go_ret
   exact ⟨rfl, HB1.out⟩
  | true =>
   have HR := aK (read9_2 a w.heap.size _ HC.out HT.out)
   go_enter Tryz.func3, Tryz.ntmps3
   go_wp2_with fail
   refine HR.out.mono ?_
   rintro e w1 ⟨rfl, hb1⟩
   have HB1 := aK (HB.out.trans (hb1.mono HB.out.size))
   clear hb1
   go_wp2_with fail
   go_ret
   exact ⟨rfl, HB1.out⟩
end Go.Proofs.YtjeldgkbiihokaaGreatDoor.LawV
