import Derived.Test.YtjoagdldbmlenaaGreatDoorVE9
import Derived.Test.YtjoagdldbmlenaaGreatDoorVE7
import Derived.Test.YtjoagdldbmlenaaGreatDoorVF4
import Derived.Test.YtjoagdldbmlenaaGreatDoorVB7
import Derived.Test.YtjoagdldbmlenaaGreatDoorVC1
set_option maxRecDepth 100000
set_option maxHeartbeats 8000000
set_option linter.unusedVariables false
set_option linter.unusedSimpArgs false
namespace Go.Proofs.YtjoagdldbmlenaaGreatDoor.LawD
open Go.RowKit Go.Proofs.YtjoagdldbmlenaaGreatDoorW.PrintWords Go.Proofs.YtjoagdldbmlenaaGreatDoorW.PrintLast PFnReadDirectives Go.Proofs.YtjoagdldbmlenaaGreatDoor.Mod Tree Rel Rp Env Take Par Lx
theorem short_le {k : Nat} {s : ByteArray} (h : laws_short9.f k s = some true) : s.size ≤ 2000 := by
 unfold laws_short9.f at h
 by_cases h1 : (s.size : Int) ≤ 2000
 ·omega
 ·rw [if_neg h1] at h; cases h
theorem lx_at {s : ByteArray} {l : List Tok} {whole : Bool} (hc : ChainL s l whole) (hs : s.size ≤ 2000) : LxAt s (lxL s l whole) (askL s l whole) :=
 ⟨fun pb qb xb sb bb cap => okl ⟨pb, qb, xb, sb, bb, cap, s, lxL s l whole, askL s l whole⟩ l whole hc hs rfl rfl, .inl ⟨l, .first hc⟩⟩
theorem answer_goal {s : ByteArray} {l : List Tok} {whole : Bool} (hc : ChainL s l whole) : (lxL s l whole 0).bind (nDirs (lxL s l whole) 200000 200000) = Answer s l whole := by
 rw [lxL_reach plL (.first hc)]
 exact (agree_dirs plL 200000 200000 0 l (.first hc)).1
def s54 (x : Nd) : S51 := ⟨x.kind, x.name, x.alias, x.text, x.flag, x.size⟩
theorem cells_54 (y : NL) : cellsOf y = (y.map s54).flatMap c54 := by
 unfold cellsOf
 rw [List.flatMap_map]
 rfl
theorem own_nodes {w : World} {base : Nat} {d : Value} {y : NL} (h : w.ownsRow base TN 6 d y.length (cellsOf y)) : ∃ A c, d = .slice A (y.map s54).length c ∧ (y.map s54).length ≤ c ∧ Kd.C k51 w A (y.map s54).length (y.map s54) := by
 have h' : w.ownsRow base TN 6 d (y.map s54).length ((y.map s54).flatMap c54) := by
  rw [← cells_54, List.length_map]
  exact h
 have h2 := own_54 h'
 obtain ⟨A, c, rfl⟩ := Kd.R_slice h2
 exact ⟨A, c, rfl, (Kd.R_reads' h2).2.1, (Kd.R_reads' h2).2.2⟩
theorem lk_alike {ns : List S51} {y : NL} (h : Lk ns y) : ∀ i : Nat, i < (y.map s54).length → alike (rd_T51 (y.map s54) (i : Int)) (rd_T51 ns (i : Int)) := by
 induction h with
 | nil => intro i hi; simp at hi
 | @cons a b xs ys hab hrest ih =>
  intro i hi
  rcases i with _ | i
  ·obtain ⟨h0, h1, h2, h3, h4, h5⟩ := hab
   show alike (s54 b) a
   exact ⟨h0.symm, h1.symm, h2.symm, h3.symm, fun hk => (h4 (h0 ▸ hk)).symm, h5.symm⟩
  ·have e := ih i (by simpa using hi)
   exact e
theorem read9_5 (s : ByteArray) (w : World) (ht : Tabs w) :
  Calls Tryz.prog 4 #[.string s, .int .i64 5, .func (.func 5) #[] #[]] w fun e w' => e = .returned (.bool true) ∧ Below w.heap.size w w' := by
 obtain ⟨k, r, hr⟩ := NameP.short9_total s
 have HT := aK ht
 have HS := aK (fun w => laws_short9.calls k s r w hr)
 have HLE := aK (fun h : r = true => short_le (h ▸ hr))
 clear ht hr
 go_enter Tryz.func4, Tryz.ntmps4
 go_wp2_with fail
 refine (HS.out _).mono ?_
 rintro e w1 ⟨rfl, ⟨nd, rfl⟩⟩
 cases r with
 | false =>
  go_wp2_with fail
  go_ret
  exact ⟨rfl, pw_below_drewN (Below.refl _ _) _⟩
 | true =>
  have hs := HLE.out rfl
  have HRD := aK (read_5 s (w.drewN nd) hs)
  have HBN := aK (pw_below_drewN (Below.refl w.heap.size w) nd)
  go_wp2_with fail
  refine HRD.out.mono ?_
  rintro e w2 ⟨hb2, v, next, ok, sure, rfl, hres⟩
  have HB2 := aK (HBN.out.trans hb2)
  clear hb2
  cases sure with
  | false =>
   clear hres
   go_wp2_with fail
   go_ret
   exact ⟨rfl, HB2.out⟩
  | true =>
   obtain ⟨l, whole, hch, hl, hcase⟩ := hres rfl
   have hdd := impl_dirs s (lxL s l whole) (askL s l whole) w2 (lx_at hch hs) (Utf8Tabs_below HT.out HB2.out) hs
   rw [answer_goal hch] at hdd
   have HDD := aK hdd
   clear hdd hres hch
   rcases hcase with ⟨rfl, ha⟩ | ⟨rfl, ns, x, t, hR, hnl, hlk, ha, hnx⟩
   ·have HA := aK ha
    clear ha
    go_wp2_with fail
    refine HDD.out.mono ?_
    rintro e w3 ⟨hb3, ⟨y, t, d, hg, rfl, ho, hn⟩ | ⟨hg, rfl⟩⟩
    ·have h := HA.out.symm.trans hg; cases h
    ·have HB3 := aK (HB2.out.trans (hb3.mono HB2.out.size))
     clear hb3 hg
     go_wp2_with fail
     go_ret
     exact ⟨rfl, HB3.out⟩
   ·have HA := aK ha
    have HR := aK hR
    have HLK := aK hlk
    have HNX := aK hnx
    clear ha hR hlk hnx
    go_wp2_with fail
    refine HDD.out.mono ?_
    rintro e w3 ⟨hb3, ⟨y, t', d, hg, rfl, ho, hn⟩ | ⟨hg, rfl⟩⟩
    ·have h := HA.out.symm.trans hg
     obtain ⟨rfl, rfl⟩ := Prod.mk.inj (Option.some.inj h)
     clear h hg HA HDD HRD
     have hk := HLK.out
     clear HLK
     generalize x.flatten = z at ho hn hk
     have HLK := aK hk
     obtain ⟨A, c, rfl, hAc, hA⟩ := own_nodes ho
     obtain ⟨B, c2, e2⟩ := Kd.R_slice HR.out
     subst e2
     have hB := (Kd.R_reads' (Kd.R_below HR.out hb3)).2.2
     have hlen : ns.length = (z.map s54).length := by rw [HLK.out.len, List.length_map]
     rw [hlen] at hB
     have hsd := same_doc A B c c2 (z.map s54) ns w3 hA hB (by rw [List.length_map]; omega) (lk_alike HLK.out)
     rw [List.length_map] at hsd
     have HSD := aK hsd
     have HB3 := aK (HB2.out.trans (hb3.mono HB2.out.size))
     rw [hlen]
     clear hsd hb3 ho hn hk hA hB hAc
     go_wp2_with fail
     refine HSD.out.mono ?_
     rintro e w4 ⟨rfl, hb4⟩
     have HB4 := aK (HB3.out.trans (hb4.mono HB3.out.size))
     have hnx := HNX.out
     clear hb4 HNX
     by_cases h0 : next < 0
     ·clear hnx
      go_wp2_with fail
      go_ret
      exact ⟨rfl, HB4.out⟩
     ·obtain rfl : next = t.start := hnx.resolve_left h0
      clear hnx
      go_wp2_with fail
      go_ret
      exact ⟨rfl, HB4.out⟩
    ·have h := HA.out.symm.trans hg; cases h
theorem law (a : ByteArray) (w : World) (hT : Lib.Utf8Tabs 0 1 w) (hs : a.size ≤ 140737488351232) :
  Calls Tryz.prog 3 #[.string a] w fun e w' => e = .returned (.bool true) ∧ Below w.heap.size w w' := by
 have HR := aK (read9_5 a w hT)
 clear hT
 by_cases hbig : 2147483647 < a.size
 ·have hb : (2147483647 : Int) < (a.size : Int) := by omega
  go_enter Tryz.func3, Tryz.ntmps3
  go_wp2_with fail
  go_ret
  exact ⟨rfl, Below.refl _ _⟩
 ·have hb : ¬ (2147483647 : Int) < (a.size : Int) := by omega
  go_enter Tryz.func3, Tryz.ntmps3
  go_wp2_with fail
  refine HR.out.mono ?_
  rintro e w1 ⟨rfl, hb1⟩
  have HB1 := aK hb1
  clear hb1
  go_wp2_with fail
  go_ret
  exact ⟨rfl, HB1.out⟩
end Go.Proofs.YtjoagdldbmlenaaGreatDoor.LawD
