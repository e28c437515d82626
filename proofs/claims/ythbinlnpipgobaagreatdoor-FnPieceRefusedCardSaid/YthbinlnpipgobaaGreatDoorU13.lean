import Derived.Test.YthbinlnpipgobaaGreatDoorU12
namespace Go.Proofs.YthbinlnpipgobaaGreatDoor.Par
set_option linter.unusedVariables false
set_option linter.unusedSimpArgs false
open Go.RowKit Go.Proofs.YthbinlnpipgobaaGreatDoorW.PrintWords Go.Proofs.YthbinlnpipgobaaGreatDoor.Keep Go.Proofs.YthbinlnpipgobaaGreatDoor.Mod Go.Proofs.YthbinlnpipgobaaGreatDoor.Sim Go.Proofs.YthbinlnpipgobaaGreatDoor.Four Go.Proofs.YthbinlnpipgobaaGreatDoor.Step Go.Proofs.YthbinlnpipgobaaGreatDoor.Env Go.Proofs.YthbinlnpipgobaaGreatDoor.Err Go.Proofs.YthbinlnpipgobaaGreatDoor.Lx Go.Proofs.YthbinlnpipgobaaGreatDoor.Ast Go.Proofs.YthbinlnpipgobaaGreatDoor.New Go.Proofs.YthbinlnpipgobaaGreatDoor.Tree Go.Proofs.YthbinlnpipgobaaGreatDoor.Fuel

/-- The first half has been read. -/
structure FHead (E : At) (L : Nat) (st : Tok → Option (NL × Tok)) (n : Nat) (w : World) (goal : Option (NL × Tok)) (al : Option Addr) (sa sn : ByteArray) (n2 : Nat) (t2 : Tok) (w3 : World) : Prop where
  mod : goal = nF2 (lxOf E.s) st n sn sa t2
  al : GOptT (GName L) sa w3 (.pointer al)
  nm : GName L sn w3 (ptr n2)
  keep : Keeps E.pb E.qb w w3
  ps : PS E w3 t2
  nu : mu E.s t2 < n
/-- A field is made. -/
theorem field_made {E : At} {L n N : Nat} (hEL : E.pb < L ∧ E.qb < L) (hnN : n ≤ N) {st : Tok → Option (NL × Tok)} {S : NL → World → Value → Prop} (hS : ∀ y, Stable L (S y)) {w w3 w4 w5 w6 w8 : World} {goal : Option (NL × Tok)} {t2 t3 t4 t6 : Tok} {al se : Option Addr} {sa sn : ByteArray} {xa xd xs : List NL} {n2 f : Nat} {va vd lv : Value} {s5 : ByteArray} (H : FHead E L st n w goal al sa sn n2 t2 w3)
    (h3 : nArgs (lxOf E.s) n t2 = some (xa, t3) ∧ GRow L (GArg L n) xa w4 va ∧ Keeps E.pb E.qb w3 w4 ∧ PS E w4 t3) (h4 : nDirs (lxOf E.s) n n t3 = some (xd, t4) ∧ GRowD L (GDir L n) xd w5 vd ∧ Keeps E.pb E.qb w4 w5 ∧ PS E w5 t4)
    (h5 : (if t4.kind = 12 then (st t4).map fun s => ([s.1], s.2) else some ([], t4)) = some (xs, t6) ∧ GOptS S xs w6 (.pointer se) ∧ Keeps E.pb E.qb w5 w6 ∧ PS E w6 t6) (hb : Below w6.heap.size w6 w8) (hlv : GLoc L w8 lv) (hf : L ≤ f)
    (hb8 : Blk w8 f 237 #[.string s5, lv, .pointer al, .pointer (some ⟨n2, 0, none⟩), va, vd, .pointer se]) :
    Res E w goal (fun y w' v => ∃ g, v = .pointer (some ⟨g, 0, none⟩) ∧ GSel L N S y w' (.iface 235 (.pointer (some ⟨g, 0, none⟩)))) (.returned (.tuple #[.pointer (some ⟨f, 0, none⟩), .nilIface])) w8 := by
  have u34 : Up L w3 w4 := Up.of_keeps h3.2.2.1 hEL.1 hEL.2
  have u45 : Up L w4 w5 := Up.of_keeps h4.2.2.1 hEL.1 hEL.2
  have u56 : Up L w5 w6 := Up.of_keeps h5.2.2.1 hEL.1 hEL.2
  have u68 : Up L w6 w8 := Up.of_below hb
  have u58 := u56.trans u68
  have u48 := u45.trans u58
  have u38 := u34.trans u48
  refine .inl ⟨_, t6, _, ?_, rfl, ⟨f, rfl, f, lv, .of_blk hb8 hf rfl (by decide), hlv, .inl ⟨rfl, _, _, _, _, _, sa, sn, xa, xd, xs, .of_blk hb8 hf rfl (by decide), st_optT (fun _ => st_name) _ _ _ u38 H.al, .of_blk hb8 hf rfl (by decide), st_name _ _ _ u38 H.nm, .of_blk hb8 hf rfl (by decide), ?_, .of_blk hb8 hf rfl (by decide), ?_, .of_blk hb8 hf rfl (by decide), st_optS hS _ _ _ u68 h5.2.1, rfl⟩⟩, (((H.keep.trans h3.2.2.1).trans h4.2.2.1).trans h5.2.2.1).then hb, h5.2.2.2.below hb⟩
  · rw [H.mod]; unfold nF2; rw [h3.1]; simp only [Option.bind_some]; rw [h4.1]; simp only [Option.bind_some]; rw [h5.1]; rfl
  · exact row_more (fun y x hx => arg_more hnN hx) (st_row (fun _ => s2_arg) _ _ _ u48 h3.2.1)
  · exact rowD_more (fun y x hx => dir_more hnN hx) (st_rowS (fun _ => st_dir) _ _ _ u58 h4.2.1)
set_option maxRecDepth 100000 in
set_option maxHeartbeats 16000000 in
theorem field_any (E : At) (L : Nat) (hEL : E.pb < L ∧ E.qb < L) (n N : Nat) (hnN : n ≤ N) (hN : N ≤ 200000) (st : Tok → Option (NL × Tok)) (S : NL → World → Value → Prop) (hS : ∀ y, Stable L (S y)) (hset : SetOk E L n st S) (w : World) (t : Tok) (hP : PS E w t) (hL : L ≤ w.heap.size) (hlt : nu E.s t < n) :
    Calls Tryz.prog 113 #[.pointer (some ⟨E.pb, 0, none⟩)] w (Res E w (nField (lxOf E.s) st n t) (fun y w' v => ∃ g, v = .pointer (some ⟨g, 0, none⟩) ∧ GSel L N S y w' (.iface 235 (.pointer (some ⟨g, 0, none⟩))))) := by
  have HN := Aside0.mk (name_any E w t L hP hL)
  have HN2 := Aside0.mk (fun W t1 (h : PS E W t1) hl => name_any E W t1 L h hl)
  have HA := Aside0.mk (args_any E L hEL n (by omega))
  have HD := Aside0.mk (dirs_any E L hEL n (by omega))
  have HS := Aside0.mk hset
  have HPN := Aside0.mk (fun t x h1 h2 => (wt_name (s := E.s) t x h1 h2).2.1)
  have HPC := Aside0.mk (prg_tok (s := E.s) (k := 7) (by decide))
  have HPA := Aside0.mk (fun t x h1 h2 => (wt_args (s := E.s) n t x h1 h2).2.1)
  have HPD := Aside0.mk (fun t x h1 h2 => (wt_dirs (s := E.s) n n t x h1 h2).2.1)
  have HLT := Aside0.mk (show mu E.s t < n from hlt)
  have HP := Aside0.mk hP
  obtain ⟨c1, c2, c3, c4, c5, c6, c7, c8⟩ := ps_cells hP
  clear hP hlt hset c1 c2 c3 c4 c5 c7 c8
  go_enter Tryz.func113, Tryz.ntmps113
  go_wp2_with fail
  refine HN.out.mono ?_
  rintro e w1 (⟨s1, t1, v, h1, rfl, ⟨n1, rfl, hg⟩, hk, hp⟩ | ⟨h1, v, ⟨g, rfl⟩, hk⟩)
  · have HR1 := Aside0.mk (⟨h1, hg, hk, hp⟩ : _ ∧ GName L s1 w1 (ptr n1) ∧ Keeps E.pb E.qb w w1 ∧ PS E w1 t1)
    clear h1 hg hk hp
    by_cases hk7 : t1.kind = 7
    · have HSK := Aside0.mk (skip_any E w1 t1 7 HR1.out.2.2.2 hk7)
      have HK7 := Aside0.mk hk7
      clear hk7
      go_wp2_with fail
      refine HSK.out.mono ?_
      rintro e w2 (⟨t1', hl, rfl, hk, hp⟩ | ⟨hl, ⟨g, rfl⟩, hk⟩)
      · have HNN := Aside0.mk (HN2.out w2 t1' hp (by have a := HR1.out.2.2.1.size; have b := hk.size; omega))
        have HR2 := Aside0.mk (⟨hl, hk, hp⟩ : _ ∧ Keeps E.pb E.qb w1 w2 ∧ PS E w2 t1')
        clear hl hk hp
        go_wp2_with fail
        refine HNN.out.mono ?_
        rintro e w3 (⟨s2, t2, v, h2, rfl, ⟨n2, rfl, hg⟩, hk, hp⟩ | ⟨h2, v, ⟨g, rfl⟩, hk⟩)
        · have HH := Aside0.mk (show FHead E L st n w (nField (lxOf E.s) st n t) (some ⟨n1, 0, none⟩) s1 s2 n2 t2 w3 from ⟨by
            unfold nField; rw [HR1.out.1]; simp only [Option.bind_some]; rw [if_pos HK7.out, HR2.out.1]; simp only [Option.bind_some]; rw [h2]; rfl, .inr (st_name _ _ _ ((Up.of_keeps HR2.out.2.1 hEL.1 hEL.2).trans (Up.of_keeps hk hEL.1 hEL.2)) HR1.out.2.1), hg, (HR1.out.2.2.1.trans HR2.out.2.1).trans hk, hp, by
            have a := HPN.out t _ HP.out.le HR1.out.1
            have b := (HPC.out t1 t1' HR1.out.2.2.2.le (by unfold mTok; rw [if_pos HK7.out]; exact HR2.out.1)).2
            have c := HPN.out t1' _ HR2.out.2.2.le h2
            have d := HLT.out
            simp only at a c
            omega⟩)
          clear h2 hg hk hp
          have HAA := Aside0.mk (HA.out w3 t2 HH.out.ps (by have := HH.out.keep.size; omega) (by have := HH.out.nu; show mu E.s t2 ≤ n; omega))
          go_wp2_with fail
          refine HAA.out.mono ?_
          rintro e w4 (⟨xa, t3, va, h3, rfl, hg, hk, hp⟩ | ⟨h3, v, ⟨g, rfl⟩, hk⟩)
          · obtain ⟨A1, c1, rfl⟩ := grow_shape hg
            have HDD := Aside0.mk (HD.out w4 t3 hp (by have a := HH.out.keep.size; have b := hk.size; omega) (by have a := HH.out.nu; have b := HPA.out t2 _ HH.out.ps.le h3; show mu E.s t3 < n; simp only at b; omega))
            have HR3 := Aside0.mk (⟨h3, hg, hk, hp⟩ : _ ∧ GRow L (GArg L n) xa w4 (.slice A1 xa.length c1) ∧ Keeps E.pb E.qb w3 w4 ∧ PS E w4 t3)
            clear h3 hg hk hp
            go_wp2_with fail
            refine HDD.out.mono ?_
            rintro e w5 (⟨xd, t4, vd, h4, rfl, hg, hk, hp⟩ | ⟨h4, v, ⟨g, rfl⟩, hk⟩)
            · obtain ⟨A2, c2, rfl⟩ := growD_shape hg
              have HPK := Aside0.mk (peek_any E w5 t4 12 hp)
              have hnu4 : mu E.s t4 < n := by have a := HH.out.nu; have b := HPA.out t2 _ HH.out.ps.le HR3.out.1; have c := HPD.out t3 _ HR3.out.2.2.2.le h4; simp only at b c; omega
              have HSS := Aside0.mk (HS.out w5 t4 hp (by have a := HH.out.keep.size; have b := HR3.out.2.2.1.size; have c := hk.size; omega) hnu4)
              have HR4 := Aside0.mk (⟨h4, hg, hk, hp⟩ : _ ∧ GRowD L (GDir L n) xd w5 (.slice A2 xd.length c2) ∧ Keeps E.pb E.qb w4 w5 ∧ PS E w5 t4)
              clear h4 hg hk hp hnu4
              by_cases hk12 : t4.kind = 12
              · have hkb : (t4.kind == 12) = true := by rw [hk12]; rfl
                have HK12 := Aside0.mk hk12
                clear hk12
                go_wp2_with fail
                refine HPK.out.mono ?_
                rintro e w5' ⟨rfl, rfl⟩
                go_wp2_with fail
                refine HSS.out.mono ?_
                rintro e w6 (⟨ys, t6, v, h5, rfl, ⟨ns, rfl, hg⟩, hk, hp⟩ | ⟨h5, v, ⟨g, rfl⟩, hk⟩)
                · have HR5 := Aside0.mk (⟨(if_pos HK12.out).trans (by rw [h5]; rfl), .inr ⟨ys, rfl, hg⟩, hk, hp⟩ : (if t4.kind = 12 then (st t4).map fun s => ([s.1], s.2) else some ([], t4)) = some ([ys], t6) ∧ GOptS S [ys] w6 (.pointer (some ⟨ns, 0, none⟩)) ∧ Keeps E.pb E.qb w5 w6 ∧ PS E w6 t6)
                  clear h5 hg hk hp
                  have HLC := Aside0.mk (loc_any E w6 t6 t.start L HR5.out.2.2.2 (by have a := HH.out.keep.size; have b := HR3.out.2.2.1.size; have c := HR4.out.2.2.1.size; have x := HR5.out.2.2.1.size; omega))
                  go_wp2_with fail
                  refine HLC.out.mono ?_
                  rintro e w7 ⟨v, rfl, hg, ⟨a, rfl⟩, hb⟩
                  have HB7 := Aside0.mk hb
                  have HGL := Aside0.mk hg
                  clear hb hg
                  go_wp2_with fail
                  refine (new_Field w7.heap.size _ a (some ⟨n1, 0, none⟩) (some ⟨n2, 0, none⟩) A1 xa.length c1 A2 xd.length c2 (some ⟨ns, 0, none⟩) _ (Blk.new _ _ _)).mono ?_
                  rintro e w8 ⟨f, rfl, hn, ⟨s5, hb8⟩, hk8⟩
                  have HB8 := Aside0.mk hb8
                  have HK8 := Aside0.mk hk8
                  clear hb8 hk8
                  go_wp2_with fail
                  have hbb := made_two HB7.out HK8.out
                  have hb45 := made_below HK8.out
                  have hLn : L ≤ f := by have a := HH.out.keep.size; have b := HR3.out.2.2.1.size; have c := HR4.out.2.2.1.size; have d := HB7.out.size; have x := HR5.out.2.2.1.size; omega
                  refine bodyPost_ret (v := .tuple #[.pointer (some ⟨f, 0, none⟩), .nilIface]) (by simp [results, Tryz.results113, go_sem]) rfl (field_made hEL hnN hS HH.out HR3.out HR4.out HR5.out hbb (st_gloc HGL.out hb45) hLn HB8.out)
                · have hk12 := HK12
                  have HR5 := Aside0.mk (⟨h5, hk⟩ : _ ∧ Keeps E.pb E.qb w5 w6)
                  clear h5 hk
                  go_wp2_with fail
                  go_ret2
                  refine .inr ⟨?_, _, ⟨g, rfl⟩, ((HH.out.keep.trans HR3.out.2.2.1).trans HR4.out.2.2.1).trans HR5.out.2⟩
                  rw [HH.out.mod]; unfold nF2; rw [HR3.out.1]; simp only [Option.bind_some]; rw [HR4.out.1]; simp only [Option.bind_some]; rw [if_pos hk12.out, HR5.out.1]; rfl
              · have hkb : (t4.kind == 12) = false := beq_eq_false_iff_ne.2 hk12
                have HK12 := Aside0.mk hk12
                clear hk12
                go_wp2_with fail
                refine HPK.out.mono ?_
                rintro e w5' ⟨rfl, rfl⟩
                have HLC := Aside0.mk (loc_any E w5 t4 t.start L HR4.out.2.2.2 (by have a := HH.out.keep.size; have b := HR3.out.2.2.1.size; have c := HR4.out.2.2.1.size; omega))
                go_wp2_with fail
                refine HLC.out.mono ?_
                rintro e w7 ⟨v, rfl, hg, ⟨a, rfl⟩, hb⟩
                have HB7 := Aside0.mk hb
                have HGL := Aside0.mk hg
                clear hb hg
                go_wp2_with fail
                refine (new_Field w7.heap.size _ a (some ⟨n1, 0, none⟩) (some ⟨n2, 0, none⟩) A1 xa.length c1 A2 xd.length c2 (none) _ (Blk.new _ _ _)).mono ?_
                rintro e w8 ⟨f, rfl, hn, ⟨s5, hb8⟩, hk8⟩
                have HB8 := Aside0.mk hb8
                have HK8 := Aside0.mk hk8
                clear hb8 hk8
                go_wp2_with fail
                have hbb := made_two HB7.out HK8.out
                have hb45 := made_below HK8.out
                have hLn : L ≤ f := by have a := HH.out.keep.size; have b := HR3.out.2.2.1.size; have c := HR4.out.2.2.1.size; have d := HB7.out.size; omega
                refine bodyPost_ret (v := .tuple #[.pointer (some ⟨f, 0, none⟩), .nilIface]) (by simp [results, Tryz.results113, go_sem]) rfl (field_made hEL hnN hS HH.out HR3.out HR4.out ⟨if_neg HK12.out, .inl ⟨rfl, rfl⟩, Keeps.refl _ _ _, HR4.out.2.2.2⟩ hbb (st_gloc HGL.out hb45) hLn HB8.out)
            · have HR4 := Aside0.mk (⟨h4, hk⟩ : _ ∧ Keeps E.pb E.qb w4 w5)
              clear h4 hk
              go_wp2_with fail
              go_ret2
              refine .inr ⟨?_, _, ⟨g, rfl⟩, (HH.out.keep.trans HR3.out.2.2.1).trans HR4.out.2⟩
              rw [HH.out.mod]; unfold nF2; rw [HR3.out.1]; simp only [Option.bind_some]; rw [HR4.out.1]; rfl
          · have HR3 := Aside0.mk (⟨h3, hk⟩ : _ ∧ Keeps E.pb E.qb w3 w4)
            clear h3 hk
            go_wp2_with fail
            go_ret2
            refine .inr ⟨?_, _, ⟨g, rfl⟩, HH.out.keep.trans HR3.out.2⟩
            rw [HH.out.mod]; unfold nF2; rw [HR3.out.1]; rfl
        · have HR3 := Aside0.mk (⟨h2, hk⟩ : _ ∧ Keeps E.pb E.qb w2 w3)
          clear h2 hk
          go_wp2_with fail
          go_ret2
          refine .inr ⟨?_, _, ⟨g, rfl⟩, (HR1.out.2.2.1.trans HR2.out.2.1).trans HR3.out.2⟩
          unfold nField; rw [HR1.out.1]; simp only [Option.bind_some]; rw [if_pos HK7.out, HR2.out.1]; simp only [Option.bind_some]; rw [HR3.out.1]; rfl
      · have HR2 := Aside0.mk (⟨hl, hk⟩ : _ ∧ Keeps E.pb E.qb w1 w2)
        clear hl hk
        go_wp2_with fail
        go_ret2
        refine .inr ⟨?_, _, ⟨g, rfl⟩, HR1.out.2.2.1.trans HR2.out.2⟩
        unfold nField; rw [HR1.out.1]; simp only [Option.bind_some]; rw [if_pos HK7.out, HR2.out.1]; rfl
    · have HSK := Aside0.mk (skip_no E w1 t1 7 HR1.out.2.2.2 hk7)
      have HK7 := Aside0.mk hk7
      clear hk7
      go_wp2_with fail
      refine HSK.out.mono ?_
      rintro e w1' ⟨rfl, rfl⟩
      obtain ⟨t2, ht2⟩ : ∃ t2, t2 = t1 := ⟨_, rfl⟩
      obtain ⟨n2, hn2⟩ : ∃ n2, n2 = n1 := ⟨_, rfl⟩
      obtain ⟨w3, hw3⟩ : ∃ w3, w3 = w1 := ⟨_, rfl⟩
      subst ht2 hn2 hw3
      have HH := Aside0.mk (show FHead E L st n w (nField (lxOf E.s) st n t) none emp s1 n2 t2 w3 from ⟨by
        unfold nField; rw [HR1.out.1]; simp only [Option.bind_some]; rw [if_neg HK7.out], .inl ⟨rfl, rfl⟩, HR1.out.2.1, HR1.out.2.2.1, HR1.out.2.2.2, by
        have a := HPN.out t _ HP.out.le HR1.out.1
        have d := HLT.out
        simp only at a
        omega⟩)
      clear HR1 HSK
      have HAA := Aside0.mk (HA.out w3 t2 HH.out.ps (by have := HH.out.keep.size; omega) (by have := HH.out.nu; show mu E.s t2 ≤ n; omega))
      go_wp2_with fail
      refine HAA.out.mono ?_
      rintro e w4 (⟨xa, t3, va, h3, rfl, hg, hk, hp⟩ | ⟨h3, v, ⟨g, rfl⟩, hk⟩)
      · obtain ⟨A1, c1, rfl⟩ := grow_shape hg
        have HDD := Aside0.mk (HD.out w4 t3 hp (by have a := HH.out.keep.size; have b := hk.size; omega) (by have a := HH.out.nu; have b := HPA.out t2 _ HH.out.ps.le h3; show mu E.s t3 < n; simp only at b; omega))
        have HR3 := Aside0.mk (⟨h3, hg, hk, hp⟩ : _ ∧ GRow L (GArg L n) xa w4 (.slice A1 xa.length c1) ∧ Keeps E.pb E.qb w3 w4 ∧ PS E w4 t3)
        clear h3 hg hk hp
        go_wp2_with fail
        refine HDD.out.mono ?_
        rintro e w5 (⟨xd, t4, vd, h4, rfl, hg, hk, hp⟩ | ⟨h4, v, ⟨g, rfl⟩, hk⟩)
        · obtain ⟨A2, c2, rfl⟩ := growD_shape hg
          have HPK := Aside0.mk (peek_any E w5 t4 12 hp)
          have hnu4 : mu E.s t4 < n := by have a := HH.out.nu; have b := HPA.out t2 _ HH.out.ps.le HR3.out.1; have c := HPD.out t3 _ HR3.out.2.2.2.le h4; simp only at b c; omega
          have HSS := Aside0.mk (HS.out w5 t4 hp (by have a := HH.out.keep.size; have b := HR3.out.2.2.1.size; have c := hk.size; omega) hnu4)
          have HR4 := Aside0.mk (⟨h4, hg, hk, hp⟩ : _ ∧ GRowD L (GDir L n) xd w5 (.slice A2 xd.length c2) ∧ Keeps E.pb E.qb w4 w5 ∧ PS E w5 t4)
          clear h4 hg hk hp hnu4
          by_cases hk12 : t4.kind = 12
          · have hkb : (t4.kind == 12) = true := by rw [hk12]; rfl
            have HK12 := Aside0.mk hk12
            clear hk12
            go_wp2_with fail
            refine HPK.out.mono ?_
            rintro e w5' ⟨rfl, rfl⟩
            go_wp2_with fail
            refine HSS.out.mono ?_
            rintro e w6 (⟨ys, t6, v, h5, rfl, ⟨ns, rfl, hg⟩, hk, hp⟩ | ⟨h5, v, ⟨g, rfl⟩, hk⟩)
            · have HR5 := Aside0.mk (⟨(if_pos HK12.out).trans (by rw [h5]; rfl), .inr ⟨ys, rfl, hg⟩, hk, hp⟩ : (if t4.kind = 12 then (st t4).map fun s => ([s.1], s.2) else some ([], t4)) = some ([ys], t6) ∧ GOptS S [ys] w6 (.pointer (some ⟨ns, 0, none⟩)) ∧ Keeps E.pb E.qb w5 w6 ∧ PS E w6 t6)
              clear h5 hg hk hp
              have HLC := Aside0.mk (loc_any E w6 t6 t.start L HR5.out.2.2.2 (by have a := HH.out.keep.size; have b := HR3.out.2.2.1.size; have c := HR4.out.2.2.1.size; have x := HR5.out.2.2.1.size; omega))
              go_wp2_with fail
              refine HLC.out.mono ?_
              rintro e w7 ⟨v, rfl, hg, ⟨a, rfl⟩, hb⟩
              have HB7 := Aside0.mk hb
              have HGL := Aside0.mk hg
              clear hb hg
              go_wp2_with fail
              refine (new_Field w7.heap.size _ a (none) (some ⟨n2, 0, none⟩) A1 xa.length c1 A2 xd.length c2 (some ⟨ns, 0, none⟩) _ (Blk.new _ _ _)).mono ?_
              rintro e w8 ⟨f, rfl, hn, ⟨s5, hb8⟩, hk8⟩
              have HB8 := Aside0.mk hb8
              have HK8 := Aside0.mk hk8
              clear hb8 hk8
              go_wp2_with fail
              have hbb := made_two HB7.out HK8.out
              have hb45 := made_below HK8.out
              have hLn : L ≤ f := by have a := HH.out.keep.size; have b := HR3.out.2.2.1.size; have c := HR4.out.2.2.1.size; have d := HB7.out.size; have x := HR5.out.2.2.1.size; omega
              refine bodyPost_ret (v := .tuple #[.pointer (some ⟨f, 0, none⟩), .nilIface]) (by simp [results, Tryz.results113, go_sem]) rfl (field_made hEL hnN hS HH.out HR3.out HR4.out HR5.out hbb (st_gloc HGL.out hb45) hLn HB8.out)
            · have hk12 := HK12
              have HR5 := Aside0.mk (⟨h5, hk⟩ : _ ∧ Keeps E.pb E.qb w5 w6)
              clear h5 hk
              go_wp2_with fail
              go_ret2
              refine .inr ⟨?_, _, ⟨g, rfl⟩, ((HH.out.keep.trans HR3.out.2.2.1).trans HR4.out.2.2.1).trans HR5.out.2⟩
              rw [HH.out.mod]; unfold nF2; rw [HR3.out.1]; simp only [Option.bind_some]; rw [HR4.out.1]; simp only [Option.bind_some]; rw [if_pos hk12.out, HR5.out.1]; rfl
          · have hkb : (t4.kind == 12) = false := beq_eq_false_iff_ne.2 hk12
            have HK12 := Aside0.mk hk12
            clear hk12
            go_wp2_with fail
            refine HPK.out.mono ?_
            rintro e w5' ⟨rfl, rfl⟩
            have HLC := Aside0.mk (loc_any E w5 t4 t.start L HR4.out.2.2.2 (by have a := HH.out.keep.size; have b := HR3.out.2.2.1.size; have c := HR4.out.2.2.1.size; omega))
            go_wp2_with fail
            refine HLC.out.mono ?_
            rintro e w7 ⟨v, rfl, hg, ⟨a, rfl⟩, hb⟩
            have HB7 := Aside0.mk hb
            have HGL := Aside0.mk hg
            clear hb hg
            go_wp2_with fail
            refine (new_Field w7.heap.size _ a (none) (some ⟨n2, 0, none⟩) A1 xa.length c1 A2 xd.length c2 (none) _ (Blk.new _ _ _)).mono ?_
            rintro e w8 ⟨f, rfl, hn, ⟨s5, hb8⟩, hk8⟩
            have HB8 := Aside0.mk hb8
            have HK8 := Aside0.mk hk8
            clear hb8 hk8
            go_wp2_with fail
            have hbb := made_two HB7.out HK8.out
            have hb45 := made_below HK8.out
            have hLn : L ≤ f := by have a := HH.out.keep.size; have b := HR3.out.2.2.1.size; have c := HR4.out.2.2.1.size; have d := HB7.out.size; omega
            refine bodyPost_ret (v := .tuple #[.pointer (some ⟨f, 0, none⟩), .nilIface]) (by simp [results, Tryz.results113, go_sem]) rfl (field_made hEL hnN hS HH.out HR3.out HR4.out ⟨if_neg HK12.out, .inl ⟨rfl, rfl⟩, Keeps.refl _ _ _, HR4.out.2.2.2⟩ hbb (st_gloc HGL.out hb45) hLn HB8.out)
        · have HR4 := Aside0.mk (⟨h4, hk⟩ : _ ∧ Keeps E.pb E.qb w4 w5)
          clear h4 hk
          go_wp2_with fail
          go_ret2
          refine .inr ⟨?_, _, ⟨g, rfl⟩, (HH.out.keep.trans HR3.out.2.2.1).trans HR4.out.2⟩
          rw [HH.out.mod]; unfold nF2; rw [HR3.out.1]; simp only [Option.bind_some]; rw [HR4.out.1]; rfl
      · have HR3 := Aside0.mk (⟨h3, hk⟩ : _ ∧ Keeps E.pb E.qb w3 w4)
        clear h3 hk
        go_wp2_with fail
        go_ret2
        refine .inr ⟨?_, _, ⟨g, rfl⟩, HH.out.keep.trans HR3.out.2⟩
        rw [HH.out.mod]; unfold nF2; rw [HR3.out.1]; rfl
  · have HR1 := Aside0.mk (⟨h1, hk⟩ : _ ∧ Keeps E.pb E.qb w w1)
    clear h1 hk
    go_wp2_with fail
    go_ret2
    refine .inr ⟨?_, _, ⟨g, rfl⟩, HR1.out.2⟩
    unfold nField; rw [HR1.out.1]; rfl
end Go.Proofs.YthbinlnpipgobaaGreatDoor.Par
namespace Go.Proofs.YthbinlnpipgobaaGreatDoor.Par
set_option linter.unusedVariables false
set_option linter.unusedSimpArgs false
open Go.RowKit Go.Proofs.YthbinlnpipgobaaGreatDoorW.PrintWords Go.Proofs.YthbinlnpipgobaaGreatDoor.Keep Go.Proofs.YthbinlnpipgobaaGreatDoor.Mod Go.Proofs.YthbinlnpipgobaaGreatDoor.Sim Go.Proofs.YthbinlnpipgobaaGreatDoor.Four Go.Proofs.YthbinlnpipgobaaGreatDoor.Step Go.Proofs.YthbinlnpipgobaaGreatDoor.Env Go.Proofs.YthbinlnpipgobaaGreatDoor.Err Go.Proofs.YthbinlnpipgobaaGreatDoor.Lx Go.Proofs.YthbinlnpipgobaaGreatDoor.Ast Go.Proofs.YthbinlnpipgobaaGreatDoor.New Go.Proofs.YthbinlnpipgobaaGreatDoor.Tree Go.Proofs.YthbinlnpipgobaaGreatDoor.Fuel

/-- The first half has been read. -/
structure GHead (E : At) (L : Nat) (st : Tok → Option (NL × Tok)) (n : Nat) (w : World) (goal : Option (NL × Tok)) (al : Option Addr) (sc : ByteArray) (t2 : Tok) (w3 : World) : Prop where
  mod : goal = nG2 (lxOf E.s) st n sc t2
  tc : GOptT (GNamed L) sc w3 (.pointer al)
  keep : Keeps E.pb E.qb w w3
  ps : PS E w3 t2
  nu : mu E.s t2 < n
/-- A spread, an inline fragment: a value of an interface. -/
def ISel (L N : Nat) (S : NL → World → Value → Prop) (y : NL) (w : World) (v : Value) : Prop := ∃ ty x, v = .iface ty x ∧ GSel L N S y w (.iface ty x)
/-- An inline fragment is made. -/
theorem inline_made {E : At} {L n N : Nat} (hEL : E.pb < L ∧ E.qb < L) (hnN : n ≤ N) {st : Tok → Option (NL × Tok)} {S : NL → World → Value → Prop} (hS : ∀ y, Stable L (S y)) {w w3 w5 w6 w8 : World} {t2 t4 t6 : Tok} {goal : Option (NL × Tok)} {tc : Option Addr} {sc : ByteArray} {xd : List NL} {y : NL} {se f : Nat} {vd lv : Value} {s5 : ByteArray} (H : GHead E L st n w goal tc sc t2 w3)
    (h4 : nDirs (lxOf E.s) n n t2 = some (xd, t4) ∧ GRowD L (GDir L n) xd w5 vd ∧ Keeps E.pb E.qb w3 w5 ∧ PS E w5 t4)
    (h5 : st t4 = some (y, t6) ∧ S y w6 (ptr se) ∧ Keeps E.pb E.qb w5 w6 ∧ PS E w6 t6) (hb : Below w6.heap.size w6 w8) (hlv : GLoc L w8 lv) (hf : L ≤ f)
    (hb8 : Blk w8 f 243 #[.string s5, lv, .pointer tc, vd, .pointer (some ⟨se, 0, none⟩)]) :
    Res E w goal (ISel L N S) (.returned (.tuple #[.iface 241 (.pointer (some ⟨f, 0, none⟩)), .nilIface])) w8 := by
  have u35 : Up L w3 w5 := Up.of_keeps h4.2.2.1 hEL.1 hEL.2
  have u56 : Up L w5 w6 := Up.of_keeps h5.2.2.1 hEL.1 hEL.2
  have u68 : Up L w6 w8 := Up.of_below hb
  have u58 := u56.trans u68
  have u38 := u35.trans u58
  refine .inl ⟨_, t6, _, ?_, rfl, ⟨_, _, rfl, f, lv, .of_blk hb8 hf rfl (by decide), hlv, .inr (.inr ⟨rfl, _, _, _, sc, xd, y, .of_blk hb8 hf rfl (by decide), st_optT (fun _ => st_named) _ _ _ u38 H.tc, .of_blk hb8 hf rfl (by decide), ?_, .of_blk hb8 hf rfl (by decide), hS y _ _ _ u68 h5.2.1, rfl⟩)⟩, ((H.keep.trans h4.2.2.1).trans h5.2.2.1).then hb, h5.2.2.2.below hb⟩
  · rw [H.mod]; unfold nG2; rw [h4.1]; simp only [Option.bind_some]; rw [h5.1]; rfl
  · exact rowD_more (fun y x hx => dir_more hnN hx) (st_rowS (fun _ => st_dir) _ _ _ u58 h4.2.1)
/-- A spread is made. -/
theorem spread_made {E : At} {L n N : Nat} (hEL : E.pb < L ∧ E.qb < L) (hnN : n ≤ N) {S : NL → World → Value → Prop} {w w3 w5 w8 : World} {t4 : Tok} {goal : Option (NL × Tok)} {sn : ByteArray} {xd : List NL} {nm f : Nat} {vd lv : Value} {s5 : ByteArray}
    (hmod : goal = some (nd 7 sn emp emp 0 xd, t4)) (hk2 : Keeps E.pb E.qb w w3) (hnm : GName L sn w3 (ptr nm))
    (h4 : GRowD L (GDir L n) xd w5 vd ∧ Keeps E.pb E.qb w3 w5 ∧ PS E w5 t4) (hb : Below w5.heap.size w5 w8) (hlv : GLoc L w8 lv) (hf : L ≤ f)
    (hb8 : Blk w8 f 240 #[.string s5, lv, .pointer (some ⟨nm, 0, none⟩), vd]) :
    Res E w goal (ISel L N S) (.returned (.tuple #[.iface 238 (.pointer (some ⟨f, 0, none⟩)), .nilIface])) w8 := by
  have u35 : Up L w3 w5 := Up.of_keeps h4.2.1 hEL.1 hEL.2
  have u58 : Up L w5 w8 := Up.of_below hb
  have u38 := u35.trans u58
  refine .inl ⟨_, t4, _, hmod, rfl, ⟨_, _, rfl, f, lv, .of_blk hb8 hf rfl (by decide), hlv, .inr (.inl ⟨rfl, _, _, sn, xd, .of_blk hb8 hf rfl (by decide), st_name _ _ _ u38 hnm, .of_blk hb8 hf rfl (by decide), ?_, rfl⟩)⟩, (hk2.trans h4.2.1).then hb, h4.2.2.below hb⟩
  exact rowD_more (fun y x hx => dir_more hnN hx) (st_rowS (fun _ => st_dir) _ _ _ u58 h4.1)
set_option maxRecDepth 100000 in
set_option maxHeartbeats 16000000 in
theorem frag_any (E : At) (L : Nat) (hEL : E.pb < L ∧ E.qb < L) (n N : Nat) (hnN : n ≤ N) (hN : N ≤ 200000) (st : Tok → Option (NL × Tok)) (S : NL → World → Value → Prop) (hS : ∀ y, Stable L (S y)) (hset : SetOk E L n st S) (w : World) (t : Tok) (hP : PS E w t) (hL : L ≤ w.heap.size) (hlt : nu E.s t < n) :
    Calls Tryz.prog 112 #[.pointer (some ⟨E.pb, 0, none⟩)] w (Res E w (nFrag (lxOf E.s) st n t) (ISel L N S)) := by
  have HX := Aside0.mk (expect_any E w t 6 hP)
  have HF := Aside0.mk (fun W t1 (h : PS E W t1) hl => fname_any E W t1 L h hl)
  have HNM := Aside0.mk (fun W t1 (h : PS E W t1) hl => named_any E W t1 L h hl)
  have HD := Aside0.mk (dirs_any E L hEL n (by omega))
  have HS := Aside0.mk hset
  have HPN := Aside0.mk (fun t x h1 h2 => (wt_name (s := E.s) t x h1 h2).2.1)
  have HPX := Aside0.mk (prg_tok (s := E.s) (k := 6) (by decide))
  have HPD := Aside0.mk (fun t x h1 h2 => (wt_dirs (s := E.s) n n t x h1 h2).2.1)
  have HLT := Aside0.mk (show mu E.s t < n from hlt)
  have HP := Aside0.mk hP
  have HM := Aside0.mk (show nFrag (lxOf E.s) st n t = (mTok (lxOf E.s) 6 t).bind fun t1 => if t1.kind = 15 ∧ t1.value.toList ≠ onT.toList then (nName (lxOf E.s) t1).bind fun x => (nDirs (lxOf E.s) n n x.2).map fun d => (nd 7 x.1 emp emp 0 d.1, d.2) else if t1.value.toList = onT.toList then (lxOf E.s t1.stop).bind fun t2 => (nName (lxOf E.s) t2).bind fun x => nG2 (lxOf E.s) st n x.1 x.2 else nG2 (lxOf E.s) st n emp t1 from rfl)
  generalize nFrag (lxOf E.s) st n t = goal at *
  obtain ⟨c1, c2, c3, c4, c5, c6, c7, c8⟩ := ps_cells hP
  clear hP hlt hset c1 c2 c3 c4 c5 c7 c8
  go_enter Tryz.func112, Tryz.ntmps112
  go_wp2_with fail
  refine HX.out.mono ?_
  rintro e w1 (⟨t1, h1, rfl, hk, hp⟩ | ⟨h1, ⟨g, rfl⟩, hk⟩)
  · have hM1 := HM.out
    rw [h1] at hM1
    simp only [Option.bind_some] at hM1
    have hmu1 : mu E.s t1 + 1 < n + 1 := by have a := (HPX.out t t1 HP.out.le h1).2; have b := HLT.out; omega
    obtain ⟨d1, d2, d3, d4, d5, d6, d7, d8⟩ := ps_cells hp
    clear d1 d2 d3 d4 d5 d6 d7
    have HR1 := Aside0.mk (⟨hk, hp⟩ : Keeps E.pb E.qb w w1 ∧ PS E w1 t1)
    have HPK := Aside0.mk (peek_any E w1 t1 15 hp)
    have HMU := Aside0.mk (show mu E.s t1 < n by omega)
    clear HM h1 hk hp hmu1
    by_cases hon : t1.value.toList = onT.toList
    · have hk15 : t1.kind = 15 := by
        obtain ⟨p, hp, htk⟩ := HR1.out.2.tok
        exact on_name htk hon
      have hkb : (t1.kind == 15) = true := by rw [hk15]; rfl
      have hvb : (t1.value.toList == [111, 110]) = true := by rw [hon, on_list]; decide
      rw [if_neg (fun h => h.2 hon), if_pos hon] at hM1
      have HM1 := Aside0.mk hM1
      have HK15 := Aside0.mk hk15
      have HAD := Aside0.mk (adv_any E w1 t1 HR1.out.2)
      clear hM1 hk15 hon
      go_wp2_with fail
      refine HPK.out.mono ?_
      rintro e w1' ⟨rfl, rfl⟩
      go_wp2_with fail
      refine HAD.out.mono ?_
      rintro e w2 (⟨t1', hl, rfl, hk, hp⟩ | ⟨hl, ⟨g, rfl⟩, hk⟩)
      · have HNN := Aside0.mk (HNM.out w2 t1' hp (by have a := HR1.out.1.size; have b := hk.size; omega))
        have HR2 := Aside0.mk (⟨hl, hk, hp⟩ : _ ∧ Keeps E.pb E.qb w1 w2 ∧ PS E w2 t1')
        clear hl hk hp
        go_wp2_with fail
        refine HNN.out.mono ?_
        rintro e w3 (⟨s2, t2, v, h2, rfl, ⟨n2, rfl, hg⟩, hk, hp⟩ | ⟨h2, v, ⟨g, rfl⟩, hk⟩)
        · have HH := Aside0.mk (show GHead E L st n w goal (some ⟨n2, 0, none⟩) s2 t2 w3 from ⟨by
            rw [HM1.out, HR2.out.1]; simp only [Option.bind_some]; rw [h2]; rfl, .inr hg, (HR1.out.1.trans HR2.out.2.1).trans hk, hp, by
            have a := HMU.out
            have b := (prg_lx HR1.out.2.le (by rw [HK15.out]; decide) HR2.out.1).2
            have c := HPN.out t1' _ HR2.out.2.2.le h2
            simp only at c
            omega⟩)
          clear h2 hg hk hp
          have HDD := Aside0.mk (HD.out w3 t2 HH.out.ps (by have a := HH.out.keep.size; omega) HH.out.nu)
          go_wp2_with fail
          refine HDD.out.mono ?_
          rintro e w5 (⟨xd, t4, vd, h4, rfl, hg, hk, hp⟩ | ⟨h4, v, ⟨g, rfl⟩, hk⟩)
          · obtain ⟨A2, c2, rfl⟩ := growD_shape hg
            have hnu4 : mu E.s t4 < n := by have a := HH.out.nu; have c := HPD.out t2 _ HH.out.ps.le h4; simp only at c; omega
            have HSS := Aside0.mk (HS.out w5 t4 hp (by have a := HH.out.keep.size; have c := hk.size; omega) hnu4)
            have HR4 := Aside0.mk (⟨h4, hg, hk, hp⟩ : _ ∧ GRowD L (GDir L n) xd w5 (.slice A2 xd.length c2) ∧ Keeps E.pb E.qb w3 w5 ∧ PS E w5 t4)
            clear h4 hg hk hp hnu4
            go_wp2_with fail
            refine HSS.out.mono ?_
            rintro e w6 (⟨ys, t6, v, h5, rfl, ⟨ns, rfl, hg⟩, hk, hp⟩ | ⟨h5, v, ⟨g, rfl⟩, hk⟩)
            · have HR5 := Aside0.mk (⟨h5, hg, hk, hp⟩ : st t4 = some (ys, t6) ∧ S ys w6 (ptr ns) ∧ Keeps E.pb E.qb w5 w6 ∧ PS E w6 t6)
              clear h5 hg hk hp
              have HLC := Aside0.mk (loc_any E w6 t6 t.start L HR5.out.2.2.2 (by have a := HH.out.keep.size; have c := HR4.out.2.2.1.size; have x := HR5.out.2.2.1.size; omega))
              go_wp2_with fail
              refine HLC.out.mono ?_
              rintro e w7 ⟨v, rfl, hg, ⟨a, rfl⟩, hb⟩
              have HB7 := Aside0.mk hb
              have HGL := Aside0.mk hg
              clear hb hg
              go_wp2_with fail
              refine (new_InlineFragment w7.heap.size _ a (some ⟨n2, 0, none⟩) A2 xd.length c2 (some ⟨ns, 0, none⟩) _ (Blk.new _ _ _)).mono ?_
              rintro e w8 ⟨f, rfl, hn, ⟨s5, hb8⟩, hk8⟩
              have HB8 := Aside0.mk hb8
              have HK8 := Aside0.mk hk8
              clear hb8 hk8
              go_wp2_with fail
              have hbb := made_two HB7.out HK8.out
              have hb45 := made_below HK8.out
              have hLn : L ≤ f := by have a := HH.out.keep.size; have c := HR4.out.2.2.1.size; have d := HB7.out.size; have x := HR5.out.2.2.1.size; omega
              refine bodyPost_ret (v := .tuple #[.iface 241 (.pointer (some ⟨f, 0, none⟩)), .nilIface]) (by simp [results, Tryz.results112, go_sem]) rfl (inline_made hEL hnN hS HH.out HR4.out HR5.out hbb (st_gloc HGL.out hb45) hLn HB8.out)
            · have HR5 := Aside0.mk (⟨h5, hk⟩ : _ ∧ Keeps E.pb E.qb w5 w6)
              clear h5 hk
              go_wp2_with fail
              go_ret2
              refine .inr ⟨?_, _, ⟨g, rfl⟩, (HH.out.keep.trans HR4.out.2.2.1).trans HR5.out.2⟩
              rw [HH.out.mod]; unfold nG2; rw [HR4.out.1]; simp only [Option.bind_some]; rw [HR5.out.1]; rfl
          · have HR4 := Aside0.mk (⟨h4, hk⟩ : _ ∧ Keeps E.pb E.qb w3 w5)
            clear h4 hk
            go_wp2_with fail
            go_ret2
            refine .inr ⟨?_, _, ⟨g, rfl⟩, HH.out.keep.trans HR4.out.2⟩
            rw [HH.out.mod]; unfold nG2; rw [HR4.out.1]; rfl
        · have HR3 := Aside0.mk (⟨h2, hk⟩ : _ ∧ Keeps E.pb E.qb w2 w3)
          clear h2 hk
          go_wp2_with fail
          go_ret2
          refine .inr ⟨?_, _, ⟨g, rfl⟩, (HR1.out.1.trans HR2.out.2.1).trans HR3.out.2⟩
          rw [HM1.out, HR2.out.1]; simp only [Option.bind_some]; rw [HR3.out.1]; rfl
      · have HR2 := Aside0.mk (⟨hl, hk⟩ : _ ∧ Keeps E.pb E.qb w1 w2)
        clear hl hk
        go_wp2_with fail
        go_ret2
        refine .inr ⟨?_, _, ⟨g, rfl⟩, HR1.out.1.trans HR2.out.2⟩
        rw [HM1.out, HR2.out.1]; rfl
    · have hvb : (t1.value.toList == [111, 110]) = false := beq_eq_false_iff_ne.2 fun e => hon (e.trans on_list.symm)
      by_cases hk15 : t1.kind = 15
      · have hkb : (t1.kind == 15) = true := by rw [hk15]; rfl
        rw [if_pos ⟨hk15, hon⟩] at hM1
        have HM1 := Aside0.mk hM1
        have HFF := Aside0.mk (HF.out w1 t1 HR1.out.2 (by have a := HR1.out.1.size; omega))
        rw [if_neg hon] at HFF
        clear hM1 hk15 hon
        go_wp2_with fail
        refine HPK.out.mono ?_
        rintro e w1' ⟨rfl, rfl⟩
        go_wp2_with fail
        refine HFF.out.mono ?_
        rintro e w3 (⟨s2, t2, v, h2, rfl, ⟨n2, rfl, hg⟩, hk, hp⟩ | ⟨h2, v, ⟨g, rfl⟩, hk⟩)
        · have HDD := Aside0.mk (HD.out w3 t2 hp (by have a := HR1.out.1.size; have b := hk.size; omega) (by have a := HMU.out; have c := HPN.out _ _ HR1.out.2.le h2; simp only at c; show mu E.s t2 < n; omega))
          have HR2 := Aside0.mk (⟨h2, hg, hk, hp⟩ : _ ∧ GName L s2 w3 (ptr n2) ∧ Keeps E.pb E.qb w1 w3 ∧ PS E w3 t2)
          clear h2 hg hk hp
          go_wp2_with fail
          refine HDD.out.mono ?_
          rintro e w5 (⟨xd, t4, vd, h4, rfl, hg, hk, hp⟩ | ⟨h4, v, ⟨g, rfl⟩, hk⟩)
          · obtain ⟨A2, c2, rfl⟩ := growD_shape hg
            have HLC := Aside0.mk (loc_any E w5 t4 t.start L hp (by have a := HR1.out.1.size; have b := HR2.out.2.2.1.size; have x := hk.size; omega))
            have HR4 := Aside0.mk (⟨h4, hg, hk, hp⟩ : _ ∧ GRowD L (GDir L n) xd w5 (.slice A2 xd.length c2) ∧ Keeps E.pb E.qb w3 w5 ∧ PS E w5 t4)
            clear h4 hg hk hp
            go_wp2_with fail
            refine HLC.out.mono ?_
            rintro e w7 ⟨v, rfl, hg, ⟨a, rfl⟩, hb⟩
            have HB7 := Aside0.mk hb
            have HGL := Aside0.mk hg
            clear hb hg
            go_wp2_with fail
            refine (new_FragmentSpread w7.heap.size _ a (some ⟨n2, 0, none⟩) A2 xd.length c2 _ (Blk.new _ _ _)).mono ?_
            rintro e w8 ⟨f, rfl, hn, ⟨s5, hb8⟩, hk8⟩
            have HB8 := Aside0.mk hb8
            have HK8 := Aside0.mk hk8
            clear hb8 hk8
            go_wp2_with fail
            have hbb := made_two HB7.out HK8.out
            have hb45 := made_below HK8.out
            have hLn : L ≤ f := by have a := HR1.out.1.size; have b := HR2.out.2.2.1.size; have c := HR4.out.2.2.1.size; have d := HB7.out.size; omega
            refine bodyPost_ret (v := .tuple #[.iface 238 (.pointer (some ⟨f, 0, none⟩)), .nilIface]) (by simp [results, Tryz.results112, go_sem]) rfl (spread_made hEL hnN (by rw [HM1.out, HR2.out.1]; simp only [Option.bind_some]; rw [HR4.out.1]; rfl) (HR1.out.1.trans HR2.out.2.2.1) HR2.out.2.1 HR4.out.2 hbb (st_gloc HGL.out hb45) hLn HB8.out)
          · have HR4 := Aside0.mk (⟨h4, hk⟩ : _ ∧ Keeps E.pb E.qb w3 w5)
            clear h4 hk
            go_wp2_with fail
            go_ret2
            refine .inr ⟨?_, _, ⟨g, rfl⟩, (HR1.out.1.trans HR2.out.2.2.1).trans HR4.out.2⟩
            rw [HM1.out, HR2.out.1]; simp only [Option.bind_some]; rw [HR4.out.1]; rfl
        · have HR2 := Aside0.mk (⟨h2, hk⟩ : _ ∧ Keeps E.pb E.qb w1 w3)
          clear h2 hk
          go_wp2_with fail
          go_ret2
          refine .inr ⟨?_, _, ⟨g, rfl⟩, HR1.out.1.trans HR2.out.2⟩
          rw [HM1.out, HR2.out.1]; rfl
      · have hkb : (t1.kind == 15) = false := beq_eq_false_iff_ne.2 hk15
        rw [if_neg (fun h => hk15 h.1), if_neg hon] at hM1
        clear hk15 hon
        go_wp2_with fail
        refine HPK.out.mono ?_
        rintro e w1' ⟨rfl, rfl⟩
        obtain ⟨t2, ht2⟩ : ∃ t2, t2 = t1 := ⟨_, rfl⟩
        obtain ⟨w3, hw3⟩ : ∃ w3, w3 = w1 := ⟨_, rfl⟩
        subst ht2 hw3
        have HH := Aside0.mk (show GHead E L st n w goal none emp t2 w3 from ⟨hM1, .inl ⟨rfl, rfl⟩, HR1.out.1, HR1.out.2, HMU.out⟩)
        clear HR1 HPK hM1 HMU
        have HDD := Aside0.mk (HD.out w3 t2 HH.out.ps (by have a := HH.out.keep.size; omega) HH.out.nu)
        go_wp2_with fail
        refine HDD.out.mono ?_
        rintro e w5 (⟨xd, t4, vd, h4, rfl, hg, hk, hp⟩ | ⟨h4, v, ⟨g, rfl⟩, hk⟩)
        · obtain ⟨A2, c2, rfl⟩ := growD_shape hg
          have hnu4 : mu E.s t4 < n := by have a := HH.out.nu; have c := HPD.out t2 _ HH.out.ps.le h4; simp only at c; omega
          have HSS := Aside0.mk (HS.out w5 t4 hp (by have a := HH.out.keep.size; have c := hk.size; omega) hnu4)
          have HR4 := Aside0.mk (⟨h4, hg, hk, hp⟩ : _ ∧ GRowD L (GDir L n) xd w5 (.slice A2 xd.length c2) ∧ Keeps E.pb E.qb w3 w5 ∧ PS E w5 t4)
          clear h4 hg hk hp hnu4
          go_wp2_with fail
          refine HSS.out.mono ?_
          rintro e w6 (⟨ys, t6, v, h5, rfl, ⟨ns, rfl, hg⟩, hk, hp⟩ | ⟨h5, v, ⟨g, rfl⟩, hk⟩)
          · have HR5 := Aside0.mk (⟨h5, hg, hk, hp⟩ : st t4 = some (ys, t6) ∧ S ys w6 (ptr ns) ∧ Keeps E.pb E.qb w5 w6 ∧ PS E w6 t6)
            clear h5 hg hk hp
            have HLC := Aside0.mk (loc_any E w6 t6 t.start L HR5.out.2.2.2 (by have a := HH.out.keep.size; have c := HR4.out.2.2.1.size; have x := HR5.out.2.2.1.size; omega))
            go_wp2_with fail
            refine HLC.out.mono ?_
            rintro e w7 ⟨v, rfl, hg, ⟨a, rfl⟩, hb⟩
            have HB7 := Aside0.mk hb
            have HGL := Aside0.mk hg
            clear hb hg
            go_wp2_with fail
            refine (new_InlineFragment w7.heap.size _ a (none) A2 xd.length c2 (some ⟨ns, 0, none⟩) _ (Blk.new _ _ _)).mono ?_
            rintro e w8 ⟨f, rfl, hn, ⟨s5, hb8⟩, hk8⟩
            have HB8 := Aside0.mk hb8
            have HK8 := Aside0.mk hk8
            clear hb8 hk8
            go_wp2_with fail
            have hbb := made_two HB7.out HK8.out
            have hb45 := made_below HK8.out
            have hLn : L ≤ f := by have a := HH.out.keep.size; have c := HR4.out.2.2.1.size; have d := HB7.out.size; have x := HR5.out.2.2.1.size; omega
            refine bodyPost_ret (v := .tuple #[.iface 241 (.pointer (some ⟨f, 0, none⟩)), .nilIface]) (by simp [results, Tryz.results112, go_sem]) rfl (inline_made hEL hnN hS HH.out HR4.out HR5.out hbb (st_gloc HGL.out hb45) hLn HB8.out)
          · have HR5 := Aside0.mk (⟨h5, hk⟩ : _ ∧ Keeps E.pb E.qb w5 w6)
            clear h5 hk
            go_wp2_with fail
            go_ret2
            refine .inr ⟨?_, _, ⟨g, rfl⟩, (HH.out.keep.trans HR4.out.2.2.1).trans HR5.out.2⟩
            rw [HH.out.mod]; unfold nG2; rw [HR4.out.1]; simp only [Option.bind_some]; rw [HR5.out.1]; rfl
        · have HR4 := Aside0.mk (⟨h4, hk⟩ : _ ∧ Keeps E.pb E.qb w3 w5)
          clear h4 hk
          go_wp2_with fail
          go_ret2
          refine .inr ⟨?_, _, ⟨g, rfl⟩, HH.out.keep.trans HR4.out.2⟩
          rw [HH.out.mod]; unfold nG2; rw [HR4.out.1]; rfl
  · have hM1 := HM.out
    rw [h1] at hM1
    have HR1 := Aside0.mk (⟨hM1, hk⟩ : _ ∧ Keeps E.pb E.qb w w1)
    clear h1 hk hM1 HM
    go_wp2_with fail
    go_ret2
    exact .inr ⟨HR1.out.1, _, ⟨g, rfl⟩, HR1.out.2⟩
end Go.Proofs.YthbinlnpipgobaaGreatDoor.Par
