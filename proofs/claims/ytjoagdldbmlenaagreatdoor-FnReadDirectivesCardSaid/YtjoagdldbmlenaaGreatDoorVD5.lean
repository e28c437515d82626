import Derived.Test.YtjoagdldbmlenaaGreatDoorVD4
import Derived.Test.YtjoagdldbmlenaaGreatDoorVD2
import Derived.Test.YtjoagdldbmlenaaGreatDoorVD3
import Derived.ArgAppend
set_option maxRecDepth 100000
set_option maxHeartbeats 8000000
set_option linter.unusedVariables false
set_option linter.unusedSimpArgs false
namespace Go.Proofs.YtjoagdldbmlenaaGreatDoor.Par
open Go.RowKit Go.Proofs.YtjoagdldbmlenaaGreatDoorW.PrintWords Keep Go.Proofs.YtjoagdldbmlenaaGreatDoor.Mod Sim Four Step Env Err Lx Ast New Tree Fuel
def Res {α : Type} (E : At) (w : World) (r : Option (α × Tok)) (V : α → World → Value → Prop) (e : Ending) (w' : World) : Prop :=
 (∃ y t' v, r = some (y, t') ∧ e = .returned (.tuple #[v, .nilIface]) ∧ V y w' v ∧ Keeps E.pb E.qb w w' ∧ PS E w' t') ∨ (r = none ∧ ∃ v, PErr E w v e w')
theorem nname_some {lx : Lx} {t t' : Tok} (h : mName lx t = some t') : nName lx t = some (t.value, t') := by unfold nName; rw [h]; rfl
theorem nname_none {lx : Lx} {t : Tok} (h : mName lx t = none) : nName lx t = none := by unfold nName; rw [h]; rfl
theorem name_any (E : At) (w : World) (t : Tok) (L : Nat) (hP : PS E w t) (hL : L ≤ w.heap.size) :
  Calls Tryz.prog 59 #[.pointer (some ⟨E.pb, 0, none⟩)] w (Res E w (nName (E.lx) t) (fun s w' v => ∃ n, v = .pointer (some ⟨n, 0, none⟩) ∧ GName L s w' (ptr n))) := by
 cases h : mName (E.lx) t with
 | some t' => exact (name_yes E w t t' L hP hL h).mono fun e w' ⟨n, h1, h2, h3, h4⟩ => .inl ⟨_, t', _, nname_some h, h1, ⟨n, rfl, h2⟩, h3, h4⟩
 | none => exact (name_no E w t hP h).mono fun e w' h1 => .inr ⟨nname_none h, _, h1⟩
theorem expect_any (E : At) (w : World) (t : Tok) (k : Int) (hP : PS E w t) :
  Calls Tryz.prog 58 #[.pointer (some ⟨E.pb, 0, none⟩), .int .i64 k] w fun e w' =>
   (∃ t', mTok (E.lx) k t = some t' ∧ e = .returned (.tuple #[tokV t, .nilIface]) ∧ Keeps E.pb E.qb w w' ∧ PS E w' t') ∨ (mTok (E.lx) k t = none ∧ (∃ g, e = .returned (.tuple #[tokV t, errV g])) ∧ Keeps E.pb E.qb w w') := by
 cases h : mTok (E.lx) k t with
 | some t' => exact (expect_some E w t t' k hP h).mono fun e w' ⟨h1, h2, h3⟩ => .inl ⟨t', rfl, h1, h2, h3⟩
 | none => exact (expect_none E w t k hP h).mono fun e w' ⟨h1, h2⟩ => .inr ⟨rfl, h1, h2⟩
theorem skip_any (E : At) (w : World) (t : Tok) (k : Int) (hP : PS E w t) (hk : t.kind = k) :
  Calls Tryz.prog 95 #[.pointer (some ⟨E.pb, 0, none⟩), .int .i64 k] w fun e w' =>
   (∃ t', E.lx t.stop = some t' ∧ e = .returned (.tuple #[.bool true, .nilIface]) ∧ Keeps E.pb E.qb w w' ∧ PS E w' t') ∨ (E.lx t.stop = none ∧ (∃ g, e = .returned (.tuple #[.bool true, errV g])) ∧ Keeps E.pb E.qb w w') := by
 subst hk
 cases h : E.lx t.stop with
 | some t' => exact (skip_yes E w t t' hP h).mono fun e w' ⟨h1, h2, h3⟩ => .inl ⟨t', rfl, h1, h2, h3⟩
 | none => exact (skip_err E w t hP h).mono fun e w' ⟨h1, h2⟩ => .inr ⟨rfl, h1, h2⟩
theorem grow_shape {L : Nat} {P : NL → World → Value → Prop} {xs : List NL} {w : World} {v : Value} (h : GRow L P xs w v) : ∃ A c, v = .slice A xs.length c := by
 obtain ⟨A, c, h, _⟩ := h; exact ⟨A, c, h⟩
theorem lower {L M : Nat} (h : M ≤ L) {w : World} {g i : Nat} {x : Value} (hc : Cl2 L w g i x) : Cl2 M w g i x := ⟨Nat.le_trans h hc.1, hc.2⟩
theorem low_loc {L M : Nat} (h : M ≤ L) {w : World} {v : Value} (hv : GLoc L w v) : GLoc M w v := by
 obtain ⟨g, a, b, e, h1, h2⟩ := hv; exact ⟨g, a, b, e, lower h h1, lower h h2⟩
theorem low_name {L M : Nat} (h : M ≤ L) {s : ByteArray} {w : World} {v : Value} (hv : GName L s w v) : GName M s w v := by
 obtain ⟨g, e, h1⟩ := hv; exact ⟨g, e, lower h h1⟩
theorem low_row {L M : Nat} (h : M ≤ L) {P Q : NL → World → Value → Prop} {xs : List NL} {w : World} {v : Value} (hPQ : ∀ y x, P y w x → Q y w x) (hv : GRow L P xs w v) : GRow M Q xs w v := by
 obtain ⟨A, c, e2, hr⟩ := hv
 refine ⟨A, c, e2, ?_⟩
 rcases hr with hr | ⟨b, o, h5, h6⟩
 ·exact .inl hr
 ·exact .inr ⟨b, o, h5, fun i y hi => by
   obtain ⟨x, hx, hg⟩ := h6 i y hi
   exact ⟨x, lower h hx, hPQ _ _ hg⟩⟩
theorem low_val {L M : Nat} (h : M ≤ L) {w : World} : ∀ {n : Nat} {y : NL} {v : Value}, GVal L n y w v → GVal M n y w v
 | 0, _, _, hv => absurd hv (by intro h; cases h)
 | n + 1, y, v, ⟨g, lv, h2, h3, h4⟩ => ⟨g, lv, lower h h2, low_loc h h3, by
   rcases h4 with ⟨e, nv, s, a, b, e2⟩ | ⟨e, s, a, e2⟩ | ⟨e, s, a, e2⟩ | ⟨e, s, a, e2⟩ | ⟨e, b, a, e2⟩ | ⟨e, s, a, e2⟩ | ⟨e, sv, xs, a, b, e2⟩ | ⟨e, sv, xs, a, b, e2⟩
   ·exact .inl ⟨e, nv, s, lower h a, low_name h b, e2⟩
   ·exact .inr (.inl ⟨e, s, lower h a, e2⟩)
   ·exact .inr (.inr (.inl ⟨e, s, lower h a, e2⟩))
   ·exact .inr (.inr (.inr (.inl ⟨e, s, lower h a, e2⟩)))
   ·exact .inr (.inr (.inr (.inr (.inl ⟨e, b, lower h a, e2⟩))))
   ·exact .inr (.inr (.inr (.inr (.inr (.inl ⟨e, s, lower h a, e2⟩)))))
   ·exact .inr (.inr (.inr (.inr (.inr (.inr (.inl ⟨e, sv, xs, lower h a, low_row h (fun y x hx => low_val h hx) b, e2⟩))))))
   ·refine .inr (.inr (.inr (.inr (.inr (.inr (.inr ⟨e, sv, xs, lower h a, low_row h (fun y x hx => ?_) b, e2⟩))))))
    obtain ⟨f, lf, nv, s, z, u', k1, k2, k3, k4, k5, k6, k7, k8⟩ := hx
    exact ⟨f, lf, nv, s, z, u', k1, lower h k2, low_loc h k3, lower h k4, low_name h k5, lower h k6, low_val h k7, k8⟩⟩
theorem low_fld {L M n : Nat} (h : M ≤ L) {y : NL} {w : World} {x : Value} (hx : GFld L n y w x) : GFld M n y w x := by
 obtain ⟨f, lf, nv, s, z, u', k1, k2, k3, k4, k5, k6, k7, k8⟩ := hx
 exact ⟨f, lf, nv, s, z, u', k1, lower h k2, low_loc h k3, lower h k4, low_name h k5, lower h k6, low_val h k7, k8⟩
theorem value_of_lit (E : At) (w : World) (Q : Ending → World → Prop) (h : Calls Tryz.prog 97 #[.pointer (some ⟨E.pb, 0, none⟩), .bool false] w fun e w' => (∃ x y, e = .returned (.tuple #[x, y])) ∧ Q e w') :
  Calls Tryz.prog 128 #[.pointer (some ⟨E.pb, 0, none⟩)] w Q := by
 have H := aK h
 clear h
 go_enter Tryz.func128, Tryz.ntmps128
 go_wp2_with fail
 refine H.out.mono ?_
 rintro e w2 ⟨⟨x, y, rfl⟩, hq⟩
 have HQ := aK hq
 clear hq
 go_wp2_with fail
 exact HQ.out
theorem vres_shape {E : At} {L : Nat} {r : Option (NL × Tok)} {n : Nat} {w w' : World} {e : Ending} (h : VRes E L r n w e w') : ∃ x y, e = .returned (.tuple #[x, y]) := by
 rcases h with ⟨y, t', ty, x, _, h, _⟩ | ⟨_, v, ⟨g, h⟩, _⟩
 ·exact ⟨_, _, h⟩
 ·exact ⟨_, _, h⟩
theorem const_of_lit (E : At) (w : World) (L : Nat) (r : Option (NL × Tok)) (n : Nat) (h : Calls Tryz.prog 97 #[.pointer (some ⟨E.pb, 0, none⟩), .bool true] w fun e w' => VRes E L r n w e w') :
  Calls Tryz.prog 129 #[.pointer (some ⟨E.pb, 0, none⟩)] w fun e w' => VRes E L r n w e w' := by
 have H := aK h
 clear h
 go_enter Tryz.func129, Tryz.ntmps129
 go_wp2_with fail
 refine H.out.mono ?_
 rintro e w2 (⟨y, t', ty, x, h1, rfl, hg, hk, hp⟩ | ⟨h1, v, ⟨g, rfl⟩, hk⟩)
 ·have HR := aK (⟨h1, hg, hk, hp⟩ : _ ∧ _ ∧ _ ∧ _)
  clear h1 hg hk hp
  go_wp2_with fail
  go_ret2
  exact .inl ⟨y, t', ty, x, HR.out.1, rfl, HR.out.2.1, HR.out.2.2.1, HR.out.2.2.2⟩
 ·have HR := aK (⟨h1, hk⟩ : _ ∧ _)
  clear h1 hk
  go_wp2_with fail
  go_ret2
  exact .inr ⟨HR.out.1, v, ⟨g, rfl⟩, HR.out.2⟩
theorem fld_any (E : At) (cst : Bool) (n : Nat) (HL0 : ∀ L, (E.pb < L ∧ E.qb < L) → ∀ w t, PS E w t → L ≤ w.heap.size → nu E.s t < n → Calls Tryz.prog 97 #[.pointer (some ⟨E.pb, 0, none⟩), .bool cst] w fun e w' => VRes E L (nVal E.lx cst n t) n w e w') (L : Nat) (hEL : E.pb < L ∧ E.qb < L) (w : World) (t : Tok) (hP : PS E w t) (hL : L ≤ w.heap.size) (hlt : nu E.s t < n) :
  Calls Tryz.prog 131 #[.pointer (some ⟨E.pb, 0, none⟩), .bool cst] w (Res E w (nPair (E.lx) 19 (nVal E.lx cst n) t) (fun y w' v => ∃ g, v = .pointer (some ⟨g, 0, none⟩) ∧ GFld L n y w' (ptr g))) := by
 have HN := aK (name_any E w t L hP hL)
 have HX := aK (fun W t1 (h : PS E W t1) => expect_any E W t1 7 h)
 have HV := aK (fun W t1 (h : PS E W t1) hl hn => HL0 L hEL W t1 h hl hn)
 have HM : Aside0 (∀ x, nName (E.lx) t = some x → x.2.stop ≤ E.s.size ∧ mu E.s x.2 + 1 ≤ mu E.s t) := ⟨fun x h => ⟨(WtL.wt_name hP.src.ok.prog t x hP.le h).1, (WtL.wt_name hP.src.ok.prog t x hP.le h).2.1⟩⟩
 have HM2 : Aside0 (∀ t1 t2, t1.stop ≤ E.s.size → mTok (E.lx) 7 t1 = some t2 → t2.stop ≤ E.s.size ∧ mu E.s t2 + 1 ≤ mu E.s t1) := ⟨fun t1 t2 h1 h2 => WtL.prg_tok hP.src.ok.prog (by decide) t1 t2 h1 h2⟩
 have HLT := aK (show mu E.s t < n from hlt)
 obtain ⟨c1, c2, c3, c4, c5, c6, c7, c8⟩ := ps_cells hP
 clear hP hlt c1 c2 c3 c4 c5 c7 c8
 go_enter Tryz.func131, Tryz.ntmps131
 go_wp2_with fail
 refine HN.out.mono ?_
 rintro e w2 (⟨nm, t1, v, h1, rfl, ⟨n1, rfl, hg⟩, hk, hp⟩ | ⟨h1, v, ⟨g, rfl⟩, hk⟩)
 ·have HR1 := aK (⟨h1, hg, hk, hp⟩ : _ ∧ GName L nm w2 (ptr n1) ∧ Keeps E.pb E.qb w w2 ∧ PS E w2 t1)
  have HXX := aK (HX.out w2 t1 hp)
  clear h1 hg hk hp
  go_wp2_with fail
  refine HXX.out.mono ?_
  rintro e w3 (⟨t2, h2, rfl, hk, hp⟩ | ⟨h2, ⟨g, rfl⟩, hk⟩)
  ·have hl3 : L ≤ w3.heap.size := by have a := HR1.out.2.2.1.size; have b := hk.size; omega
   have HVV := aK (HV.out w3 t2 hp hl3 (by have a := HM.out _ HR1.out.1; have b := HM2.out t1 t2 a.1 h2; have c := HLT.out; show mu E.s t2 < n; simp only at a; omega))
   have HR2 := aK (⟨h2, hk⟩ : _ ∧ Keeps E.pb E.qb w2 w3)
   clear h2 hk hp
   go_wp2_with fail
   refine HVV.out.mono ?_
   rintro e w4 (⟨y, t3, ty, x, h3, rfl, hg, hk, hp⟩ | ⟨h3, v, ⟨g, rfl⟩, hk⟩)
   ·have HR3 := aK (⟨h3, hg, hk, hp⟩ : _ ∧ GVal L n y w4 (.iface ty x) ∧ Keeps E.pb E.qb w3 w4 ∧ PS E w4 t3)
    have HLC := aK (loc_any E w4 t3 t.start L hp (by have := hk.size; omega))
    clear h3 hg hk hp
    go_wp2_with fail
    refine HLC.out.mono ?_
    rintro e w5 ⟨v, rfl, hg, ⟨a, rfl⟩, hb⟩
    have HB5 := aK hb
    have HGL := aK hg
    clear hb hg
    go_wp2_with fail
    refine (new_ObjectField w5.heap.size _ (some ⟨n1, 0, none⟩) a ty x _ (Blk.new _ _ _)).mono ?_
    rintro e w6 ⟨m, rfl, hn, ⟨s5, hb6⟩, hk6⟩
    have HB6 := aK hb6
    have HK6 := aK hk6
    clear hb6 hk6
    go_wp2_with fail
    have hbb := made_two HB5.out HK6.out
    have hb45 := made_below HK6.out
    have hLn : L ≤ m := by have h2 := HB5.out.size; have h3 := HR3.out.2.2.1.size; omega
    have hu24 : Up L w2 w4 := (Up.of_keeps HR2.out.2 hEL.1 hEL.2).trans (Up.of_keeps HR3.out.2.2.1 hEL.1 hEL.2)
    have hu46 : Up L w4 w6 := Up.of_below hbb
    have hmod : nPair (E.lx) 19 (nVal E.lx cst n) t = some (nd 19 nm emp emp 0 [y], t3) := by unfold nPair; rw [HR1.out.1]; simp only [Option.bind_some]; rw [HR2.out.1]; simp only [Option.bind_some]; rw [HR3.out.1]; rfl
    refine bodyPost_ret (v := .tuple #[.pointer (some ⟨m, 0, none⟩), .nilIface]) (by simp [results, Tryz.results131, go_sem]) rfl (.inl ⟨_, t3, _, hmod, rfl, ⟨m, rfl, ⟨m, _, _, nm, y, _, rfl, .of_blk HB6.out hLn rfl (by decide), st_gloc HGL.out hb45, .of_blk HB6.out hLn rfl (by decide), st_name _ _ _ (hu24.trans hu46) HR1.out.2.1, .of_blk HB6.out hLn rfl (by decide), st_val n _ _ _ _ hu46 HR3.out.2.1, rfl⟩⟩, ((HR1.out.2.2.1.trans HR2.out.2).trans HR3.out.2.2.1).then hbb, HR3.out.2.2.2.below hbb⟩)
   ·have HR3 := aK (⟨h3, hk⟩ : _ ∧ Keeps E.pb E.qb w3 w4)
    clear h3 hk
    go_wp2_with fail
    go_ret2
    refine .inr ⟨?_, _, ⟨g, rfl⟩, (HR1.out.2.2.1.trans HR2.out.2).trans HR3.out.2⟩
    unfold nPair; rw [HR1.out.1]; simp only [Option.bind_some]; rw [HR2.out.1]; simp only [Option.bind_some]; rw [HR3.out.1]; rfl
  ·have HR2 := aK (⟨h2, hk⟩ : _ ∧ Keeps E.pb E.qb w2 w3)
   clear h2 hk
   go_wp2_with fail
   go_ret2
   refine .inr ⟨?_, _, ⟨g, rfl⟩, HR1.out.2.2.1.trans HR2.out.2⟩
   unfold nPair; rw [HR1.out.1]; simp only [Option.bind_some]; rw [HR2.out.1]; rfl
 ·have HR1 := aK (⟨h1, hk⟩ : _ ∧ Keeps E.pb E.qb w w2)
  clear h1 hk
  go_wp2_with fail
  go_ret2
  refine .inr ⟨?_, _, ⟨g, rfl⟩, HR1.out.2⟩
  unfold nPair; rw [HR1.out.1]; rfl
end Go.Proofs.YtjoagdldbmlenaaGreatDoor.Par
namespace Go
theorem wpList_append_two {P : Program} (w : World) {ops : Array Oper} {rest : List Oper} {o : Oper} {a : Act} {Q : Exit → Act → World → Prop} (hgd : o.guard = none) (s x : Operand) (t : TypeId)
  (ho : o.op = .call { callee := .builtin .append, args := #[s, x], argTypes := #[t, t] })
  (base : Nat) (e : TypeId) (i : TypeInfo) (z : Value) (size bytes : Nat) (ht : P.underlying t = some (.slice e)) (hi : P.info? e = some i) (hz : i.zero = some z)
  (hsize : i.size = size) (hby : i.bytes = bytes) (hzs : z.cells.size = size) (hsz : 0 < size)
  (v : Value) (n : Nat) (xs : List Value) (hs : a.eval s = v) (hown : w.ownsRow base e size v n xs)
  (ad : Addr) (m c : Nat) (news : List Value) (hx : a.eval x = .slice (some ad) m c) (hl : news.length = m * size) (hnews : ∀ j u, news[j]? = some u → w.cell? (ad.add j) = some u) (h1 : ∀ u ∈ news, u.oneCell' = true)
  (h63 : n + m ≤ maxLen) (hbytes : (n + m) * bytes ≤ 140737488355328) (hbase : base ≤ w.heap.size) (hm : 0 < m)
  (h : ∀ v' w', w'.ownsRow base e size v' (n + m) (xs ++ news) → w.grownBy w' v.ownBlock → (v'.ownBlock = v.ownBlock ∨ ∃ g, v'.ownBlock = some g ∧ w.heap.size ≤ g) → wpList P ops Q rest (a.put o.dst v') w') : wpList P ops Q (o :: rest) a w := by
 have hlow : ∀ {w' : World} {v' : Value} {k : Nat} {ys : List Value}, base ≤ w.heap.size → 0 < k → w'.ownsRow w.heap.size e size v' k ys → w'.ownsRow base e size v' k ys ∧ ∃ g, v'.ownBlock = some g ∧ w.heap.size ≤ g := by
  intro w' v' k ys hb hk ho
  obtain ⟨hlen, ho⟩ := ho
  rcases ho with ⟨_, h0⟩ | ⟨g, cap, cur, rfl, hg, r⟩
  ·omega
  ·exact ⟨⟨hlen, .inr ⟨g, cap, cur, rfl, Nat.le_trans hb hg, r⟩⟩, g, rfl, hg⟩
 have key : ∃ v' w', (Builtin.append_ #[t, t] o.type #[v, .slice (some ad) m c]).run P w = .ok v' w' ∧ w'.ownsRow base e size v' (n + m) (xs ++ news) ∧ w.grownBy w' v.ownBlock ∧ (v'.ownBlock = v.ownBlock ∨ ∃ g, v'.ownBlock = some g ∧ w.heap.size ≤ g) := by
  have hown' := hown
  rcases hown'.2 with ⟨rfl, rfl⟩ | ⟨g, cap, cur, rfl, hbg, hg, hnc, hcm, hcs, htake⟩
  ·obtain rfl : xs = [] := List.eq_nil_of_length_eq_zero (by simpa using hown.1)
   obtain ⟨v', w', hr, h2, h3, _⟩ := run_append_own (P := P) w w.heap.size t o.type e i z size bytes ht hi hz hsize hby hzs hsz _ 0 [] (World.ownsRow_nil w _ e size) ad m c news hl hnews h1 h63 hbytes (Nat.le_refl _)
   have := hlow hbase (by omega) h2
   exact ⟨v', w', hr, this.1, h3, .inr this.2⟩
  ·by_cases hroom : n + m ≤ cap
   ·subst hsize
    have hfit : n * i.size + news.length ≤ cur.size := by rw [hl, hcs, ← Nat.add_mul]; exact Nat.mul_le_mul_right _ hroom
    have hr := run_append_room (P := P) w t o.type e i ht hi g n cap cur hg ad m c news hl hnews h1 hroom hfit
    have hlen : (xs ++ news).length = (n + m) * i.size := by rw [List.length_append, hown.1, hl, Nat.add_mul]
    refine ⟨_, _, hr, ⟨hlen, .inr ⟨g, cap, _, rfl, hbg, setRow_heap w g cur _ e _ hg, hroom, hcm, ?_, ?_⟩⟩, ⟨rfl, rfl, rfl, by simp, fun k _ hk => setRow_other w g k _ (fun e => hk (by simp [Value.ownBlock, e]))⟩, .inl rfl⟩
    ·simp only [List.size_toArray, List.length_append, List.length_take, List.length_drop, Array.length_toList]
     omega
    ·rw [htake, ← hlen]
     exact List.take_left
   ·have holds : ∀ j u, xs[j]? = some u → w.cell? ((⟨g, 0, none⟩ : Addr).add j) = some u := hown.cells (g := g) rfl
    obtain ⟨v', w', hr, h2, h3⟩ := run_append_arg_grows (P := P) w t o.type e i z size bytes ht hi hz hsize hby hzs hsz ⟨g, 0, none⟩ n cap xs hown.1 holds ad m c news hl hnews (by omega) h63 hbytes
    have := hlow hbase (by omega) h2
    exact ⟨v', w', hr, this.1, ⟨h3.os, h3.tape, h3.output, h3.size, fun k hk _ => h3.block k hk (by simp)⟩, .inr this.2⟩
 obtain ⟨v', w', hr, h2, h3, h4⟩ := key
 refine wpList_plain hgd fun K hK => ?_
 unfold Oper.wp execOp
 simp only [ho, resolve, invoke, builtin, Sem.run_bind, Sem.run_pure, Result.andThen_ok, List.map_toArray, List.map_cons, List.map_nil, hs, hx, hr]
 exact hK _ _ (h v' w' h2 h3 h4)
end Go
namespace Go.Proofs.YtjoagdldbmlenaaGreatDoor.Par
open Go.RowKit Go.Proofs.YtjoagdldbmlenaaGreatDoorW.PrintWords Go.Proofs.YtjoagdldbmlenaaGreatDoor.Keep Go.Proofs.YtjoagdldbmlenaaGreatDoor.Mod Go.Proofs.YtjoagdldbmlenaaGreatDoor.Env Go.Proofs.YtjoagdldbmlenaaGreatDoor.Ast Go.Proofs.YtjoagdldbmlenaaGreatDoor.Tree
def Same (L : Nat) (w0 w : World) : Prop := ∀ b, L ≤ b → b < w0.heap.size → w.heap[b]? = w0.heap[b]?
theorem Same.up2 {L : Nat} {w0 w : World} (h : Same L w0 w) : Up2 L w0 w := fun b cs T fr hb _ _ hx => by
 have hlt : b < w0.heap.size := by
  rcases Nat.lt_or_ge b w0.heap.size with h1 | h1
  ·exact h1
  ·rw [Array.getElem?_eq_none h1] at hx; cases hx
 rw [h b hb hlt]; exact hx
structure Snap (L n : Nat) (own : Option Nat) (w : World) (y : NL) (x : Value) : Prop where
 was : ∃ w0 L', L ≤ L' ∧ GFld L' n y w0 x ∧ Same L' w0 w ∧ w0.heap.size ≤ w.heap.size ∧ ∀ g, own = some g → g < L' ∨ w0.heap.size ≤ g
theorem Snap.fld {L n : Nat} {own : Option Nat} {w : World} {y : NL} {x : Value} (h : Snap L n own w y x) : GFld L n y w x := by
 obtain ⟨w0, L', h1, h2, h3, _⟩ := h.was
 exact low_fld h1 (s2_fld _ _ _ h3.up2 h2)
theorem Snap.keep {L n p q : Nat} {own : Option Nat} {w w' : World} {y : NL} {x : Value} (h : Snap L n own w y x) (hk : Keeps p q w w') (hp : p < L) (hq : q < L) : Snap L n own w' y x := by
 obtain ⟨w0, L', h1, h2, h3, h4, h5⟩ := h.was
 exact ⟨w0, L', h1, h2, fun b hb hl => (hk.block b (by omega) (by omega) (by omega)).trans (h3 b hb hl), Nat.le_trans h4 hk.size, h5⟩
theorem Snap.alloc {L n : Nat} {own : Option Nat} {w : World} {y : NL} {x : Value} (h : Snap L n own w y x) (o : Obj) : Snap L n own (w.alloc o) y x := by
 obtain ⟨w0, L', h1, h2, h3, h4, h5⟩ := h.was
 exact ⟨w0, L', h1, h2, fun b hb hl => (Below.heap_alloc w o b (by omega)).trans (h3 b hb hl), by simp; omega, h5⟩
theorem Snap.grown {L n : Nat} {own own' : Option Nat} {w w' : World} {y : NL} {x : Value} (h : Snap L n own w y x) (hg : w.grownBy w' own) (ho : own' = own ∨ ∃ g, own' = some g ∧ w.heap.size ≤ g) : Snap L n own' w' y x := by
 obtain ⟨w0, L', h1, h2, h3, h4, h5⟩ := h.was
 refine ⟨w0, L', h1, h2, fun b hb hl => (hg.block b (by omega) (fun e => by have := h5 b e.symm; omega)).trans (h3 b hb hl), Nat.le_trans h4 hg.size, fun g e => ?_⟩
 rcases ho with rfl | ⟨g', e', hg'⟩
 ·exact h5 g e
 ·rw [e] at e'
  obtain rfl := Option.some.inj e'
  exact .inr (by omega)
end Go.Proofs.YtjoagdldbmlenaaGreatDoor.Par
namespace Go.Proofs.YtjoagdldbmlenaaGreatDoor.Par
open Go.RowKit Go.Proofs.YtjoagdldbmlenaaGreatDoorW.PrintWords Keep Go.Proofs.YtjoagdldbmlenaaGreatDoor.Mod Sim Four Step Env Err Lx Ast New Tree Fuel
theorem infoFld : (Tryz.prog.info? 144).map (fun i => (i.zero, i.size, i.bytes)) = some (some (.pointer none), 1, 8) := by kernel_rfl
structure ObjInv (E : At) (L n : Nat) (f : Tok → Option (NL × Tok)) (w : World) (base : Nat) (goal : Option (List NL × Tok)) (N k i : Nat) (ys : List NL) (tk : Tok) (v : Value) (wr : World) : Prop where
 ps : PS E wr tk
 fuel : nu E.s tk < k
 row : ∃ xs, wr.ownsRow base 144 1 v i xs ∧ Both (Snap L n v.ownBlock wr) ys xs
 len : ys.length = i
 goal : (nMany (E.lx) f 14 k tk).map (fun x => (ys ++ x.1, x.2)) = goal
 few : i + k ≤ N
 keep : Keeps E.pb E.qb w wr
 size : base ≤ wr.heap.size
theorem obj_step {E : At} {L n base : Nat} {f : Tok → Option (NL × Tok)} {w wr w2 w3 : World} {goal : Option (List NL × Tok)} {N k i : Nat} {ys : List NL} {y : NL} {tk t2 t0 : Tok} {v v' : Value} {xs : List Value} {x : Value} {o : Obj} (h : ObjInv E L n f w base goal N (k + 1) i ys tk v wr) (hkc : tk.kind ≠ 14) (hf : f tk = some (y, t2)) (hnu : nu E.s t2 < nu E.s tk) (hEL : E.pb < L ∧ E.qb < L) (hL : L ≤ base) (h0 : PS E w t0) (hwb : w.heap.size ≤ base) (hk2 : Keeps E.pb E.qb wr w2) (hp2 : PS E w2 t2) (hx : GFld wr.heap.size n y w2 x)
  (hown : w2.ownsRow base 144 1 v i xs) (hxs : Both (Snap L n v.ownBlock w2) ys xs) (hown' : w3.ownsRow base 144 1 v' (i + 1) (xs ++ [x])) (hgrow : (w2.alloc o).grownBy w3 v.ownBlock) (hblk : v'.ownBlock = v.ownBlock ∨ ∃ g, v'.ownBlock = some g ∧ (w2.alloc o).heap.size ≤ g) (howr : ∀ g, v.ownBlock = some g → g < wr.heap.size) :
  ObjInv E L n f w base goal N k (i + 1) (ys ++ [y]) t2 v' w3 := by
 have hsz2 : base ≤ w2.heap.size := Nat.le_trans h.size hk2.size
 have hrow : ∀ g, v.ownBlock = some g → base ≤ g := fun g hg => (hown.lt g hg).1
 have hb3 : Below base w2 w3 := ((Below.refl base w2).alloc hsz2 o).grown hgrow (by simp; omega) (fun g hg => hrow g hg)
 have hbw : Below w.heap.size w2 w3 := hb3.mono hwb
 have hs : Snap L n v.ownBlock w2 y x := ⟨w2, wr.heap.size, by have := h.size; omega, hx, fun _ _ _ => rfl, Nat.le_refl _, fun g hg => .inl (howr g hg)⟩
 refine ⟨ps_end h0 hp2 hbw, by have := h.fuel; omega, ⟨_, hown', ?_⟩, by rw [List.length_append, h.len]; rfl, ?_, by have := h.few; omega, keeps_new (h.keep.trans hk2) hbw, Nat.le_trans hsz2 hb3.size⟩
 ·exact both_snoc ((hs.alloc o).grown hgrow hblk) (both_mono (fun y v hh => (hh.alloc o).grown hgrow hblk) hxs)
 ·have h1 := h.goal
  unfold nMany at h1
  rw [if_neg hkc, hf] at h1
  rw [← h1]
  simp only [Option.bind_some, Option.map_map]
  congr 1
  funext z
  simp
theorem obj_any (E : At) (cst : Bool) (n : Nat) (hN : n ≤ 200000) (HL0 : ∀ L, (E.pb < L ∧ E.qb < L) → ∀ w t, PS E w t → L ≤ w.heap.size → nu E.s t < n → Calls Tryz.prog 97 #[.pointer (some ⟨E.pb, 0, none⟩), .bool cst] w fun e w' => VRes E L (nVal E.lx cst n t) n w e w') (L : Nat) (hEL : E.pb < L ∧ E.qb < L) (w : World) (t : Tok) (hP : PS E w t) (hL : L ≤ w.heap.size) (hn : nu E.s t ≤ n) :
  Calls Tryz.prog 108 #[.pointer (some ⟨E.pb, 0, none⟩), .bool cst] w fun e w' =>
   (∃ zs t' g, nRev (E.lx) (nPair (E.lx) 19 (nVal E.lx cst n)) 12 14 false n t = some (zs, t') ∧ e = .returned (.tuple #[.pointer (some ⟨g, 0, none⟩), .nilIface]) ∧ GVal L (n + 1) (nd 18 emp emp emp 0 zs) w' (.iface 140 (ptr g)) ∧ Keeps E.pb E.qb w w' ∧ PS E w' t') ∨
   (nRev (E.lx) (nPair (E.lx) 19 (nVal E.lx cst n)) 12 14 false n t = none ∧ PErr E w (.pointer none) e w') := by
 obtain ⟨i0, hi, hz0, hz1, hz2⟩ := info_parts infoFld
 have hwt : ∀ t x, t.stop ≤ E.s.size → nPair (E.lx) 19 (nVal E.lx cst n) t = some x → nu E.s x.2 < nu E.s t := fun t x h1 h2 => by
  have := (WtL.wt_pair hP.src.ok.prog (k := 19) (WtL.wt_val hP.src.ok.prog cst n) t x h1 h2).2.1
  show mu E.s x.2 < mu E.s t
  omega
 have HWT := aK hwt
 have HF := aK (fld_any E cst n HL0)
 have HX := aK (expect_any E w t 12 hP)
 have HM := aK (show nRev (E.lx) (nPair (E.lx) 19 (nVal E.lx cst n)) 12 14 false n t = (mTok (E.lx) 12 t).bind fun t1 => (nMany (E.lx) (nPair (E.lx) 19 (nVal E.lx cst n)) 14 n t1).bind fun x => if false = true ∧ x.1.length = 0 then none else some x from rfl)
 have HP := aK hP
 have HT : Aside0 (∀ t1, mTok (E.lx) 12 t = some t1 → nu E.s t1 < n) := ⟨fun t1 h => by have := (WtL.prg_tok hP.src.ok.prog (by decide) t t1 hP.le h).2; have h2 : mu E.s t ≤ n := hn; show mu E.s t1 < n; omega⟩
 generalize nRev (E.lx) (nPair (E.lx) 19 (nVal E.lx cst n)) 12 14 false n t = goal0 at *
 generalize hfe : nPair (E.lx) 19 (nVal E.lx cst n) = f at *
 obtain ⟨c1, c2, c3, c4, c5, c6, c7, c8⟩ := ps_cells hP
 clear hP hn hwt HL0 c1 c2 c3 c4 c5 c7 c8
 go_enter Tryz.func108, Tryz.ntmps108
 go_wp2_with fail
 refine HX.out.mono ?_
 rintro e w1 (⟨t1, h1, rfl, hk, hp⟩ | ⟨h1, ⟨g, rfl⟩, hk⟩)
 ·have hM1 := HM.out
  rw [h1] at hM1
  simp only [Option.bind_some] at hM1
  have HS := aK (show ObjInv E L n f w (w1.heap.size + 1) (nMany (E.lx) f 14 n t1) n n 0 [] t1 (.slice (some ⟨w1.heap.size + 1, 0, none⟩) 0 0) ((w1.alloc (.cells #[.int .i64 t.kind, .int .i64 t.start, .int .i64 t.stop, .string t.value] 59)).alloc (.cells #[] 144)) from
   ⟨(hp.below (below_alloc (Below.refl _ _) _)).below (below_alloc (Below.refl _ _) _), HT.out t1 h1, ⟨[], by simpa using own_empty (w1.alloc (.cells #[.int .i64 t.kind, .int .i64 t.start, .int .i64 t.stop, .string t.value] 59)) 144, trivial⟩, rfl, by simp, by omega, (hk.alloc _).alloc _, by simp⟩)
  have hsz1 := hk.size
  have HM1 := aK hM1
  clear HM h1 hk hp hM1
  go_wp2_with fail
  go_loopg [9] n (fun k v4 wr => ∃ i ys tk, Aside0 (ObjInv E L n f w (w1.heap.size + 1) (nMany (E.lx) f 14 n t1) n k i ys tk v4 wr))
  case atStart => exact ⟨0, [], t1, HS⟩
  case round =>
   obtain ⟨i, ys, tk, HV⟩ := hrel
   obtain ⟨k, rfl⟩ : ∃ k, gk = k + 1 := ⟨gk - 1, by have := HV.out.fuel; omega⟩
   have hvs : (u9 = .slice none 0 0 ∧ i = 0) ∨ ∃ g cap, u9 = .slice (some ⟨g, 0, none⟩) i cap := by
    obtain ⟨xs, h2, _⟩ := HV.out.row
    rcases h2.2 with h3 | ⟨g, cap, cur, h3, _⟩
    ·exact .inl h3
    ·exact .inr ⟨g, cap, h3⟩
   by_cases hk14 : tk.kind = 14
   ·have HSK := aK (skip_any E wr tk 14 HV.out.ps hk14)
    have hgn : nMany (E.lx) f 14 n t1 = (E.lx tk.stop).map fun t' => (ys, t') := by
     rw [← HV.out.goal]; unfold nMany; rw [if_pos hk14]
     cases E.lx tk.stop <;> simp
    have HG := aK (HM1.out.trans (by rw [hgn]))
    clear hk14 hgn
    go_wp2_with fail
    refine HSK.out.mono ?_
    rintro e w3 (⟨t', hl, rfl, hk, hp⟩ | ⟨hl, ⟨g, rfl⟩, hk⟩)
    ·have HK3 := aK hk
     have HP3 := aK hp
     have HG2 := aK (HG.out.trans (by rw [hl]; simp) : goal0 = some (ys, t'))
     clear hl hk hp
     have hlw : L ≤ w3.heap.size := by have a := HV.out.keep.size; have b := HK3.out.size; omega
     have HLC := aK (loc_any E w3 t' t.start L HP3.out hlw)
     have HRW : Aside0 (GRow L (GFld L n) ys w3 u9) := ⟨by
      obtain ⟨xs, hown, hxs⟩ := HV.out.row
      exact grow_of (own_keepK hown HK3.out (by have := ps_lt HP.out; omega)) (by omega) (by decide) (both_mono (fun y v h => (h.keep HK3.out hEL.1 hEL.2).fld) hxs)⟩
     obtain ⟨A8, c8, hsh⟩ := grow_shape HRW.out
     subst hsh
     go_wp2_with fail
     refine HLC.out.mono ?_
     rintro e w4 ⟨v, rfl, hg, ⟨a, rfl⟩, hb⟩
     have HB4 := aK hb
     have HGL := aK hg
     clear hb hg
     go_wp2_with fail
     refine (new_ObjectValue w4.heap.size _ a A8 ys.length c8 _ (Blk.new _ _ _)).mono ?_
     rintro e w5 ⟨g, rfl, hn5, ⟨s5, hb5⟩, hk5⟩
     have HB5 := aK hb5
     have HK5 := aK hk5
     clear hb5 hk5
     go_wp2_with fail
     have hbb := made_two HB4.out HK5.out
     have hb45 := made_below HK5.out
     have hLn : L ≤ g := by have h2 := HB4.out.size; omega
     have hrow := st_row (fun _ => s2_fld) _ _ _ (Up.of_below hbb) HRW.out
     refine bodyPost_ret (v := .tuple #[.pointer (some ⟨g, 0, none⟩), .nilIface]) (by simp [results, Tryz.results108, go_sem]) rfl (.inl ⟨ys, t', g, HG2.out, rfl, ⟨g, _, .of_blk HB5.out hLn rfl (by decide), st_gloc HGL.out hb45, .inr (.inr (.inr (.inr (.inr (.inr (.inr ⟨rfl, _, ys, .of_blk HB5.out hLn rfl (by decide), hrow, rfl⟩))))))⟩, (HV.out.keep.trans HK3.out).then hbb, HP3.out.below hbb⟩)
    ·have HK3 := aK hk
     have HG2 := aK (HG.out.trans (by rw [hl]; rfl) : goal0 = none)
     clear hl hk
     go_wp2_with fail
     go_ret2
     exact .inr ⟨HG2.out, ⟨g, rfl⟩, HV.out.keep.trans HK3.out⟩
   ·have HSK := aK (skip_no E wr tk 14 HV.out.ps hk14)
    have HFF := aK (HF.out wr.heap.size (by have := ps_lt HV.out.ps; omega) wr tk HV.out.ps (Nat.le_refl _) (by have h2 := HV.out.fuel; have h3 := HV.out.few; omega))
    have HK14 := aK hk14
    have hfew := HV.out.few
    have hszr := HV.out.size
    clear hk14
    go_wp2_with fail
    refine HSK.out.mono ?_
    rintro e w3 ⟨rfl, rfl⟩
    go_wp2_with fail
    refine HFF.out.mono ?_
    rintro e w4 (⟨y2, t2, v, hf, rfl, ⟨gf, rfl, hg⟩, hk, hp⟩ | ⟨hf, v, ⟨g, rfl⟩, hk⟩)
    ·obtain ⟨xs, hown0, hxs0⟩ := HV.out.row
     have hown := own_keepK hown0 hk (by have := ps_lt HP.out; omega)
     have hxs : Both (Snap L n u9.ownBlock w4) ys xs := both_mono (fun y v h => h.keep hk hEL.1 hEL.2) hxs0
     have hsz4 := hk.size
     have HST := aK (fun (o : Obj) v' w5 hown' hgrow hblk => obj_step (o := o) (v' := v') (w3 := w5) HV.out HK14.out hf (HWT.out tk _ HV.out.ps.le hf) hEL (by omega) HP.out (by omega) hk hp hg hown hxs hown' hgrow hblk (fun g hg => (hown0.lt g hg).2))
     have HO := aK hown
     clear hf hg hk hp hown0 hxs0 hown hxs
     go_wp2_with (at_builtin; refine wpList_append_two _ rfl _ _ 141 rfl (w1.heap.size + 1) 144 i0 (.pointer none) 1 8 Tryz.underlying141 hi hz0 hz1 hz2 rfl (by decide) _ _ _ rfl (HO.out.alloc _) ⟨w4.heap.size, 0, none⟩ 1 1 [.pointer (some ⟨gf, 0, none⟩)] rfl rfl ?c1 ?c2 ?c3 ?c4 ?c5 ?c6 ?_)
     case c1 =>
      intro j u hj
      match j, hj with
      | 0, hj => simp at hj; subst hj; simp [Addr.add]
     case c2 => intro u hu; simp at hu; subst hu; rfl
     case c3 => unfold maxLen; omega
     case c4 => omega
     case c5 => simp; omega
     case c6 => decide
     ·intro v' w5 hown' hgrow hblk
      have HR4 := aK (HST.out _ v' w5 hown' hgrow (by simpa using hblk))
      clear hown' hgrow hblk
      go_wp2_with fail
      go_roundg k
      case rel => exact ⟨i + 1, ys ++ [y2], t2, HR4⟩
      case measure => omega
    ·have HK3 := aK hk
     have hgn : nMany (E.lx) f 14 n t1 = none := by
      rw [← HV.out.goal]; unfold nMany; rw [if_neg HK14.out, hf]; rfl
     have HG2 := aK (HM1.out.trans (by rw [hgn]; rfl) : goal0 = none)
     clear hf hk hgn
     go_wp2_with fail
     go_ret2
     exact .inr ⟨HG2.out, ⟨g, rfl⟩, HV.out.keep.trans HK3.out⟩
 ·have hM1 := HM.out
  rw [h1] at hM1
  have HK := aK (⟨hM1, hk⟩ : goal0 = none ∧ Keeps E.pb E.qb w w1)
  clear HM h1 hk hM1
  go_wp2_with fail
  go_ret2
  exact .inr ⟨HK.out.1, ⟨g, rfl⟩, HK.out.2.alloc _⟩
theorem val_str (E : At) (cst : Bool) (w : World) (t : Tok) (n L : Nat) (hP : PS E w t) (hL : L ≤ w.heap.size) (hk : t.kind = 18 ∨ t.kind = 19) :
  Calls Tryz.prog 97 #[.pointer (some ⟨E.pb, 0, none⟩), .bool cst] w fun e w' => VRes E L (nVal E.lx cst (n + 1) t) (n + 1) w e w' := by
 obtain ⟨c1, c2, c3, c4, c5, c6, c7, c8⟩ := ps_cells hP
 have hM : nVal E.lx cst (n + 1) t = (E.lx t.stop).map fun t' => (nd 14 emp emp t.value 0 [], t') := by
  show (if t.kind = 10 then _ else if t.kind = 12 then _ else if 16 ≤ t.kind ∧ t.kind ≤ 19 then _ else _) = _
  rw [if_neg (by omega), if_neg (by omega), if_pos (by omega), if_neg (by omega), if_neg (by omega)]
 have HM := aK hM
 have HS := aK (strlit_any E _ t n L (ps_one hP (.cells #[.int .i64 t.kind, .int .i64 t.start, .int .i64 t.stop, .string t.value] 59)) (by simp; omega))
 have hks : ∃ k, t.kind = k ∧ (k = 18 ∨ k = 19) := ⟨_, rfl, hk⟩
 obtain ⟨k, e, hk2⟩ := hks
 rw [e] at c5 HS
 clear hP hM c1 c2 c3 c4 hk e
 rcases hk2 with rfl | rfl
 all_goals
  go_enter Tryz.func97, Tryz.ntmps97
  go_wp2_with fail
  refine HS.out.mono ?_
  rintro e w2 (⟨t', g, hr, rfl, hg, hk, hp⟩ | ⟨hr, ⟨g, rfl⟩, hk⟩)
  ·have HR := aK (⟨hr, hg, ((Keeps.refl E.pb E.qb w).alloc _).trans hk, hp⟩ : _ ∧ _ ∧ Keeps E.pb E.qb w w2 ∧ _)
   clear hr hg hk hp
   go_wp2_with fail
   go_ret2
   exact .inl ⟨_, t', _, _, HM.out.trans (by rw [HR.out.1]; rfl), rfl, HR.out.2.1, HR.out.2.2.1, HR.out.2.2.2⟩
  ·have HR := aK (⟨hr, ((Keeps.refl E.pb E.qb w).alloc _).trans hk⟩ : _ ∧ Keeps E.pb E.qb w w2)
   clear hr hk
   go_wp2_with fail
   go_ret2
   exact .inr ⟨HM.out.trans (by rw [HR.out.1]; rfl), _, ⟨g, rfl⟩, HR.out.2⟩
theorem val_obj (E : At) (cst : Bool) (n : Nat) (hN : n ≤ 200000) (HL0 : ∀ L, (E.pb < L ∧ E.qb < L) → ∀ w t, PS E w t → L ≤ w.heap.size → nu E.s t < n → Calls Tryz.prog 97 #[.pointer (some ⟨E.pb, 0, none⟩), .bool cst] w fun e w' => VRes E L (nVal E.lx cst n t) n w e w') (L : Nat) (hEL : E.pb < L ∧ E.qb < L) (w : World) (t : Tok) (hP : PS E w t) (hL : L ≤ w.heap.size) (hn : nu E.s t ≤ n) (hk : t.kind = 12) :
  Calls Tryz.prog 97 #[.pointer (some ⟨E.pb, 0, none⟩), .bool cst] w fun e w' => VRes E L (nVal E.lx cst (n + 1) t) (n + 1) w e w' := by
 obtain ⟨c1, c2, c3, c4, c5, c6, c7, c8⟩ := ps_cells hP
 have hM : nVal E.lx cst (n + 1) t = (nRev (E.lx) (nPair (E.lx) 19 (nVal E.lx cst n)) 12 14 false n t).map fun x => (nd 18 emp emp emp 0 x.1, x.2) := by
  show (if t.kind = 10 then _ else if t.kind = 12 then _ else _) = _
  rw [if_neg (by omega), if_pos hk]
 have HM := aK hM
 have HS := aK (obj_any E cst n hN HL0 L hEL _ t (ps_one hP (.cells #[.int .i64 t.kind, .int .i64 t.start, .int .i64 t.stop, .string t.value] 59)) (by simp; omega) hn)
 rw [hk] at c5 HS
 clear hP hM HL0 hn c1 c2 c3 c4 hk
 generalize nRev (E.lx) (nPair (E.lx) 19 (nVal E.lx cst n)) 12 14 false n t = goal at *
 generalize nVal E.lx cst (n + 1) t = goal2 at *
 go_enter Tryz.func97, Tryz.ntmps97
 go_wp2_with fail
 refine HS.out.mono ?_
 rintro e w2 (⟨zs, t', g, hr, rfl, hg, hk, hp⟩ | ⟨hr, ⟨g, rfl⟩, hk⟩)
 ·have HR := aK (⟨hr, hg, ((Keeps.refl E.pb E.qb w).alloc _).trans hk, hp⟩ : _ ∧ _ ∧ Keeps E.pb E.qb w w2 ∧ _)
  clear hr hg hk hp
  go_wp2_with fail
  go_ret2
  exact .inl ⟨_, t', _, _, HM.out.trans (by rw [HR.out.1]; rfl), rfl, HR.out.2.1, HR.out.2.2.1, HR.out.2.2.2⟩
 ·have HR := aK (⟨hr, ((Keeps.refl E.pb E.qb w).alloc _).trans hk⟩ : _ ∧ Keeps E.pb E.qb w w2)
  clear hr hk
  go_wp2_with fail
  go_ret2
  exact .inr ⟨HM.out.trans (by rw [HR.out.1]; rfl), _, ⟨g, rfl⟩, HR.out.2⟩
theorem lit_step (E : At) (cst : Bool) (n : Nat) (hN : n ≤ 200000) (HL0 : ∀ L, (E.pb < L ∧ E.qb < L) → ∀ w t, PS E w t → L ≤ w.heap.size → nu E.s t < n → Calls Tryz.prog 97 #[.pointer (some ⟨E.pb, 0, none⟩), .bool cst] w fun e w' => VRes E L (nVal E.lx cst n t) n w e w') (L : Nat) (hEL : E.pb < L ∧ E.qb < L) (w : World) (t : Tok) (hP : PS E w t) (hL : L ≤ w.heap.size) (hI : Item E L (nVal E.lx cst n) (GVal L n) (if cst = true then 129 else 128) n) (hn : nu E.s t ≤ n) :
  Calls Tryz.prog 97 #[.pointer (some ⟨E.pb, 0, none⟩), .bool cst] w fun e w' => VRes E L (nVal E.lx cst (n + 1) t) (n + 1) w e w' := by
 by_cases h10 : t.kind = 10
 ·exact val_list E cst w t n L hP hL hEL hI hn hN h10
 by_cases h12 : t.kind = 12
 ·exact val_obj E cst n hN HL0 L hEL w t hP hL hn h12
 by_cases h3 : t.kind = 3
 ·cases cst
  ·exact val_var E w t n L hP hL h3
  ·exact val_cvar E w t n L hP h3
 by_cases h16 : t.kind = 16
 ·exact val_int E cst w t n L hP hL h16
 by_cases h17 : t.kind = 17
 ·exact val_float E cst w t n L hP hL h17
 by_cases h18 : t.kind = 18 ∨ t.kind = 19
 ·exact val_str E cst w t n L hP hL h18
 by_cases h15 : t.kind = 15
 ·by_cases ht : t.value.toList = [116, 114, 117, 101]
  ·exact val_bool E cst w t n L hP hL h15 (.inl ht)
  by_cases hf : t.value.toList = [102, 97, 108, 115, 101]
  ·exact val_bool E cst w t n L hP hL h15 (.inr hf)
  by_cases hu : t.value.toList = nullT.toList
  ·exact val_null E cst w t n L hP h15 hu
  ·exact val_enum E cst w t n L hP hL h15 ht hf hu
 ·exact val_bad E cst w t n L hP ⟨h10, h12, h16, h17, fun h => h18 (.inr h), fun h => h18 (.inl h), h15, h3⟩
theorem lit_any (E : At) (cst : Bool) (hx : WtL.LxOk E.lx E.s) : ∀ n, n ≤ 200000 → ∀ L, (E.pb < L ∧ E.qb < L) →
  (∀ w t, PS E w t → L ≤ w.heap.size → nu E.s t < n → Calls Tryz.prog 97 #[.pointer (some ⟨E.pb, 0, none⟩), .bool cst] w fun e w' => VRes E L (nVal E.lx cst n t) n w e w') ∧
  Item E L (nVal E.lx cst n) (GVal L n) (if cst = true then 129 else 128) n := by
 intro n
 induction n with
 | zero => exact fun _ L _ => ⟨fun w t _ _ h => absurd h (Nat.not_lt_zero _), fun W t y t' _ _ h => absurd h (Nat.not_lt_zero _), fun W t _ _ h => absurd h (Nat.not_lt_zero _), fun t y t' _ h => by cases h⟩
 | succ n ih =>
  intro hN L hEL
  have ih' := ih (by omega)
  have hI := (ih' L hEL).2
  have hlit : ∀ w t, PS E w t → L ≤ w.heap.size → nu E.s t < n + 1 → Calls Tryz.prog 97 #[.pointer (some ⟨E.pb, 0, none⟩), .bool cst] w fun e w' => VRes E L (nVal E.lx cst (n + 1) t) (n + 1) w e w' := fun w t hP hL hlt =>
   lit_step E cst n (by omega) (fun L h => (ih' L h).1) L hEL w t hP hL hI (by omega)
  have hval : ∀ w t, PS E w t → L ≤ w.heap.size → nu E.s t < n + 1 → Calls Tryz.prog (if cst = true then 129 else 128) #[.pointer (some ⟨E.pb, 0, none⟩)] w fun e w' => VRes E L (nVal E.lx cst (n + 1) t) (n + 1) w e w' := fun w t hP hL hlt => by
   cases cst
   ·exact value_of_lit E w _ ((hlit w t hP hL hlt).mono fun e w' h => ⟨vres_shape h, h⟩)
   ·exact const_of_lit E w L _ _ (hlit w t hP hL hlt)
  refine ⟨hlit, fun W t y t' hP hL hlt hf => ?_, fun W t hP hL hlt hf => ?_, fun t y t' h1 h2 => by have := (WtL.wt_val hx cst (n + 1) t _ h1 h2).2.1; show mu E.s t' < mu E.s t; simp only at this; omega⟩
  ·refine (hval W t hP hL hlt).mono ?_
   rintro e w' (⟨y2, t2, ty, x, h1, h2, h3, h4, h5⟩ | ⟨h1, _⟩)
   ·have h1 := hf.symm.trans h1
    obtain ⟨rfl, rfl⟩ := Prod.mk.inj (Option.some.inj h1)
    exact ⟨ty, x, h2, h3, h4, h5⟩
   ·have h1 := hf.symm.trans h1; cases h1
  ·refine (hval W t hP hL hlt).mono ?_
   rintro e w' (⟨y2, t2, ty, x, h1, _⟩ | ⟨_, h2⟩)
   ·have h1 := hf.symm.trans h1; cases h1
   ·exact h2
end Go.Proofs.YtjoagdldbmlenaaGreatDoor.Par
