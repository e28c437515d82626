import Derived.Test.YtklgaldpcaogbaaGreatDoorSRow
import Derived.Test.YtklgaldpcaogbaaGreatDoorBlank
import Derived.Test.YtklgaldpcaogbaaGreatDoorShelf2
namespace Go.Proofs.YtklgaldpcaogbaaGreatDoor.Block
set_option linter.unusedVariables false
set_option linter.unusedSimpArgs false
open Go.RowKit Go.Proofs.YtklgaldpcaogbaaGreatDoor.Mem Go.Proofs.YtklgaldpcaogbaaGreatDoor.LinesP Go.Proofs.YtklgaldpcaogbaaGreatDoor.SRowP Go.Proofs.YtklgaldpcaogbaaGreatDoorW.PrintWords Go.Proofs.YtklgaldpcaogbaaGreatDoorW.PrintLast Go.Proofs.YtklgaldpcaogbaaGreatDoorW.PrintMore

theorem row_cell {w : World} {g i : Nat} {l : List ByteArray} (h : SRow w g 0 l) (hi : i < l.length) : w.cell? ⟨g, i, none⟩ = some (.string (rdOf ByteArray.empty l i)) := by
  have h1 := List.getElem?_eq_getElem hi
  have h2 := h.cell h1
  rw [Nat.zero_add] at h2
  rw [h2, rdOf_some h1]
theorem icommon_step {l : List ByteArray} {i : Nat} {o : Int} (hi : i < l.length) (ho : o = -1 ∨ (0 ≤ o ∧ o ≤ 2000)) (hx : (rdOf ByteArray.empty l i).size ≤ 2000) (h : icommonGo l (l.length - i) o i = commonN l) :
    (lead (rdOf ByteArray.empty l i) < (rdOf ByteArray.empty l i).size → (o = -1 ∨ (lead (rdOf ByteArray.empty l i) : Int) < o) → lead (rdOf ByteArray.empty l i) = 0 → commonN l = 0) ∧
    (lead (rdOf ByteArray.empty l i) < (rdOf ByteArray.empty l i).size → (o = -1 ∨ (lead (rdOf ByteArray.empty l i) : Int) < o) → lead (rdOf ByteArray.empty l i) ≠ 0 → icommonGo l (l.length - (i + 1)) (lead (rdOf ByteArray.empty l i)) (i + 1) = commonN l) ∧
    (¬ (lead (rdOf ByteArray.empty l i) < (rdOf ByteArray.empty l i).size ∧ (o = -1 ∨ (lead (rdOf ByteArray.empty l i) : Int) < o)) → icommonGo l (l.length - (i + 1)) o (i + 1) = commonN l) := by
  obtain ⟨d, hd⟩ : ∃ d, l.length - i = d + 1 := ⟨l.length - i - 1, by omega⟩
  rw [hd] at h
  rw [show l.length - (i + 1) = d by omega]
  simp only [icommonGo] at h
  refine ⟨fun a b c => ?_, fun a b c => ?_, fun a => ?_⟩
  · rw [if_pos ⟨a, b⟩, if_pos c] at h; exact h.symm
  · rw [if_pos ⟨a, b⟩, if_neg c] at h; exact h
  · rw [if_neg a] at h; exact h

def lenOf : Value → Nat
  | .slice _ n _ => n
  | _ => 0
theorem row_cell' {w : World} {g o i : Nat} {l : List ByteArray} (h : SRow w g o l) (hi : i < l.length) : w.cell? ⟨g, o + i, none⟩ = some (.string (rdOf ByteArray.empty l i)) := by
  have h1 := List.getElem?_eq_getElem hi
  rw [h.cell h1, rdOf_some h1]
theorem tail_step {ys r : List ByteArray} (h0 : ¬ ys.length = 0) (h : dropTail ys.length ys = r) :
    (lead (rdOf ByteArray.empty ys (ys.length - 1 : Nat)) = (rdOf ByteArray.empty ys (ys.length - 1 : Nat)).size → dropTail (ys.take (ys.length - 1)).length (ys.take (ys.length - 1)) = r) ∧
    (¬ lead (rdOf ByteArray.empty ys (ys.length - 1 : Nat)) = (rdOf ByteArray.empty ys (ys.length - 1 : Nat)).size → ys = r) := by
  obtain ⟨d, hd⟩ : ∃ d, ys.length = d + 1 := ⟨ys.length - 1, by omega⟩
  rw [hd] at h
  simp only [dropTail] at h
  refine ⟨fun a => ?_, fun a => ?_⟩
  · rw [if_pos ⟨by omega, a⟩] at h
    rw [List.length_take, show min (ys.length - 1) ys.length = d by omega]
    exact h
  · rw [if_neg (fun hh => a hh.2)] at h
    exact h
theorem dropHead_len : ∀ (l : List ByteArray), (dropHead l).length ≤ l.length
  | [] => Nat.le_refl _
  | x :: xs => by
    simp only [dropHead]
    split
    · have := dropHead_len xs; simp; omega
    · exact Nat.le_refl _
theorem dropHead_mem {n : Nat} : ∀ (l : List ByteArray), (∀ x ∈ l, x.size ≤ n) → ∀ x ∈ dropHead l, x.size ≤ n
  | [], h => h
  | x :: xs, h => by
    simp only [dropHead]
    split
    · exact dropHead_mem xs (fun y hy => h y (by simp [hy]))
    · exact h
theorem wrap_small {n : Int} (h : 0 ≤ n ∧ n ≤ 1000000) : IntKind.i64.wrap n = n := by
  rw [i64_w]
  unfold wrap64; omega
theorem infoStr : (Tryz.prog.info? 9).map (fun i => (i.zero, i.size, i.bytes)) = some (some (.string ⟨#[]⟩), 1, 16) := by kernel_rfl
theorem bytes_ext {a b : ByteArray} (h : a.data.toList = b.data.toList) : a = b := ByteArray.ext (Array.toList_inj.1 h)
theorem joinTail_cons (x : List UInt8) (r : List (List UInt8)) : Lib.joinTail [10] (x :: r) = ([10] ++ x) ++ Lib.joinTail [10] r := by simp [Lib.joinTail]
theorem join_more (l : List ByteArray) : ∀ (d i : Nat) (o : ByteArray), 0 < i → i + d = l.length → (joinGo l d i o).data.toList = o.data.toList ++ Lib.joinTail [10] ((l.drop i).map (·.data.toList)) := by
  intro d
  induction d with
  | zero =>
    intro i o hi h
    rw [List.drop_of_length_le (by omega)]
    simp [joinGo, Lib.joinTail]
  | succ d ih =>
    intro i o hi h
    simp only [joinGo]
    have hd := List.drop_eq_getElem_cons (show i < l.length by omega)
    rw [if_pos hi, ih (i + 1) _ (by omega) (by omega), hd, rdOf_some (List.getElem?_eq_getElem (by omega)), List.map_cons, joinTail_cons]
    generalize (l.drop (i + 1)).map (·.data.toList) = R
    simp
theorem join_eq (l : List ByteArray) : joinL l = ⟨(Lib.join (l.map (·.data.toList)) (⟨#[10]⟩ : ByteArray).data.toList).toArray⟩ := by
  apply bytes_ext
  unfold joinL
  cases l with
  | nil => rfl
  | cons x xs =>
    rw [List.length_cons]
    simp only [joinGo]
    rw [if_neg (by omega), join_more (x :: xs) xs.length 1 _ (by omega) (by simp; omega), show rdOf ByteArray.empty (x :: xs) ((0 : Nat) : Int) = x from rfl]
    simp [Lib.join_cons]
theorem joinTail_len {n : Nat} : ∀ (l : List ByteArray), (∀ x ∈ l, x.size ≤ n) → (Lib.joinTail [10] (l.map (·.data.toList))).length ≤ l.length * (n + 1)
  | [], _ => by simp [Lib.joinTail]
  | x :: xs, h => by
    have h1 := joinTail_len xs (fun y hy => h y (by simp [hy]))
    have h2 : x.data.toList.length ≤ n := h x (by simp)
    have h3 : Lib.joinTail [10] ((x :: xs).map (·.data.toList)) = ([10] ++ x.data.toList) ++ Lib.joinTail [10] (xs.map (·.data.toList)) := by simp [Lib.joinTail]
    have h4 : (x :: xs).length * (n + 1) = xs.length * (n + 1) + (n + 1) := by rw [List.length_cons, Nat.succ_mul]
    rw [h3, h4, List.length_append, List.length_append]
    simp only [List.length_cons, List.length_nil]
    omega
theorem join_len {l : List ByteArray} (hl : ∀ x ∈ l, x.size ≤ 2000) (hn : l.length ≤ 2001) : (Lib.join (l.map (·.data.toList)) (⟨#[10]⟩ : ByteArray).data.toList).length ≤ 140737488355328 := by
  cases l with
  | nil => simp [Lib.join_nil]
  | cons x xs =>
    have h1 := joinTail_len xs (fun y hy => hl y (by simp [hy]))
    have h2 : x.data.toList.length ≤ 2000 := hl x (by simp)
    have h3 : Lib.join ((x :: xs).map (·.data.toList)) (⟨#[10]⟩ : ByteArray).data.toList = x.data.toList ++ Lib.joinTail [10] (xs.map (·.data.toList)) := by rw [List.map_cons, Lib.join_cons]
    rw [h3, List.length_append]
    have h4 : xs.length * (2000 + 1) ≤ 2001 * 2001 := Nat.mul_le_mul (by simp at hn; omega) (by omega)
    omega
theorem dropTail_sub : ∀ (d : Nat) (l : List ByteArray), (dropTail d l).length ≤ l.length ∧ ∀ x ∈ dropTail d l, x ∈ l := by
  intro d
  induction d with
  | zero => intro l; exact ⟨Nat.le_refl _, fun _ h => h⟩
  | succ d ih =>
    intro l
    simp only [dropTail]
    split
    · obtain ⟨h1, h2⟩ := ih (l.take (l.length - 1))
      rw [List.length_take] at h1
      exact ⟨by omega, fun x hx => List.mem_of_mem_take (h2 x hx)⟩
    · exact ⟨Nat.le_refl _, fun _ h => h⟩
theorem istrip_step {c : Int} {l ys : List ByteArray} {i : Nat} {r : List ByteArray} (hi : i < l.length) (hyl : ys.length = l.length) (h : istripGo c (l.length - i) i ys = r) :
    ((rdOf ByteArray.empty ys i).size < c → istripGo c (l.length - (i + 1)) (i + 1) ys = r) ∧ (¬ (rdOf ByteArray.empty ys i).size < c → istripGo c (l.length - (i + 1)) (i + 1) (ys.set i ((rdOf ByteArray.empty ys i).extract c.toNat (rdOf ByteArray.empty ys i).size)) = r) := by
  obtain ⟨d, hd⟩ : ∃ d, l.length - i = d + 1 := ⟨l.length - i - 1, by omega⟩
  rw [hd] at h
  rw [show l.length - (i + 1) = d by omega]
  simp only [istripGo] at h
  unfold icutLine at h
  refine ⟨fun a => ?_, fun a => ?_⟩
  · rw [if_pos a, rdOf_some (List.getElem?_eq_getElem (by omega)), List.set_getElem_self] at h; exact h
  · rw [if_neg a] at h; exact h
theorem istripGo_mem {c : Int} {n : Nat} : ∀ (d i : Nat) (l : List ByteArray), (∀ x ∈ l, x.size ≤ n) → ∀ x ∈ istripGo c d i l, x.size ≤ n := by
  intro d
  induction d with
  | zero => intro i l hl; exact hl
  | succ d ih =>
    intro i l hl
    refine ih (i + 1) _ (fun x hx => ?_)
    rcases List.mem_or_eq_of_mem_set hx with h | rfl
    · exact hl x h
    · unfold icutLine
      split
      · exact rdOf_le hl _
      · exact Nat.le_trans (extract_le _ _ _) (rdOf_le hl _)
theorem stripI_mem {n : Nat} {l : List ByteArray} (hl : ∀ x ∈ l, x.size ≤ n) : ∀ x ∈ stripI l, x.size ≤ n := by
  unfold stripI
  split
  · exact istripGo_mem _ _ _ hl
  · exact hl
theorem istripGo_len {c : Int} : ∀ (d i : Nat) (l : List ByteArray), (istripGo c d i l).length = l.length := by
  intro d
  induction d with
  | zero => intro i l; rfl
  | succ d ih => intro i l; simp only [istripGo]; rw [ih, List.length_set]
theorem stripI_len (l : List ByteArray) : (stripI l).length = l.length := by
  unfold stripI
  split
  · exact istripGo_len _ _ _
  · rfl

set_option maxRecDepth 100000 in
set_option maxHeartbeats 4000000 in
theorem blockStr_any (s : ByteArray) (l : List ByteArray) (k : Nat) (w : World) (hs : s.size ≤ 2000) (hl : LinesOf s l) (hk : PFnReadBlock.lexer_zzLines.f k s = some l) :
    Calls Tryz.prog 27 #[.string s] w fun e w' => e = .returned (.string (valueI l)) ∧ Below w.heap.size w w' := by
  have hl0 := hl.1
  have hl1 := hl.2.1
  have HL := Aside0.mk hl.2.2
  clear hl
  go_enter Tryz.func27, Tryz.ntmps27
  go_wp2_with fail
  refine (PFnReadBlock.lexer_zzLines.calls k s l _ hk).mono ?_
  rintro e w1 ⟨v0, rfl, hR, hb⟩
  obtain ⟨g, cap, rfl, hg, hcap, hS⟩ := srow_of_R hR hl0
  have HB := Aside0.mk hb
  have HS := Aside0.mk hS
  clear hb hS hR
  go_upto_block 0 with (fail)
  go_cut [4] (fun v4 wc => v4 = .int .i64 (commonN l) ∧ Aside0 (SRow wc g 0 l) ∧ Aside0 (Below w.heap.size w wc))
  case first =>
    go_wp2_with fail
    go_loopw [4, 5] (fun v4 v5 wr => ∃ (o : Int) (i : Nat), v4 = .int .i64 o ∧ v5 = .int .i64 i ∧ 1 ≤ i ∧ i ≤ l.length ∧ (o = -1 ∨ (0 ≤ o ∧ o ≤ 2000)) ∧ Aside0 (icommonGo l (l.length - i) o i = commonN l) ∧ Aside0 (SRow wr g 0 l) ∧ Aside0 (Below w.heap.size w wr)) (fun _ v5 _ => l.length - (intOf v5).toNat)
    case atStart => exact ⟨-1, 1, rfl, rfl, by omega, hl0, .inl rfl, ⟨icommon_eq _ _ _ _ (.inl rfl)⟩, HS, HB⟩
    case round =>
      obtain ⟨o, i, rfl, rfl, hi1, hil, ho, HC, HS, HB⟩ := hrel
      by_cases hlt : i < l.length
      · have hlti : (i : Int) < (l.length : Int) := by omega
        have hx : wr.cell? ⟨g, i, none⟩ = some (.string (rdOf ByteArray.empty l i)) := row_cell HS.out hlt
        have hxs : (rdOf ByteArray.empty l i).size ≤ 2000 := Nat.le_trans (rdOf_le HL.out i) hs
        have hst := icommon_step hlt (o := o) ho hxs HC.out
        have HW := Aside0.mk (fun W => leadWs_any (rdOf ByteArray.empty l i) W (by omega))
        generalize rdOf ByteArray.empty l i = x at *
        clear HC
        go_wp2_with fail
        refine (HW.out _).mono ?_
        rintro e w2 ⟨rfl, hb2⟩
        by_cases hxl : lead x < x.size
        · have hxli : (lead x : Int) < (x.size : Int) := by omega
          by_cases ho1 : o = -1
          · have hoe : (o == -1) = true := beq_iff_eq.2 ho1
            by_cases hz : lead x = 0
            · have hze : ((lead x : Int) == 0) = true := beq_iff_eq.2 (by omega)
              go_wp2_with fail
              go_meet
              case rel => exact ⟨by rw [hst.1 hxl (by omega) hz], ⟨HS.out.below' hb2⟩, ⟨HB.out.trans (hb2.mono HB.out.size)⟩⟩
            · have hze : ((lead x : Int) == 0) = false := beq_eq_false_iff_ne.2 (by omega)
              go_wp2_with fail
              go_roundw
              case rel => exact ⟨_, i + 1, rfl, by go_num, by omega, by omega, by omega, ⟨hst.2.1 hxl (by omega) hz⟩, ⟨HS.out.below' hb2⟩, ⟨HB.out.trans (hb2.mono HB.out.size)⟩⟩
              case measure => simp [intOf]; omega
          · have hoe : (o == -1) = false := beq_eq_false_iff_ne.2 ho1
            by_cases hlo : (lead x : Int) < o
            · by_cases hz : lead x = 0
              · have hze : ((lead x : Int) == 0) = true := beq_iff_eq.2 (by omega)
                go_wp2_with fail
                go_meet
                case rel => exact ⟨by rw [hst.1 hxl (by omega) hz], ⟨HS.out.below' hb2⟩, ⟨HB.out.trans (hb2.mono HB.out.size)⟩⟩
              · have hze : ((lead x : Int) == 0) = false := beq_eq_false_iff_ne.2 (by omega)
                go_wp2_with fail
                go_roundw
                case rel => exact ⟨_, i + 1, rfl, by go_num, by omega, by omega, by omega, ⟨hst.2.1 hxl (by omega) hz⟩, ⟨HS.out.below' hb2⟩, ⟨HB.out.trans (hb2.mono HB.out.size)⟩⟩
                case measure => simp [intOf]; omega
            · have hlo' : o ≤ (lead x : Int) := by omega
              go_wp2_with fail
              go_roundw
              case rel => exact ⟨_, i + 1, rfl, by go_num, by omega, by omega, ho, ⟨hst.2.2 (by omega)⟩, ⟨HS.out.below' hb2⟩, ⟨HB.out.trans (hb2.mono HB.out.size)⟩⟩
              case measure => simp [intOf]; omega
        · have hxli : (x.size : Int) ≤ (lead x : Int) := by omega
          go_wp2_with fail
          go_roundw
          case rel => exact ⟨_, i + 1, rfl, by go_num, by omega, by omega, ho, ⟨hst.2.2 (by omega)⟩, ⟨HS.out.below' hb2⟩, ⟨HB.out.trans (hb2.mono HB.out.size)⟩⟩
          case measure => simp [intOf]; omega
      · have hlti : (l.length : Int) ≤ (i : Int) := by omega
        have hii : l.length - i = 0 := by omega
        go_wp2_with fail
        go_meet
        case rel =>
          have h := HC.out
          rw [hii] at h
          exact ⟨by rw [← h]; rfl, HS, HB⟩
  case rest =>
    clear HS HB
    obtain ⟨rfl, HS, HB⟩ := hcut
    go_upto_if 42 with (fail)
    have HM := Aside0.mk (stripI_mem HL.out)
    have hsl := stripI_len l
    go_cut [] (fun wc => Aside0 (SRow wc g 0 (stripI l)) ∧ Aside0 (Below w.heap.size w wc))
    case first =>
      by_cases hc : 0 < commonN l
      · have HI := Aside0.mk (show stripI l = istripGo (commonN l) l.length 0 l by unfold stripI; rw [if_pos hc])
        generalize commonN l = c at *
        go_wp2_with fail
        go_loopw [45] (fun v45 wr => ∃ (i : Nat) (ys : List ByteArray), v45 = .int .i64 i ∧ i ≤ l.length ∧ ys.length = l.length ∧ Aside0 (istripGo c (l.length - i) i ys = stripI l) ∧ Aside0 (SRow wr g 0 ys) ∧ Aside0 (Below w.heap.size w wr)) (fun v45 _ => l.length - (intOf v45).toNat)
        case atStart => exact ⟨0, l, rfl, by omega, rfl, ⟨HI.out.symm⟩, HS, HB⟩
        case round =>
          clear HS HB HI
          obtain ⟨i, ys, rfl, hil, hyl, HI, HS, HB⟩ := hrel
          by_cases hlt : i < l.length
          · have hlti : (i : Int) < (l.length : Int) := by omega
            have hx : wr.cell? ⟨g, i, none⟩ = some (.string (rdOf ByteArray.empty ys i)) := row_cell HS.out (by omega)
            have hst := istrip_step hlt hyl HI.out
            have hfz := HS.out.frozen i
            have HSet := Aside0.mk (fun y => HS.out.set_ i y)
            generalize rdOf ByteArray.empty ys i = x at *
            by_cases hcx : (x.size : Int) < c
            · go_wp2_with fail
              exact ⟨⟨i + 1, ys, by go_num, by omega, hyl, ⟨hst.1 hcx⟩, HS, HB⟩, by simp [intOf]; omega⟩
            · have hcx' : c ≤ (x.size : Int) := by omega
              have hc0 : 0 ≤ c := by omega
              have hS2 := HSet.out (x.extract c.toNat x.size)
              rw [Nat.zero_add] at hS2
              go_wp2_with fail
              exact ⟨⟨i + 1, _, by go_num, by omega, by rw [List.length_set]; exact hyl, ⟨hst.2 (by omega)⟩, ⟨hS2⟩, ⟨HB.out.setCell hg _⟩⟩, by simp [intOf]; omega⟩
          · have hlti : (l.length : Int) ≤ (i : Int) := by omega
            have h := HI.out
            rw [show l.length - i = 0 by omega] at h
            have HE := Aside0.mk (show ys = stripI l from h)
            clear h
            go_wp2_with fail
            go_meet
            case rel => exact ⟨by rw [← HE.out]; exact HS, HB⟩
      · have HI := Aside0.mk (show stripI l = l by unfold stripI; rw [if_neg hc])
        have hc' : commonN l ≤ 0 := by omega
        go_wp2_with fail
        go_meet
        case rel => exact ⟨by rw [HI.out]; exact HS, HB⟩
    case rest =>
      clear HS HB
      obtain ⟨HS, HB⟩ := hcut
      go_upto_block 4 with (fail)
      have HV := Aside0.mk (show valueI l = joinL (dropTail (dropHead (stripI l)).length (dropHead (stripI l))) from rfl)
      have hml0 : (stripI l).length ≤ 2001 := by omega
      rw [← hsl] at hcap ⊢
      clear hsl
      generalize stripI l = m0 at *
      go_cut [3] (fun v3 wc => ∃ (o c : Nat), v3 = .slice (some ⟨g, o, none⟩) (dropHead m0).length c ∧ (dropHead m0).length ≤ c ∧ Aside0 (SRow wc g o (dropHead m0)) ∧ Aside0 (Below w.heap.size w wc))
      case first =>
        go_wp2_with fail
        go_loopw [3] (fun v3 wr => ∃ (o c : Nat) (ys : List ByteArray), v3 = .slice (some ⟨g, o, none⟩) ys.length c ∧ ys.length ≤ c ∧ Aside0 (dropHead ys = dropHead m0) ∧ Aside0 (∀ x ∈ ys, x.size ≤ 2000) ∧ Aside0 (SRow wr g o ys) ∧ Aside0 (Below w.heap.size w wr)) (fun v3 _ => lenOf v3)
        case atStart => exact ⟨0, cap, m0, rfl, hcap, ⟨rfl⟩, ⟨fun x hx => Nat.le_trans (HM.out x hx) hs⟩, HS, HB⟩
        case round =>
          clear HS HB HM hcap
          obtain ⟨o, c, ys, rfl, hlc, HD, HY, HS, HB⟩ := hrel
          cases ys with
          | nil =>
            have HE := Aside0.mk (show dropHead m0 = [] from HD.out.symm)
            go_wp2_with fail
            go_meet
            case rel => exact ⟨o, c, by rw [HE.out], by rw [HE.out]; exact hlc, by rw [HE.out]; exact HS, HB⟩
          | cons x ys =>
            have hx : wr.cell? ⟨g, o, none⟩ = some (.string x) := HS.out.cell (j := 0) rfl
            have HW := Aside0.mk (fun W => blank_any x W (by have := HY.out x (by simp); omega))
            by_cases hb : lead x = x.size
            · have hd : decide (lead x = x.size) = true := decide_eq_true hb
              rw [hd] at HW
              go_wp2_with fail
              refine (HW.out _).mono ?_
              rintro e w2 ⟨rfl, hb2⟩
              go_wp2_with fail
              refine ⟨⟨if c = 1 then o else o + 1, c - 1, ys, by split <;> rfl, by simp only [List.length_cons] at hlc; omega, ⟨by rw [← HD.out]; simp only [dropHead]; rw [if_pos hb]⟩, ⟨fun y hy => HY.out y (by simp [hy])⟩, ⟨?_⟩, ⟨HB.out.trans (hb2.mono HB.out.size)⟩⟩, by simp [lenOf]⟩
              split
              · obtain rfl : ys = [] := List.length_eq_zero_iff.1 (by simp only [List.length_cons] at hlc; omega)
                exact (HS.out.below' hb2).drop1.nil_ (by omega)
              · exact (HS.out.below' hb2).drop1
            · have hd : decide (lead x = x.size) = false := decide_eq_false hb
              rw [hd] at HW
              go_wp2_with fail
              refine (HW.out _).mono ?_
              rintro e w2 ⟨rfl, hb2⟩
              have HE := Aside0.mk (show dropHead m0 = x :: ys by rw [← HD.out]; simp only [dropHead]; rw [if_neg hb])
              go_wp2_with fail
              go_meet
              case rel => exact ⟨o, c, by rw [HE.out]; rfl, by rw [HE.out]; exact hlc, ⟨by rw [HE.out]; exact HS.out.below' hb2⟩, ⟨HB.out.trans (hb2.mono HB.out.size)⟩⟩
      case rest =>
        clear HS HB
        obtain ⟨o, c, rfl, hlc, HS, HB⟩ := hcut
        have hml : (dropHead m0).length ≤ 2001 := Nat.le_trans (dropHead_len m0) (by omega)
        have HM := Aside0.mk (dropHead_mem m0 (fun x hx => Nat.le_trans (HM.out x hx) hs))
        go_upto_block 6 with (fail)
        generalize dropHead m0 = m at *
        go_cut [3] (fun v3 wc => ∃ (c : Nat), v3 = .slice (some ⟨g, o, none⟩) (dropTail m.length m).length c ∧ (dropTail m.length m).length ≤ c ∧ Aside0 (SRow wc g o (dropTail m.length m)) ∧ Aside0 (Below w.heap.size w wc))
        case first =>
          go_wp2_with fail
          go_loopw [3] (fun v3 wr => ∃ (c : Nat) (ys : List ByteArray), v3 = .slice (some ⟨g, o, none⟩) ys.length c ∧ ys.length ≤ c ∧ ys.length ≤ 2001 ∧ Aside0 (dropTail ys.length ys = dropTail m.length m) ∧ Aside0 (∀ x ∈ ys, x.size ≤ 2000) ∧ Aside0 (SRow wr g o ys) ∧ Aside0 (Below w.heap.size w wr)) (fun v3 _ => lenOf v3)
          case atStart => exact ⟨c, m, rfl, hlc, hml, ⟨rfl⟩, HM, HS, HB⟩
          case round =>
            clear HS HB HM hlc c
            obtain ⟨c, ys, rfl, hlc, hyl, HD, HY, HS, HB⟩ := hrel
            by_cases h0 : ys.length = 0
            · obtain rfl : ys = [] := List.length_eq_zero_iff.1 h0
              have HE := Aside0.mk (show dropTail m.length m = [] from HD.out.symm)
              go_wp2_with fail
              go_meet
              case rel => exact ⟨c, by rw [HE.out], by rw [HE.out]; exact hlc, by rw [HE.out]; exact HS, HB⟩
            · have h0i : (0 : Int) < (ys.length : Int) := by omega
              have hx : wr.cell? ⟨g, o + (ys.length - 1), none⟩ = some (.string (rdOf ByteArray.empty ys (ys.length - 1 : Nat))) := row_cell' HS.out (by omega)
              have hxs : (rdOf ByteArray.empty ys (ys.length - 1 : Nat)).size ≤ 2000 := rdOf_le HY.out _
              have hdt := tail_step h0 HD.out
              generalize rdOf ByteArray.empty ys (ys.length - 1 : Nat) = x at *
              have HW := Aside0.mk (fun W => blank_any x W (by omega))
              by_cases hb : lead x = x.size
              · have hd : decide (lead x = x.size) = true := decide_eq_true hb
                rw [hd] at HW
                have HD2 := Aside0.mk (hdt.1 hb)
                clear hdt hb hd
                go_wp2_with fail
                refine (HW.out _).mono ?_
                rintro e w2 ⟨rfl, hb2⟩
                go_wp2_with fail
                obtain ⟨i0, hi0, _⟩ := info_parts infoStr
                have g1 : (1 : Int) ≤ (ys.length : Int) := by omega
                have g2 : (ys.length : Int) - 1 ≤ (c : Int) := by omega
                have g3 : IntKind.i64.wrap (ys.length : Int) = (ys.length : Int) := wrap_small (by omega)
                have g4 : (0 : Int) ≤ (ys.length : Int) := by omega
                have g5 : ys.length - 1 ≤ c := by omega
                have hmin : min (ys.length - 1) ys.length = ys.length - 1 := by omega
                have HR := Aside0.mk (show (∃ (c_1 : Nat) (zs : List ByteArray), Value.slice (some ⟨g, o, none⟩) (ys.length - 1) c = .slice (some ⟨g, o, none⟩) zs.length c_1 ∧ zs.length ≤ c_1 ∧ zs.length ≤ 2001 ∧ Aside0 (dropTail zs.length zs = dropTail m.length m) ∧ Aside0 (∀ x ∈ zs, x.size ≤ 2000) ∧ Aside0 (SRow w2.drew g o zs) ∧ Aside0 (Below w.heap.size w w2.drew)) from
                  ⟨c, ys.take (ys.length - 1), by rw [List.length_take, hmin], by rw [List.length_take]; omega, by rw [List.length_take]; omega, HD2, ⟨fun y hy => HY.out y (List.mem_of_mem_take hy)⟩, ⟨(HS.out.below' hb2).drew.take _⟩, ⟨below_drew (HB.out.trans (hb2.mono HB.out.size))⟩⟩)
                by_cases hcn : c = ys.length
                · go_region
                  go_wp2_with fail
                  exact ⟨by have h := HR.out; rw [hcn] at h; exact h, by simp [lenOf]; omega⟩
                · go_region
                  go_wp2_with fail
                  exact ⟨HR.out, by simp [lenOf]; omega⟩
              · have hd : decide (lead x = x.size) = false := decide_eq_false hb
                rw [hd] at HW
                have HD2 := Aside0.mk (hdt.2 hb)
                clear hdt hb hd
                go_wp2_with fail
                refine (HW.out _).mono ?_
                rintro e w2 ⟨rfl, hb2⟩
                go_wp2_with fail
                go_meet
                case rel => exact ⟨c, by rw [← HD2.out], by rw [← HD2.out]; exact hlc, ⟨by rw [← HD2.out]; exact HS.out.below' hb2⟩, ⟨HB.out.trans (hb2.mono HB.out.size)⟩⟩
        case rest =>
          clear HS HB
          obtain ⟨c, rfl, hlc, HS, HB⟩ := hcut
          have hsub := dropTail_sub m.length m
          have hlen := Aside0.mk (join_len (l := dropTail m.length m) (fun x hx => HM.out x (hsub.2 x hx)) (by have := hsub.1; omega))
          have hrl : (dropTail m.length m).length ≤ 2001 := by have := hsub.1; omega
          clear hsub
          generalize dropTail m.length m = r at *
          go_wp2_with fail
          refine (Tryz.strings_Join g o c r ⟨#[10]⟩ _ (fun j x hx => HS.out.cell hx) HS.out.lt (by omega) hlc hlen.out).mono ?_
          rintro e w2 ⟨rfl, hb2⟩
          go_wp2_with fail
          go_ret
          exact ⟨by rw [HV.out, join_eq]; rfl, HB.out.trans (hb2.mono HB.out.size)⟩
end Go.Proofs.YtklgaldpcaogbaaGreatDoor.Block
