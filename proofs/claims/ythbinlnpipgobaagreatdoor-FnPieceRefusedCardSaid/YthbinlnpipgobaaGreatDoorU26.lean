import Derived.Test.YthbinlnpipgobaaGreatDoorU25
import Derived.Test.YthbinlnpipgobaaGreatDoorU23
import Derived.Test.YthbinlnpipgobaaGreatDoorU22
namespace Go.Proofs.YthbinlnpipgobaaGreatDoor.Take
set_option linter.unusedVariables false
set_option linter.unusedSimpArgs false
open Go.RowKit Go.Proofs.YthbinlnpipgobaaGreatDoorW.PrintWords Go.Proofs.YthbinlnpipgobaaGreatDoor.Keep Go.Proofs.YthbinlnpipgobaaGreatDoor.Env Go.Proofs.YthbinlnpipgobaaGreatDoor.Ast Go.Proofs.YthbinlnpipgobaaGreatDoor.Tree

theorem val_take {L : Nat} : ∀ n, ValOk L n
  | 0 => fun _ _ _ _ _ _ h _ _ => absurd h (by intro h; cases h)
  | n + 1 => fun w0 w tb xs y v hg hT hN => by
    obtain ⟨g, lv, h1, hl, h⟩ := hg
    rcases h with ⟨rfl, nv, s, a, b, rfl⟩ | ⟨rfl, s, a, rfl⟩ | ⟨rfl, s, a, rfl⟩ | ⟨rfl, s, a, rfl⟩ | ⟨rfl, b, a, rfl⟩ | ⟨rfl, s, a, rfl⟩ | ⟨rfl, sv, zs, a, b, rfl⟩ | ⟨rfl, sv, zs, a, b, rfl⟩
    · exact tkv_0 w0 w tb g xs lv nv s a b hT h1 hl hN
    · exact tkv_1 w0 w tb g xs lv s a hT h1 hl hN
    · exact tkv_2 w0 w tb g xs lv s a hT h1 hl hN
    · exact tkv_3 w0 w tb g xs lv s a hT h1 hl hN
    · cases b with
      | true => exact tkv_4t w0 w tb g xs lv a hT h1 hl hN
      | false => exact tkv_4f w0 w tb g xs lv a hT h1 hl hN
    · exact tkv_5 w0 w tb g xs lv s a hT h1 hl hN
    · exact tkv_6 (val_take n) w0 w tb g xs zs lv sv a b hT h1 hl hN
    · exact tkv_7 (val_take n) w0 w tb g xs zs lv sv a b hT h1 hl hN
theorem args_take {L n : Nat} : (∀ (w0 w : World) (tb : Nat) (xs : NL) (zs : List NL) (sv : Value), GRow L (GArg L n) zs w0 sv → Tk w0 tb xs w → (xs ++ zs.flatten).length ≤ 200000 → Calls Tryz.prog 51 #[.pointer (some ⟨tb, 0, none⟩), sv] w (TkPost w0 tb (xs ++ zs.flatten) w)) := fun w0 w tb xs zs sv h hT hN => args_loop (val_take n) w0 w tb xs zs sv h hT hN
theorem dirs_take {L n : Nat} : (∀ (w0 w : World) (tb : Nat) (xs : NL) (zs : List NL) (sv : Value), GRowD L (GDir L n) zs w0 sv → Tk w0 tb xs w → (xs ++ zs.flatten).length ≤ 200000 → Calls Tryz.prog 27 #[.pointer (some ⟨tb, 0, none⟩), sv] w (TkPost w0 tb (xs ++ zs.flatten) w)) := fun w0 w tb xs zs sv h hT hN => dirs_loop args_take w0 w tb xs zs sv h hT hN
set_option maxRecDepth 100000 in
theorem vars_nil (w0 w : World) (tb : Nat) (xs : NL) (hT : Tk w0 tb xs w) : Calls Tryz.prog 26 #[.pointer (some ⟨tb, 0, none⟩), .slice none 0 0] w (TkPost w0 tb xs w) := by
  have HT := Aside0.mk hT
  clear hT
  go_enter Tryz.func26, Tryz.ntmps26
  go_wp2_with fail
  go_loopw [9] (fun v9 wr => v9 = .int .i64 0 ∧ wr = w.alloc (.cells #[.pointer (some ⟨tb, 0, none⟩)] 38)) (fun _ _ => 0)
  case atStart => exact ⟨rfl, rfl⟩
  case round =>
    obtain ⟨rfl, rfl⟩ := hrel
    go_wp2_with fail
    go_end0
    exact ⟨rfl, HT.out.of_below (below_alloc (Below.refl _ _) _), FrT.of_below tb (below_alloc (Below.refl _ _) _)⟩
theorem vars_nil2 (w0 w : World) (tb : Nat) (xs : NL) (hT : Tk w0 tb xs w) : Calls Tryz.prog 26 #[.pointer (some ⟨tb, 0, none⟩), .slice none 0 0] w (TkPost w0 tb (xs ++ ([] : NL)) w) := by
  rw [List.append_nil]
  exact vars_nil w0 w tb xs hT
set_option maxRecDepth 100000 in
set_option maxHeartbeats 8000000 in
theorem op_body {L n : Nat} (hD : (∀ (w0 w : World) (tb : Nat) (xs : NL) (zs : List NL) (sv : Value), GRowD L (GDir L n) zs w0 sv → Tk w0 tb xs w → (xs ++ zs.flatten).length ≤ 200000 → Calls Tryz.prog 27 #[.pointer (some ⟨tb, 0, none⟩), sv] w (TkPost w0 tb (xs ++ zs.flatten) w))) {S : NL → World → Value → Prop} (hS : SetT S) (w0 w : World) (tb g bt bg : Nat) (xs : NL) (z : NL) (A : Option Addr) (c : Nat) (vs : Value) (h4 : Cl L w0 g 4 (.slice none 0 0)) (h5 : Cl L w0 g 5 (.slice A 0 c)) (h6 : Cl L w0 g 6 vs) (gs : S z w0 vs) (hbt : Blk w bt 38 #[.pointer (some ⟨tb, 0, none⟩)]) (hbg : Blk w bg 83 #[ptr g]) (hne : bt ≠ tb ∧ bg ≠ tb) (hT : Tk w0 tb xs w) (hN : (xs ++ ([z] : List NL).flatten).length ≤ 200000) :
    Calls Tryz.prog 25 #[.pointer (some ⟨bt, 0, none⟩), .pointer (some ⟨bg, 0, none⟩)] w (TkPost w0 tb (xs ++ ([z] : List NL).flatten) w) := by
  have HF0 := Aside0.mk (FrT.refl tb w)
  have HT0 := Aside0.mk hT
  have HBT := Aside0.mk hbt
  have HBG := Aside0.mk hbg
  have HC0 := Aside0.mk (fun W (hT : Tk w0 tb (xs) W) => vars_nil2 w0 W tb (xs) hT)
  have HH0 := Aside0.mk (fun W (hb : Below w0.heap.size w0 W) => pw_cell_below hb (cl_cell h4))
  have HC1 := Aside0.mk (fun W (hT : Tk w0 tb (xs ++ ([] : NL)) W) => hD w0 W tb (xs ++ ([] : NL)) [] _ (⟨A, c, rfl, .inl rfl⟩ : GRowD L (GDir L n) [] w0 (.slice A 0 c)) hT (by simp only [List.length_append, List.flatten_append, List.flatten_cons, List.flatten_nil, List.append_nil, List.length_nil] at hN ⊢; omega))
  have HH1 := Aside0.mk (fun W (hb : Below w0.heap.size w0 W) => pw_cell_below hb (cl_cell h5))
  have HC2 := Aside0.mk (fun W (hT : Tk w0 tb ((xs ++ ([] : NL)) ++ ([] : List NL).flatten) W) => hS w0 W tb ((xs ++ ([] : NL)) ++ ([] : List NL).flatten) z vs gs hT (by simp only [List.length_append, List.flatten_append, List.flatten_cons, List.flatten_nil, List.append_nil, List.length_nil] at hN ⊢; omega))
  have HH2 := Aside0.mk (fun W (hb : Below w0.heap.size w0 W) => pw_cell_below hb (cl_cell h6))
  clear hT hN hbt hbg h4 h5 h6
  unfold ptr at *
  go_enter Tryz.func25, Tryz.ntmps25
  have q1 := ((HF0.out.keep HBT.out hne.1 (by decide) (by decide)).cell 0).trans rfl
  have q2 := ((HF0.out.keep HBG.out hne.2 (by decide) (by decide)).cell 0).trans rfl
  have q3 := HH0.out _ HT0.out.below
  go_wp2_with fail
  go_region_with (go_at_call 26; refine (HC0.out _ (HT0.out.of_below (below_drew (Below.refl _ _)))).mono ?_; rintro e w2 ⟨rfl, hT2, hF2⟩)
  all_goals
    have HT1 := Aside0.mk hT2
    have HF1 := Aside0.mk (HF0.out.drew.trans hF2)
    clear q1 q2 q3 hT2 hF2
    have q1 := ((HF1.out.keep HBT.out hne.1 (by decide) (by decide)).cell 0).trans rfl
    have q2 := ((HF1.out.keep HBG.out hne.2 (by decide) (by decide)).cell 0).trans rfl
    have q3 := HH1.out _ HT1.out.below
    go_wp2_with fail
    go_region_with (go_at_call 27; refine (HC1.out _ (HT1.out.of_below (below_drew (Below.refl _ _)))).mono ?_; rintro e w3 ⟨rfl, hT3, hF3⟩)
    all_goals
      have HT2 := Aside0.mk hT3
      have HF2 := Aside0.mk (HF1.out.drew.trans hF3)
      clear q1 q2 q3 hT3 hF3
      have q1 := ((HF2.out.keep HBT.out hne.1 (by decide) (by decide)).cell 0).trans rfl
      have q2 := ((HF2.out.keep HBG.out hne.2 (by decide) (by decide)).cell 0).trans rfl
      have q3 := HH2.out _ HT2.out.below
      go_wp2_with fail
      go_region_with (go_at_call 28; refine (HC2.out _ (HT2.out.of_below (below_drew (Below.refl _ _)))).mono ?_; rintro e w4 ⟨rfl, hT4, hF4⟩)
      all_goals
        have HT3 := Aside0.mk hT4
        have HF3 := Aside0.mk (HF2.out.drew.trans hF4)
        clear q1 q2 q3 hT4 hF4
        go_wp2_with fail
        go_end0
        refine ⟨rfl, ?_, HF3.out⟩
        have h := HT3.out
        simpa [List.append_assoc] using h
set_option maxRecDepth 100000 in
set_option maxHeartbeats 8000000 in
theorem fd_body {L n : Nat} (hD : (∀ (w0 w : World) (tb : Nat) (xs : NL) (zs : List NL) (sv : Value), GRowD L (GDir L n) zs w0 sv → Tk w0 tb xs w → (xs ++ zs.flatten).length ≤ 200000 → Calls Tryz.prog 27 #[.pointer (some ⟨tb, 0, none⟩), sv] w (TkPost w0 tb (xs ++ zs.flatten) w))) {S : NL → World → Value → Prop} (hS : SetT S) (w0 w : World) (tb g bt bg : Nat) (xs : NL) (ds : List NL) (z : NL) (vd vs : Value) (h6 : Cl L w0 g 6 vd) (gd : GRowD L (GDir L n) ds w0 vd) (h7 : Cl L w0 g 7 vs) (gs : S z w0 vs) (hbt : Blk w bt 38 #[.pointer (some ⟨tb, 0, none⟩)]) (hbg : Blk w bg 94 #[ptr g]) (hne : bt ≠ tb ∧ bg ≠ tb) (hT : Tk w0 tb xs w) (hN : (xs ++ (ds ++ [z]).flatten).length ≤ 200000) :
    Calls Tryz.prog 30 #[.pointer (some ⟨bt, 0, none⟩), .pointer (some ⟨bg, 0, none⟩)] w (TkPost w0 tb (xs ++ (ds ++ [z]).flatten) w) := by
  have HF0 := Aside0.mk (FrT.refl tb w)
  have HT0 := Aside0.mk hT
  have HBT := Aside0.mk hbt
  have HBG := Aside0.mk hbg
  have HC0 := Aside0.mk (fun W (hT : Tk w0 tb (xs) W) => hD w0 W tb (xs) ds vd gd hT (by simp only [List.length_append, List.flatten_append, List.flatten_cons, List.flatten_nil, List.append_nil, List.length_nil] at hN ⊢; omega))
  have HH0 := Aside0.mk (fun W (hb : Below w0.heap.size w0 W) => pw_cell_below hb (cl_cell h6))
  have HC1 := Aside0.mk (fun W (hT : Tk w0 tb (xs ++ ds.flatten) W) => hS w0 W tb (xs ++ ds.flatten) z vs gs hT (by simp only [List.length_append, List.flatten_append, List.flatten_cons, List.flatten_nil, List.append_nil, List.length_nil] at hN ⊢; omega))
  have HH1 := Aside0.mk (fun W (hb : Below w0.heap.size w0 W) => pw_cell_below hb (cl_cell h7))
  clear hT hN hbt hbg h6 h7
  unfold ptr at *
  go_enter Tryz.func30, Tryz.ntmps30
  have q1 := ((HF0.out.keep HBT.out hne.1 (by decide) (by decide)).cell 0).trans rfl
  have q2 := ((HF0.out.keep HBG.out hne.2 (by decide) (by decide)).cell 0).trans rfl
  have q3 := HH0.out _ HT0.out.below
  go_wp2_with fail
  go_region_with (go_at_call 27; refine (HC0.out _ (HT0.out.of_below (below_drew (Below.refl _ _)))).mono ?_; rintro e w2 ⟨rfl, hT2, hF2⟩)
  all_goals
    have HT1 := Aside0.mk hT2
    have HF1 := Aside0.mk (HF0.out.drew.trans hF2)
    clear q1 q2 q3 hT2 hF2
    have q1 := ((HF1.out.keep HBT.out hne.1 (by decide) (by decide)).cell 0).trans rfl
    have q2 := ((HF1.out.keep HBG.out hne.2 (by decide) (by decide)).cell 0).trans rfl
    have q3 := HH1.out _ HT1.out.below
    go_wp2_with fail
    go_region_with (go_at_call 28; refine (HC1.out _ (HT1.out.of_below (below_drew (Below.refl _ _)))).mono ?_; rintro e w3 ⟨rfl, hT3, hF3⟩)
    all_goals
      have HT2 := Aside0.mk hT3
      have HF2 := Aside0.mk (HF1.out.drew.trans hF3)
      clear q1 q2 q3 hT3 hF3
      go_wp2_with fail
      go_end0
      refine ⟨rfl, ?_, HF2.out⟩
      have h := HT2.out
      simpa [List.append_assoc] using h
end Go.Proofs.YthbinlnpipgobaaGreatDoor.Take
