import Derived.Test.YtjoagdldbmlenaaGreatDoorVA2
import Derived.Laws.OwnMore
import Derived.Deep.RegionLaw
import Derived.OneCell
import Derived.Deep.RegionHeld3
set_option maxRecDepth 100000
set_option maxHeartbeats 8000000
set_option linter.unusedVariables false
set_option linter.unusedSimpArgs false
namespace Go.Proofs.YtjoagdldbmlenaaGreatDoor.Take
open Go.RowKit Go.Proofs.YtjoagdldbmlenaaGreatDoorW.PrintWords Keep Env Ast Tree
def cell6 (x : Nd) : List Value := [.int .i64 x.kind, .string x.name, .string x.alias, .string x.text, .int .i64 x.flag, .int .i64 x.size]
def cellsOf (xs : NL) : List Value := xs.flatMap cell6
theorem cells_app (xs ys : NL) : cellsOf (xs ++ ys) = cellsOf xs ++ cellsOf ys := by simp [cellsOf]
theorem cells_cons (x : Nd) (xs : NL) : cellsOf (x :: xs) = cell6 x ++ cellsOf xs := by simp [cellsOf]
theorem cells_len : ∀ xs : NL, (cellsOf xs).length = xs.length * 6
 | [] => rfl
 | x :: xs => by rw [cells_cons, List.length_append, cells_len xs, List.length_cons]; simp [cell6]; omega
theorem cells_set (xs ys : NL) (x : Nd) (n : Nat) : (cellsOf (xs ++ x :: ys)).set (xs.length * 6 + 5) (.int .i64 n) = cellsOf (xs ++ { x with size := n } :: ys) := by
 rw [cells_app, cells_app, cells_cons, cells_cons]
 rw [List.set_append_right _ _ (by rw [cells_len]; omega)]
 congr 1
 rw [show xs.length * 6 + 5 - (cellsOf xs).length = 5 by rw [cells_len]; omega]
 rfl
abbrev TN : TypeId := 51
abbrev TS : TypeId := 98
abbrev TT : TypeId := 38
structure FrT (tb : Nat) (w w' : World) : Prop where
 size : w.heap.size ≤ w'.heap.size
 blk : ∀ b cs T fr, b ≠ tb → T ≠ TN → T ≠ TS → w.heap[b]? = some (.cells cs T fr) → w'.heap[b]? = some (.cells cs T fr)
section
variable {tb : Nat} {a w w' : World}
theorem FrT.refl (tb : Nat) (w : World) : FrT tb w w := ⟨Nat.le_refl _, fun _ _ _ _ _ _ _ h => h⟩
theorem FrT.trans (h : FrT tb a w) (k : FrT tb w w') : FrT tb a w' := ⟨Nat.le_trans h.size k.size, fun b cs T fr h1 h2 h3 h4 => k.blk b cs T fr h1 h2 h3 (h.blk b cs T fr h1 h2 h3 h4)⟩
theorem lt_of_some {w : World} {b : Nat} {o : Obj} (h : w.heap[b]? = some o) : b < w.heap.size := by
 rcases Nat.lt_or_ge b w.heap.size with h1 | h1
 ·exact h1
 ·rw [Array.getElem?_eq_none h1] at h; cases h
theorem FrT.of_below (tb : Nat) (h : Below w.heap.size w w') : FrT tb w w' := ⟨h.size, fun b cs T fr _ _ _ h1 => (h.block b (lt_of_some h1)).trans h1⟩
theorem FrT.alloc (h : FrT tb a w) (o : Obj) : FrT tb a (w.alloc o) := h.trans (.of_below tb ((Below.refl _ _).alloc (Nat.le_refl _) o))
theorem FrT.drew (h : FrT tb a w) : FrT tb a w.drew := ⟨h.size, h.blk⟩
theorem FrT.set_ (h : FrT tb a w) (j : Nat) (u : Value) : FrT tb a (w.setCell ⟨tb, j, none⟩ u) := h.trans ⟨by simp [World.setCell], fun b cs T fr h1 _ _ h2 => (Below.heap_setCell _ _ _ _ h1).trans h2⟩
theorem FrT.grown {row : Option Nat} (h : FrT tb a w) (hg : w.grownBy w' row) (hr : ∀ g, row = some g → ∃ cs T fr, w.heap[g]? = some (.cells cs T fr) ∧ (T = TN ∨ T = TS)) : FrT tb a w' := h.trans ⟨hg.size, fun b cs T fr h1 h2 h3 h4 => (hg.block b (lt_of_some h4) (fun e => by
 obtain ⟨cs', T', fr', h5, h6⟩ := hr b e.symm
 rw [h4] at h5
 injection h5 with h5
 injection h5 with _ h7
 subst h7
 exact h6.elim h2 h3)).trans h4⟩
theorem FrT.keep {g : Nat} {T : TypeId} {cs : Array Value} (h : FrT tb w w') (hb : Blk w g T cs) (h1 : g ≠ tb) (h2 : T ≠ TN) (h3 : T ≠ TS) : Blk w' g T cs := h.blk g cs T (0, 0) h1 h2 h3 hb
end
structure TkC (w0 : World) (tb : Nat) (xs : NL) (m : Nat) (d sp : Value) (w : World) : Prop where
 blk : Blk w tb TT #[d, sp, .bool false]
 rowD : w.ownsRow w0.heap.size TN 6 d xs.length (cellsOf xs)
 rowS : ∃ vs, w.ownsRow w0.heap.size TS 2 sp m vs
 below : Below w0.heap.size w0 w
 base : w0.heap.size ≤ tb
def TkM (w0 : World) (tb : Nat) (xs : NL) (m : Nat) (w : World) : Prop := ∃ d sp, TkC w0 tb xs m d sp w
abbrev Tk (w0 : World) (tb : Nat) (xs : NL) (w : World) : Prop := TkM w0 tb xs xs.length w
theorem own_shape {w : World} {base n k : Nat} {T : TypeId} {v : Value} {xs : List Value} (h : w.ownsRow base T k v n xs) : ∃ A c, v = .slice A n c ∧ n ≤ c ∧ (A = none → n = 0 ∧ c = 0) := by
 rcases h.2 with ⟨rfl, rfl⟩ | ⟨g, cap, cur, rfl, _, _, hc, _⟩
 ·exact ⟨none, 0, rfl, Nat.le_refl _, fun _ => ⟨rfl, rfl⟩⟩
 ·exact ⟨_, cap, rfl, hc, fun h => by cases h⟩
theorem own_some {w : World} {base n k : Nat} {T : TypeId} {v : Value} {xs : List Value} (h : w.ownsRow base T k v n xs) (hn : 0 < n) : ∃ g c, v = .slice (some ⟨g, 0, none⟩) n c := by
 rcases h.2 with ⟨_, h0⟩ | ⟨g, cap, cur, rfl, _⟩
 ·omega
 ·exact ⟨g, cap, rfl⟩
theorem own_type {w : World} {base n k g : Nat} {T : TypeId} {v : Value} {xs : List Value} (h : w.ownsRow base T k v n xs) (hg : v.ownBlock = some g) : base ≤ g ∧ ∃ cs, w.heap[g]? = some (.cells cs T (0, 0)) := by
 rcases h.2 with ⟨rfl, _⟩ | ⟨g', cap, cur, rfl, hb, hh, _⟩
 ·cases hg
 ·have : g' = g := by simpa [Value.ownBlock] using hg
  subst this
  exact ⟨hb, cur, hh⟩
theorem own_far {w w' : World} {base n k : Nat} {T : TypeId} {v : Value} {xs : List Value} (h : w.ownsRow base T k v n xs) (hk : ∀ g cs, v.ownBlock = some g → w.heap[g]? = some (Obj.cells cs T (0, 0)) → w'.heap[g]? = some (.cells cs T (0, 0))) : w'.ownsRow base T k v n xs := by
 refine ⟨h.1, ?_⟩
 rcases h.2 with h2 | ⟨g, cap, cur, rfl, hb, hh, r⟩
 ·exact .inl h2
 ·exact .inr ⟨g, cap, cur, rfl, hb, hk g cur rfl hh, r⟩
section
variable {w0 w w' : World} {tb m : Nat} {xs : NL}
theorem TkC.of_below {d sp : Value} (h : TkC w0 tb xs m d sp w) (hb : Below w.heap.size w w') : TkC w0 tb xs m d sp w' := by
 obtain ⟨h1, h2, ⟨vs, h3⟩, h4, h5⟩ := h
 exact ⟨Blk.below h1 hb h1.lt, own_far h2 fun g cs _ hh => (hb.block g (lt_of_some hh)).trans hh, ⟨vs, own_far h3 fun g cs _ hh => (hb.block g (lt_of_some hh)).trans hh⟩, h4.trans (hb.mono h4.size), h5⟩
theorem TkM.of_below (h : TkM w0 tb xs m w) (hb : Below w.heap.size w w') : TkM w0 tb xs m w' := by
 obtain ⟨d, sp, h⟩ := h
 exact ⟨d, sp, h.of_below hb⟩
theorem TkM.below (h : TkM w0 tb xs m w) : Below w0.heap.size w0 w := by obtain ⟨_, _, h⟩ := h; exact h.below
theorem TkM.base (h : TkM w0 tb xs m w) : w0.heap.size ≤ tb := by obtain ⟨_, _, h⟩ := h; exact h.base
theorem ne_types {g g' : Nat} {cs cs' : Array Value} {T T' : TypeId} {fr fr' : Nat × Nat} (h : w.heap[g]? = some (.cells cs T fr)) (h' : w.heap[g']? = some (.cells cs' T' fr')) (hT : T ≠ T') : g ≠ g' := fun e => by
 subst e
 rw [h] at h'
 injection h' with h'
 injection h' with _ h2
 exact hT h2
theorem tk_node {d sp d' : Value} {x : Nd} {o : Obj} (h : TkC w0 tb xs m d sp w)
  (hown : w'.ownsRow w0.heap.size TN 6 d' (xs.length + 1) (cellsOf xs ++ cell6 x)) (hg : (w.alloc o).grownBy w' d.ownBlock) :
  Blk w' tb TT #[d, sp, .bool false] ∧ Below w0.heap.size w0 w' ∧ TkC w0 tb (xs ++ [x]) m d' sp (w'.setCell ⟨tb, 0, none⟩ d') ∧ FrT tb w (w'.setCell ⟨tb, 0, none⟩ d') := by
 obtain ⟨hB, hd, ⟨vs, hs⟩, h0, hb⟩ := h
 have hal : ∀ g o', w.heap[g]? = some o' → (w.alloc o).heap[g]? = some o' := fun g o' h => (Below.heap_alloc w o g (lt_of_some h)).trans h
 have hrow : ∀ g, d.ownBlock = some g → w0.heap.size ≤ g ∧ ∃ cs, (w.alloc o).heap[g]? = some (.cells cs TN (0, 0)) := fun g e => by
  obtain ⟨h1, cs, h2⟩ := own_type hd e
  exact ⟨h1, cs, hal _ _ h2⟩
 have far : ∀ (g : Nat) (cs : Array Value) (T : TypeId), T ≠ TN → w.heap[g]? = some (Obj.cells cs T (0, 0)) → w'.heap[g]? = some (Obj.cells cs T (0, 0)) := fun g cs T hT hh => by
  have h1 := hal _ _ hh
  refine (hg.block g (lt_of_some h1) fun e => ?_).trans h1
  obtain ⟨_, cs', h2⟩ := hrow g e.symm
  exact ne_types h1 h2 hT rfl
 have hB' : Blk w' tb TT #[d, sp, .bool false] := far tb _ _ (by decide) hB
 have hne : ∀ (g : Nat) (cs : Array Value) (T : TypeId), T ≠ TT → w'.heap[g]? = some (Obj.cells cs T (0, 0)) → (w'.setCell ⟨tb, 0, none⟩ d').heap[g]? = some (Obj.cells cs T (0, 0)) := fun g cs T hT hh =>
  (Below.heap_setCell w' ⟨tb, 0, none⟩ d' g (ne_types hh (show w'.heap[tb]? = some (Obj.cells _ TT (0, 0)) from hB') hT)).trans hh
 have hbw : Below w0.heap.size w0 w' := by
  have h1 : Below w0.heap.size w (w.alloc o) := (Below.refl w0.heap.size w).alloc h0.size o
  exact h0.trans (h1.grown hg (by simp; have := h0.size; omega) (fun g e => (hrow g e).1))
 refine ⟨hB', hbw, ⟨hB'.set_ 0 d', ?_, ⟨vs, own_far hs fun g cs _ hh => hne g cs _ (by decide) (far g cs _ (by decide) hh)⟩, hbw.setCell (p := ⟨tb, 0, none⟩) hb _, hb⟩, ?_⟩
 ·rw [cells_app, List.length_append]
  have : cellsOf [x] = cell6 x := by simp [cellsOf]
  rw [this]
  exact own_far hown fun g cs _ hh => hne g cs _ (by decide) hh
 ·exact ((((FrT.refl tb w).alloc o).grown hg fun g e => by obtain ⟨_, cs, h⟩ := hrow g e; exact ⟨cs, TN, (0, 0), h, .inl rfl⟩).set_ 0 _)
theorem tk_place {d sp sp' : Value} {vs' : List Value} {o : Obj} (h : TkC w0 tb xs m d sp w)
  (hown : w'.ownsRow w0.heap.size TS 2 sp' (m + 1) vs') (hg : (w.alloc o).grownBy w' sp.ownBlock) :
  Blk w' tb TT #[d, sp, .bool false] ∧ TkC w0 tb xs (m + 1) d sp' (w'.setCell ⟨tb, 1, none⟩ sp') ∧ FrT tb w (w'.setCell ⟨tb, 1, none⟩ sp') := by
 obtain ⟨hB, hd, ⟨vs, hs⟩, h0, hb⟩ := h
 have hal : ∀ g o', w.heap[g]? = some o' → (w.alloc o).heap[g]? = some o' := fun g o' h => (Below.heap_alloc w o g (lt_of_some h)).trans h
 have hrow : ∀ g, sp.ownBlock = some g → w0.heap.size ≤ g ∧ ∃ cs, (w.alloc o).heap[g]? = some (.cells cs TS (0, 0)) := fun g e => by
  obtain ⟨h1, cs, h2⟩ := own_type hs e
  exact ⟨h1, cs, hal _ _ h2⟩
 have far : ∀ (g : Nat) (cs : Array Value) (T : TypeId), T ≠ TS → w.heap[g]? = some (Obj.cells cs T (0, 0)) → w'.heap[g]? = some (Obj.cells cs T (0, 0)) := fun g cs T hT hh => by
  have h1 := hal _ _ hh
  refine (hg.block g (lt_of_some h1) fun e => ?_).trans h1
  obtain ⟨_, cs', h2⟩ := hrow g e.symm
  exact ne_types h1 h2 hT rfl
 have hB' : Blk w' tb TT #[d, sp, .bool false] := far tb _ _ (by decide) hB
 have hne : ∀ (g : Nat) (cs : Array Value) (T : TypeId), T ≠ TT → w'.heap[g]? = some (Obj.cells cs T (0, 0)) → (w'.setCell ⟨tb, 1, none⟩ sp').heap[g]? = some (Obj.cells cs T (0, 0)) := fun g cs T hT hh =>
  (Below.heap_setCell w' ⟨tb, 1, none⟩ sp' g (ne_types hh (show w'.heap[tb]? = some (Obj.cells _ TT (0, 0)) from hB') hT)).trans hh
 refine ⟨hB', ⟨hB'.set_ 1 sp', own_far hd fun g cs _ hh => hne g cs _ (by decide) (far g cs _ (by decide) hh), ⟨vs', own_far hown fun g cs _ hh => hne g cs _ (by decide) hh⟩, ?_, hb⟩, ?_⟩
 ·have h1 : Below w0.heap.size w (w.alloc o) := (Below.refl w0.heap.size w).alloc h0.size o
  have h2 := h1.grown hg (by simp; have := h0.size; omega) (fun g e => (hrow g e).1)
  exact h0.trans (h2.setCell (p := ⟨tb, 1, none⟩) hb _)
 ·exact ((((FrT.refl tb w).alloc o).grown hg fun g e => by obtain ⟨_, cs, h⟩ := hrow g e; exact ⟨cs, TS, (0, 0), h, .inr rfl⟩).set_ 1 _)
theorem tk_size {g cap : Nat} {ys : NL} {x : Nd} {sp : Value} {n : Nat} (h : TkC w0 tb (xs ++ x :: ys) m (.slice (some ⟨g, 0, none⟩) (xs ++ x :: ys).length cap) sp w) :
  TkM w0 tb (xs ++ { x with size := n } :: ys) m (w.setCell ⟨g, xs.length * 6 + 5, none⟩ (.int .i64 n)) ∧ FrT tb w (w.setCell ⟨g, xs.length * 6 + 5, none⟩ (.int .i64 n)) := by
 obtain ⟨hB, hd, ⟨vs, hs⟩, h0, hb⟩ := h
 obtain ⟨h1, h2⟩ := World.ownsRow.stored hd (xs.length * 6 + 5) (.int .i64 n)
 obtain ⟨hg, cs, hh⟩ := own_type hd rfl
 rw [cells_set] at h1
 have hl : (xs ++ x :: ys).length = (xs ++ { x with size := n } :: ys).length := by simp
 have far : ∀ (g' : Nat) (cs' : Array Value) (T : TypeId), T ≠ TN → w.heap[g']? = some (Obj.cells cs' T (0, 0)) → (w.setCell ⟨g, xs.length * 6 + 5, none⟩ (.int .i64 n)).heap[g']? = some (Obj.cells cs' T (0, 0)) := fun g' cs' T hT h' =>
  (Below.heap_setCell w ⟨g, xs.length * 6 + 5, none⟩ (.int .i64 n) g' (ne_types h' hh hT)).trans h'
 refine ⟨⟨_, sp, far tb _ _ (by decide) hB, ?_, ⟨vs, own_far hs fun g' cs' _ h' => far g' cs' _ (by decide) h'⟩, ?_, hb⟩, ?_⟩
 ·rw [hl] at h1; rw [hl]; exact h1
 ·exact h0.trans ((Below.refl w0.heap.size w).setCell (p := ⟨g, xs.length * 6 + 5, none⟩) hg _)
 ·exact (FrT.refl tb w).grown h2 fun g' e => by
   obtain rfl := Option.some.inj e
   exact ⟨cs, TN, (0, 0), hh, .inl rfl⟩
end
theorem ne_nilfn (W : World) : (binOp BinOp.neq 1 .nilFunc .nilFunc).run Tryz.prog W = .ok (.bool false) W := by kernel_rfl
theorem ne_fn (f : Fn) (a b : Array Value) (W : World) : (binOp BinOp.neq 1 (.func f a b) .nilFunc).run Tryz.prog W = .ok (.bool true) W := by kernel_rfl
theorem infoNd : (Tryz.prog.info? 51).map (fun i => (i.zero, i.size, i.bytes)) = some (some (.agg #[.int .i64 0, .string ⟨#[]⟩, .string ⟨#[]⟩, .string ⟨#[]⟩, .int .i64 0, .int .i64 0]), 6, 72) := by kernel_rfl
theorem infoSp : (Tryz.prog.info? 98).map (fun i => (i.zero, i.size, i.bytes)) = some (some (.agg #[.int .i64 0, .int .i64 0]), 2, 16) := by kernel_rfl
theorem put_nil (w0 w : World) (tb lb : Nat) (xs : NL) (k fl a b : Int) (nm al tx : ByteArray) (hT : Tk w0 tb xs w) (l0 : w0.cell? ⟨lb, 0, none⟩ = some (.int .i64 a)) (l1 : w0.cell? ⟨lb, 1, none⟩ = some (.int .i64 b)) (hN : (xs ++ nd k nm al tx fl []).length ≤ 200000) :
  Calls Tryz.prog 21 #[.pointer (some ⟨tb, 0, none⟩), .pointer (some ⟨lb, 0, none⟩), .agg #[.int .i64 k, .string nm, .string al, .string tx, .int .i64 fl, .int .i64 0], .nilFunc] w fun e w' => e = .returned (.tuple #[]) ∧ Tk w0 tb (xs ++ nd k nm al tx fl []) w' ∧ FrT tb w w' := by
 obtain ⟨i0, hi, hz0, hz1, hz2⟩ := info_parts infoNd
 obtain ⟨j0, hj, hy0, hy1, hy2⟩ := info_parts infoSp
 obtain ⟨d, sp, hC⟩ := hT
 obtain ⟨A1, c1, rfl, _⟩ := own_shape hC.rowD
 obtain ⟨vs, hsp⟩ := hC.rowS
 obtain ⟨A2, c2, rfl, _⟩ := own_shape hsp
 have q0 := (hC.blk.cell 0).trans (show _ = some (Value.slice A1 xs.length c1) from rfl)
 have q1 := (hC.blk.cell 1).trans (show _ = some (Value.slice A2 xs.length c2) from rfl)
 have z0 := hC.blk.frozen 0
 have z1 := hC.blk.frozen 1
 have hlt := hC.blk.lt
 have hlb : lb < w0.heap.size := World.block_lt_of_cell? w0 _ l0
 have hbase := hC.base
 have hsz := hC.below.size
 have hxl : xs.length < 200000 := by rw [List.length_append, nd_len] at hN; omega
 have HC1 := aK (hC.of_below (below_alloc (Below.refl w.heap.size w) (.cells #[.int .i64 k, .string nm, .string al, .string tx, .int .i64 fl, .int .i64 0] TN)))
 have HL := aK (fun W (hb : Below w0.heap.size w0 W) => (⟨pw_cell_below hb l0, pw_cell_below hb l1⟩ : W.cell? ⟨lb, 0, none⟩ = some (.int .i64 a) ∧ W.cell? ⟨lb, 1, none⟩ = some (.int .i64 b)))
 have HN := aK hN
 have hfn := ne_nilfn
 clear hC hsp l0 l1 hN
 go_enter Tryz.func21, Tryz.ntmps21
 have hnew := heap_alloc_new (w.alloc (.cells #[.int .i64 k, .string nm, .string al, .string tx, .int .i64 fl, .int .i64 0] TN)) (.cells #[.int .i64 k, .string nm, .string al, .string tx, .int .i64 fl, .int .i64 0] TN)
 rw [World.size_alloc] at hnew
 have HNEW := aK hnew
 clear hnew
 go_wp2_with fail
 go_cut [] (fun wx => ∃ gg cap, Aside0 (TkC w0 tb (xs ++ [(⟨k, nm, al, tx, fl, 0⟩ : Nd)]) xs.length (.slice (some ⟨gg, 0, none⟩) (xs.length + 1) cap) (.slice A2 xs.length c2) wx ∧ FrT tb w wx))
 case first =>
  go_region_law ((refine step_append_lies _ (by rfl) _ _ _ (by rfl) w0.heap.size TN i0 _ 6 72 Tryz.underlying25 hi hz0 hz1 hz2 rfl (by omega) (.slice A1 xs.length c1) xs.length (cellsOf xs) (by rfl) ((HC1.out.rowD.alloc _).drew) ⟨w.heap.size + 1, 0, none⟩ 1 1 (cell6 ⟨k, nm, al, tx, fl, 0⟩) (by rfl) (by rfl) (World.news_of_block (cs := #[.int .i64 k, .string nm, .string al, .string tx, .int .i64 fl, .int .i64 0]) (t := TN) (fr := (0, 0)) HNEW.out) (by simp [Value.oneCell', cell6]) (by omega) (by simp [maxLen]; omega) (by omega) (by simp; omega) (w.heap.size + 2) (by simp) ?_; intro gg cap w4 hown1 hgrow hat hlt4; obtain ⟨hB4, hb4, hC4, hF4⟩ := tk_node HC1.out hown1 ⟨hgrow.os, hgrow.tape, hgrow.output, hgrow.size, hgrow.block⟩; have y0 := hB4.frozen 0; have e0 := (hB4.cell 0).trans (show _ = some (Value.slice A1 xs.length c1) from rfl); have hlt4b := hB4.lt))
  all_goals
   have HE := aK (⟨hC4, ((FrT.refl tb w).alloc _).trans hF4⟩ : TkC w0 tb (xs ++ [(⟨k, nm, al, tx, fl, 0⟩ : Nd)]) xs.length (.slice (some ⟨gg, 0, none⟩) (xs.length + 1) cap) (.slice A2 xs.length c2) _ ∧ FrT tb w _)
   clear hC4 hF4 hB4 hb4
   go_wp2_with fail
   go_meet
   case rel => exact ⟨gg, cap, HE⟩
 case rest =>
  obtain ⟨gg, cap, HE⟩ := hcut
  obtain ⟨vs4, hs4⟩ := HE.out.1.rowS
  have HS4 := aK hs4
  have r0 := (HE.out.1.blk.cell 0).trans (show _ = some (Value.slice (some ⟨gg, 0, none⟩) (xs.length + 1) cap) from rfl)
  have r1 := (HE.out.1.blk.cell 1).trans (show _ = some (Value.slice A2 xs.length c2) from rfl)
  have y1 := HE.out.1.blk.frozen 1
  have hltc := HE.out.1.blk.lt
  have hszc := HE.out.1.below.size
  obtain ⟨p0, p1⟩ := HL.out wc HE.out.1.below
  have hnew := aK (heap_alloc_new wc (.cells #[.int .i64 a, .int .i64 b] TS))
  clear q0 q1 z0 z1 hs4 HNEW
  go_wp2_with fail
  go_cut [] (fun wx => ∃ gs cs, Aside0 (TkC w0 tb (xs ++ [(⟨k, nm, al, tx, fl, 0⟩ : Nd)]) (xs.length + 1) (.slice (some ⟨gg, 0, none⟩) (xs.length + 1) cap) (.slice (some ⟨gs, 0, none⟩) (xs.length + 1) cs) wx ∧ FrT tb w wx))
  case first =>
   go_region_law ((refine step_append_lies _ (by rfl) _ _ _ (by rfl) w0.heap.size TS j0 _ 2 16 Tryz.underlying36 hj hy0 hy1 hy2 rfl (by omega) (.slice A2 xs.length c2) xs.length vs4 (by rfl) ((HS4.out.alloc _).drew) ⟨wc.heap.size, 0, none⟩ 1 1 [.int .i64 a, .int .i64 b] (by rfl) (by rfl) (World.news_of_block (cs := #[.int .i64 a, .int .i64 b]) (t := TS) (fr := (0, 0)) hnew.out) (by simp [Value.oneCell']) (by omega) (by simp [maxLen]; omega) (by omega) (by simp; omega) (wc.heap.size + 1) (by simp) ?_; intro gs cs w4 hown1 hgrow hat hlt4; obtain ⟨hB4, hC4, hF4⟩ := tk_place HE.out.1 hown1 ⟨hgrow.os, hgrow.tape, hgrow.output, hgrow.size, hgrow.block⟩; have y2 := hB4.frozen 1; have e2 := (hB4.cell 1).trans (show _ = some (Value.slice A2 xs.length c2) from rfl); have hlt4b := hB4.lt))
   all_goals
    have HE2 := aK (⟨hC4, HE.out.2.trans hF4⟩ : TkC w0 tb (xs ++ [(⟨k, nm, al, tx, fl, 0⟩ : Nd)]) (xs.length + 1) (.slice (some ⟨gg, 0, none⟩) (xs.length + 1) cap) (.slice (some ⟨gs, 0, none⟩) (xs.length + 1) cs) _ ∧ FrT tb w _)
    clear hC4 hF4 hB4
    go_wp2_with fail
    go_meet
    case rel => exact ⟨gs, cs, HE2⟩
  case rest =>
   obtain ⟨gs, cs, HE2⟩ := hcut
   clear r0 r1 y1 hltc hszc p0 p1 hnew HS4 HE
   obtain ⟨w5, hw5⟩ : ∃ w5, w5 = wc := ⟨_, rfl⟩
   subst hw5
   obtain ⟨d5, s5, HE5⟩ : ∃ d5 s5, Aside0 (TkC w0 tb (xs ++ (⟨k, nm, al, tx, fl, 0⟩ : Nd) :: ([] : NL)) (xs ++ (⟨k, nm, al, tx, fl, 0⟩ : Nd) :: ([] : NL)).length d5 s5 w5 ∧ FrT tb w w5) := ⟨_, _, ⟨by rw [List.length_append]; exact HE2.out.1, HE2.out.2⟩⟩
   obtain ⟨g5, c5, rfl⟩ := own_some HE5.out.1.rowD (by rw [List.length_append, List.length_cons]; omega)
   have HE6 := aK (tk_size (n := (([] : NL)).length + 1) HE5.out.1)
   have hLl : (xs ++ (⟨k, nm, al, tx, fl, 0⟩ : Nd) :: ([] : NL)).length = xs.length + ((([] : NL)).length + 1) := by rw [List.length_append, List.length_cons]
   have r0 := (HE5.out.1.blk.cell 0).trans (show _ = some (Value.slice (some ⟨g5, 0, none⟩) (xs ++ (⟨k, nm, al, tx, fl, 0⟩ : Nd) :: ([] : NL)).length c5) from rfl)
   have r5 : ∃ u, w5.cell? ⟨g5, xs.length * 6 + 5, none⟩ = some u := by
    rw [World.ownsRow.cellAt HE5.out.1.rowD _ (by rw [hLl]; omega)]
    exact ⟨_, List.getElem?_eq_getElem (by rw [cells_len, hLl]; omega)⟩
   obtain ⟨u5, r5⟩ := r5
   have z5 := World.ownsRow.frozenAt HE5.out.1.rowD (xs.length * 6 + 5)
   have hlt5 := HE5.out.1.blk.lt
   rw [hLl] at r0
   have hsub : ((xs.length + ((([] : NL)).length + 1) : Nat) : Int) - (xs.length : Int) = (((([] : NL)).length + 1 : Nat) : Int) := by omega
   have HFIN : Aside0 (TkM w0 tb (xs ++ nd k nm al tx fl []) (xs ++ nd k nm al tx fl []).length (w5.setCell ⟨g5, xs.length * 6 + 5, none⟩ (.int .i64 (((([] : NL)).length + 1 : Nat) : Int))) ∧ FrT tb w (w5.setCell ⟨g5, xs.length * 6 + 5, none⟩ (.int .i64 (((([] : NL)).length + 1 : Nat) : Int)))) :=
    ⟨by have h := HE6.out.1; rw [hLl] at h; rw [List.length_append, nd_len]; exact h, HE5.out.2.trans HE6.out.2⟩
   have hkn : (([] : NL)).length + 1 ≤ 200000 := by
    have h := HN.out
    rw [List.length_append, nd_len] at h
    first | omega | simp
   have htg : ¬ tb = g5 := by
    obtain ⟨_, cs5, h5⟩ := own_type HE5.out.1.rowD rfl
    exact ne_types (show w5.heap[tb]? = some (Obj.cells _ TT (0, 0)) from HE5.out.1.blk) h5 (by decide)
   have hgt : ¬ g5 = tb := fun e => htg e.symm
   have hkp : 0 < (([] : NL)).length + 1 := Nat.succ_pos _
   generalize hkf : (([] : NL)).length + 1 = kn at *
   have hb1 : (0 : Int) ≤ (xs.length : Int) := by omega
   have hb2 : (xs.length : Int) < (xs.length : Int) + (kn : Int) := by omega
   have hb3 : (xs.length : Int) < ((xs.length + kn : Nat) : Int) := by omega
   have hsub2 : (xs.length : Int) + (kn : Int) - (xs.length : Int) = (kn : Int) := by omega
   clear HE2 HE5 HE6 hLl hkf
   go_wp2_with fail
   go_region_held3 (fun w' => w'.cell? ⟨tb, 0, none⟩ = some (.slice (some ⟨g5, 0, none⟩) (xs.length + kn) c5)) (go_keep) (fail)
   all_goals
    go_wp2_with fail
    go_end0
    have hwr : IntKind.i64.wrap (kn : Int) = (kn : Int) := by rw [IntKind.wrap_i64]; omega
    rw [hwr]
    exact ⟨rfl, HFIN.out.1.of_below (below_drew (Below.refl _ _)), HFIN.out.2.drew⟩
end Go.Proofs.YtjoagdldbmlenaaGreatDoor.Take
