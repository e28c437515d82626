import Derived.Test.YtjoagdldbmlenaaGreatDoorVA1
import Derived.Shelf.Unicode.DecodeSlow
import Derived.Test.YtjoagdldbmlenaaGreatDoorProg
import Derived.Laws.OwnMore
import Derived.Deep.AppendLies
import Derived.Deep.Draws
import Derived.Laws.Rows
import Derived.Lib.Strings
import Derived.KernelRfl
import Derived.Deep.QuietTactic
import Derived.BigQuiet
import Derived.Deep.RegionHeld3
import Derived.Deep.DeepCutAuto
import Derived.Deep.CutBlock
set_option maxRecDepth 100000
set_option maxHeartbeats 8000000
set_option linter.unusedVariables false
set_option linter.unusedSimpArgs false
namespace Go.Proofs.YtjoagdldbmlenaaGreatDoor.Env
open Go.RowKit Go.Proofs.YtjoagdldbmlenaaGreatDoorW.PrintWords Keep Go.Proofs.YtjoagdldbmlenaaGreatDoor.Mod Rel WtL
abbrev BW (w wx : World) : Prop := Below (w.alloc (.cells #[.int .i64 0, .int .i64 0, .int .i64 0, .string ⟨#[]⟩] 59)).heap.size (w.alloc (.cells #[.int .i64 0, .int .i64 0, .int .i64 0, .string ⟨#[]⟩] 59)) wx
def Blk (w : World) (g : Nat) (t : TypeId) (cs : Array Value) : Prop := w.heap[g]? = some (.cells cs t (0, 0))
section
variable {w w' : World} {g : Nat} {t : TypeId} {cs : Array Value}
theorem Blk.lt (h : Blk w g t cs) : g < w.heap.size := by
 rcases Nat.lt_or_ge g w.heap.size with hlt | hge
 ·exact hlt
 ·unfold Blk at h; rw [Array.getElem?_eq_none hge] at h; cases h
theorem Blk.cell (h : Blk w g t cs) (i : Nat) : w.cell? ⟨g, i, none⟩ = cs[i]? := cell_of_row w g i cs t (0, 0) h
theorem Blk.frozen (h : Blk w g t cs) (i : Nat) : w.frozen? ⟨g, i, none⟩ = false := by
 unfold Blk at h
 simp [World.frozen?, h]
theorem Blk.new (w : World) (t : TypeId) (cs : Array Value) : Blk (w.alloc (.cells cs t)) w.heap.size t cs := heap_alloc_new w _
theorem Blk.drew (h : Blk w g t cs) : Blk w.drew g t cs := h
theorem Blk.alloc (h : Blk w g t cs) (o : Obj) : Blk (w.alloc o) g t cs := (Below.heap_alloc w o g h.lt).trans h
theorem Blk.set_ (h : Blk w g t cs) (i : Nat) (u : Value) : Blk (w.setCell ⟨g, i, none⟩ u) g t (cs.setIfInBounds i u) := by
 unfold Blk at h ⊢
 simp [World.setCell, Array.getElem?_modify, h]
theorem Blk.far (h : Blk w g t cs) {p : Addr} (hp : g ≠ p.block) (u : Value) : Blk (w.setCell p u) g t cs := (Below.heap_setCell w p u g hp).trans h
theorem Blk.below {B : Nat} (h : Blk w g t cs) (hb : Below B w w') (hg : g < B) : Blk w' g t cs := (hb.block g hg).trans h
theorem Blk.keep {p q : Nat} (h : Blk w g t cs) (hk : Keeps p q w w') (h1 : g ≠ p) (h2 : g ≠ q) : Blk w' g t cs := (hk.block g h.lt h1 h2).trans h
end
def BodyAt (w : World) (bb : Nat) (s : ByteArray) : Prop := ∀ j : Nat, j < s.size → w.cell? ⟨bb, j, none⟩ = some (.int .u8 (bt s j))
theorem BodyAt.below {w w' : World} {bb : Nat} {s : ByteArray} (h : BodyAt w bb s) (hb : Below w.heap.size w w') : BodyAt w' bb s := fun j hj => pw_cell_below hb (h j hj)
theorem BodyAt.keep {w w' : World} {bb p q : Nat} {s : ByteArray} (h : BodyAt w bb s) (hk : Keeps p q w w') (h1 : bb ≠ p) (h2 : bb ≠ q) : BodyAt w' bb s := fun j hj => hk.cell (h j hj) h1 h2
theorem below_one {w w1 : World} {o : Obj} (hb : Below (w.alloc o).heap.size (w.alloc o) w1) : Below w.heap.size w w1 :=
 ((Below.refl w.heap.size w).alloc (Nat.le_refl _) o).trans (hb.mono (by simp))
abbrev Tabs (w : World) : Prop := Lib.Utf8Tabs 0 1 w
theorem tabs_keep {w w' : World} {p q : Nat} (h : Tabs w) (hk : Keeps p q w w') (h1 : 0 ≠ p) (h2 : 0 ≠ q) (h3 : 1 ≠ p) (h4 : 1 ≠ q) : Tabs w' :=
 ⟨fun c hc => hk.cell (h.1 c hc) h1 h2, fun i hi => ⟨hk.cell (h.2 i hi).1 h3 h4, hk.cell (h.2 i hi).2 h3 h4⟩⟩
structure Tx (sb bb cap : Nat) (s : ByteArray) (w : World) : Prop where
 body : BodyAt w bb s
 tabs : Tabs w
 s0 : w.cell? ⟨sb, 0, none⟩ = some (.slice (some ⟨bb, 0, none⟩) s.size cap)
 cap : s.size ≤ cap
 size : s.size ≤ 100000
theorem Tx.below {sb bb cap : Nat} {s : ByteArray} {w w' : World} (h : Tx sb bb cap s w) (hb : Below w.heap.size w w') : Tx sb bb cap s w' :=
 ⟨h.body.below hb, Utf8Tabs_below h.tabs hb, pw_cell_below hb h.s0, h.cap, h.size⟩
abbrev errV (g : Nat) : Value := .iface 156 (.pointer (some ⟨g, 0, none⟩))
abbrev tokV (t : Tok) : Value := .agg #[.int .i64 t.kind, .int .i64 t.start, .int .i64 t.stop, .string t.value]
abbrev zeroT : Value := .agg #[.int .i64 0, .int .i64 0, .int .i64 0, .string ⟨#[]⟩]
def TokRes (r : Option Tok) (w : World) (e : Ending) (w' : World) : Prop := Below w.heap.size w w' ∧ ((∃ t, r = some t ∧ e = .returned (.tuple #[tokV t, .nilIface])) ∨ (r = none ∧ ∃ g, e = .returned (.tuple #[zeroT, errV g])))
structure At where
 pb : Nat
 qb : Nat
 xb : Nat
 sb : Nat
 bb : Nat
 cap : Nat
 s : ByteArray
 lx : Nat → Option Tok
 ask : Nat → Prop
structure OKLex (E : At) : Prop where
 prog : LxOk E.lx E.s
 le : ∀ p, E.ask p → p ≤ E.s.size
 next : ∀ p t, E.ask p → E.lx p = some t → E.ask t.stop
 read : ∀ W p, Tx E.sb E.bb E.cap E.s W → E.ask p → Calls Tryz.prog 74 #[.pointer (some ⟨E.sb, 0, none⟩), .int .i64 p] W fun e w' => TokRes (E.lx p) W e w'
structure Src (E : At) (w : World) : Prop where
 x0 : w.cell? ⟨E.xb, 0, none⟩ = some (.pointer (some ⟨E.sb, 0, none⟩))
 tx : Tx E.sb E.bb E.cap E.s w
 ok : OKLex E
theorem Src.below {E : At} {w w' : World} (h : Src E w) (hb : Below w.heap.size w w') : Src E w' :=
 ⟨pw_cell_below hb h.x0, h.tx.below hb, h.ok⟩
theorem Src.s0 {E : At} {w : World} (h : Src E w) : w.cell? ⟨E.sb, 0, none⟩ = some (.slice (some ⟨E.bb, 0, none⟩) E.s.size E.cap) := h.tx.s0
theorem Src.body {E : At} {w : World} (h : Src E w) : BodyAt w E.bb E.s := h.tx.body
theorem Src.size {E : At} {w : World} (h : Src E w) : E.s.size ≤ 100000 := h.tx.size
theorem Src.cap {E : At} {w : World} (h : Src E w) : E.s.size ≤ E.cap := h.tx.cap
structure Far (E : At) : Prop where
 xp : E.xb ≠ E.pb
 xq : E.xb ≠ E.qb
 sp : E.sb ≠ E.pb
 sq : E.sb ≠ E.qb
 bp : E.bb ≠ E.pb
 bq : E.bb ≠ E.qb
 pq : E.pb ≠ E.qb
 fp : 0 ≠ E.pb
 fq : 0 ≠ E.qb
 ap : 1 ≠ E.pb
 aq : 1 ≠ E.qb
theorem Src.keep {E : At} {w w' : World} (h : Src E w) (hF : Far E) (hk : Keeps E.pb E.qb w w') : Src E w' :=
 ⟨hk.cell h.x0 hF.xp hF.xq, ⟨h.body.keep hk hF.bp hF.bq, tabs_keep h.tx.tabs hk hF.fp hF.fq hF.ap hF.aq, hk.cell h.s0 hF.sp hF.sq, h.cap, h.size⟩, h.ok⟩
end Go.Proofs.YtjoagdldbmlenaaGreatDoor.Env
namespace Go.Proofs.YtjoagdldbmlenaaGreatDoor.Ast
open Go.RowKit Go.Proofs.YtjoagdldbmlenaaGreatDoorW.PrintWords Keep Env Tree
def Cl (L : Nat) (w : World) (g i : Nat) (x : Value) : Prop := L ≤ g ∧ w.cell? ⟨g, i, none⟩ = some x ∧ ∃ cs T fr, w.heap[g]? = some (.cells cs T fr) ∧ T ≠ 20
def Up (L : Nat) (w w' : World) : Prop := ∀ b cs T fr, L ≤ b → T ≠ 20 → w.heap[b]? = some (.cells cs T fr) → w'.heap[b]? = some (.cells cs T fr)
theorem Cl.up {L : Nat} {w w' : World} {g i : Nat} {x : Value} (h : Cl L w g i x) (hu : Up L w w') : Cl L w' g i x := by
 obtain ⟨h1, h2, cs, T, fr, h3, h4⟩ := h
 have h5 := hu g cs T fr h1 h4 h3
 refine ⟨h1, ?_, cs, T, fr, h5, h4⟩
 rw [← h2]
 exact World.cell?_of_block (w := w) (h5.trans h3.symm)
theorem Up.of_keeps {L p q : Nat} {w w' : World} (h : Keeps p q w w') (hp : p < L) (hq : q < L) : Up L w w' := fun b cs T fr hb _ hx => by
 have hlt : b < w.heap.size := by
  rcases Nat.lt_or_ge b w.heap.size with h1 | h1
  ·exact h1
  ·rw [Array.getElem?_eq_none h1] at hx; cases hx
 rw [h.block b hlt (by omega) (by omega)]; exact hx
theorem Up.of_below {L : Nat} {w w' : World} (h : Below w.heap.size w w') : Up L w w' := fun b cs T fr hb _ hx => by
 have hlt : b < w.heap.size := by
  rcases Nat.lt_or_ge b w.heap.size with h1 | h1
  ·exact h1
  ·rw [Array.getElem?_eq_none h1] at hx; cases hx
 rw [h.block b hlt]; exact hx
theorem Up.of_grown {L : Nat} {w w' : World} {r : Option Nat} (h : w.grownBy w' r) (hr : ∀ g, r = some g → ∃ cs fr, w.heap[g]? = some (.cells cs 20 fr)) : Up L w w' := fun b cs T fr hb hT hx => by
 have hlt : b < w.heap.size := by
  rcases Nat.lt_or_ge b w.heap.size with h1 | h1
  ·exact h1
  ·rw [Array.getElem?_eq_none h1] at hx; cases hx
 rw [h.block b hlt (fun e => by
  obtain ⟨cs', fr', h2⟩ := hr b e.symm
  rw [hx] at h2
  injection h2 with h2
  injection h2 with _ h3
  exact hT h3)]
 exact hx
theorem Up.trans {L : Nat} {a b c : World} (h : Up L a b) (k : Up L b c) : Up L a c := fun b cs T fr hb hT hx => k b cs T fr hb hT (h b cs T fr hb hT hx)
def Cl2 (L : Nat) (w : World) (g i : Nat) (x : Value) : Prop := L ≤ g ∧ w.cell? ⟨g, i, none⟩ = some x ∧ ∃ cs T fr, w.heap[g]? = some (.cells cs T fr) ∧ T ≠ 20 ∧ T ≠ 67
def Up2 (L : Nat) (w w' : World) : Prop := ∀ b cs T fr, L ≤ b → T ≠ 20 → T ≠ 67 → w.heap[b]? = some (.cells cs T fr) → w'.heap[b]? = some (.cells cs T fr)
theorem Up.two {L : Nat} {w w' : World} (h : Up L w w') : Up2 L w w' := fun b cs T fr hb h1 _ hx => h b cs T fr hb h1 hx
theorem Cl2.up {L : Nat} {w w' : World} {g i : Nat} {x : Value} (h : Cl2 L w g i x) (hu : Up2 L w w') : Cl2 L w' g i x := by
 obtain ⟨h1, h2, cs, T, fr, h3, h4, h6⟩ := h
 have h5 := hu g cs T fr h1 h4 h6 h3
 refine ⟨h1, ?_, cs, T, fr, h5, h4, h6⟩
 rw [← h2]
 exact World.cell?_of_block (w := w) (h5.trans h3.symm)
theorem Cl2.of_blk {L : Nat} {w : World} {g i : Nat} {T : TypeId} {cs : Array Value} {x : Value} (h : Blk w g T cs) (hL : L ≤ g) (hi : cs[i]? = some x) (hT : T ≠ 20 ∧ T ≠ 67) : Cl2 L w g i x :=
 ⟨hL, (h.cell i).trans hi, cs, T, (0, 0), h, hT.1, hT.2⟩
theorem Up2.trans {L : Nat} {a b c : World} (h : Up2 L a b) (k : Up2 L b c) : Up2 L a c := fun b cs T fr hb hT h2 hx => k b cs T fr hb hT h2 (h b cs T fr hb hT h2 hx)
theorem Up2.of_grown {L : Nat} {w w' : World} {r : Option Nat} (h : w.grownBy w' r) (hr : ∀ g, r = some g → ∃ cs fr, w.heap[g]? = some (.cells cs 67 fr)) : Up2 L w w' := fun b cs T fr hb _ hT hx => by
 have hlt : b < w.heap.size := by
  rcases Nat.lt_or_ge b w.heap.size with h1 | h1
  ·exact h1
  ·rw [Array.getElem?_eq_none h1] at hx; cases hx
 rw [h.block b hlt (fun e => by
  obtain ⟨cs', fr', h2⟩ := hr b e.symm
  rw [hx] at h2
  injection h2 with h2
  injection h2 with _ h3
  exact hT h3)]
 exact hx
def ptr (g : Nat) : Value := .pointer (some ⟨g, 0, none⟩)
def GLoc (L : Nat) (w : World) (v : Value) : Prop := ∃ g, ∃ a b : Int, v = ptr g ∧ Cl2 L w g 0 (.int .i64 a) ∧ Cl2 L w g 1 (.int .i64 b)
def GName (L : Nat) (s : ByteArray) (w : World) (v : Value) : Prop := ∃ g, v = ptr g ∧ Cl2 L w g 2 (.string s)
def GRow (L : Nat) (P : NL → World → Value → Prop) (xs : List NL) (w : World) (v : Value) : Prop := ∃ A c, v = .slice A xs.length c ∧ (xs = [] ∨ ∃ b o, A = some ⟨b, o, none⟩ ∧ ∀ i y, xs[i]? = some y → ∃ x, Cl2 L w b (o + i) x ∧ P y w x)
def GVal (L : Nat) : Nat → NL → World → Value → Prop
 | 0, _, _, _ => False
 | n + 1, x, w, v => ∃ g lv, Cl2 L w g 1 lv ∧ GLoc L w lv ∧
   ((v = .iface 122 (ptr g) ∧ ∃ nv s, Cl2 L w g 2 nv ∧ GName L s w nv ∧ x = nd 11 s emp emp 0 []) ∨
    (v = .iface 125 (ptr g) ∧ ∃ s, Cl2 L w g 2 (.string s) ∧ x = nd 12 emp emp s 0 []) ∨
    (v = .iface 127 (ptr g) ∧ ∃ s, Cl2 L w g 2 (.string s) ∧ x = nd 13 emp emp s 0 []) ∨
    (v = .iface 129 (ptr g) ∧ ∃ s, Cl2 L w g 2 (.string s) ∧ x = nd 14 emp emp s 0 []) ∨
    (v = .iface 131 (ptr g) ∧ ∃ b : Bool, Cl2 L w g 2 (.bool b) ∧ x = nd 15 emp emp emp (if b then 1 else 0) []) ∨
    (v = .iface 134 (ptr g) ∧ ∃ s, Cl2 L w g 2 (.string s) ∧ x = nd 16 s emp emp 0 []) ∨
    (v = .iface 136 (ptr g) ∧ ∃ sv xs, Cl2 L w g 2 sv ∧ GRow L (GVal L n) xs w sv ∧ x = nd 17 emp emp emp 0 xs) ∨
    (v = .iface 140 (ptr g) ∧ ∃ sv xs, Cl2 L w g 2 sv ∧ GRow L (fun y w' u => ∃ f lf nv s z u', u = ptr f ∧ Cl2 L w' f 2 lf ∧ GLoc L w' lf ∧ Cl2 L w' f 1 nv ∧ GName L s w' nv ∧ Cl2 L w' f 3 u' ∧ GVal L n z w' u' ∧ y = nd 19 s emp emp 0 [z]) xs w sv ∧ x = nd 18 emp emp emp 0 xs))
def GFld (L n : Nat) (y : NL) (w : World) (u : Value) : Prop := ∃ f lf nv s z u', u = ptr f ∧ Cl2 L w f 2 lf ∧ GLoc L w lf ∧ Cl2 L w f 1 nv ∧ GName L s w nv ∧ Cl2 L w f 3 u' ∧ GVal L n z w u' ∧ y = nd 19 s emp emp 0 [z]
def GArg (L n : Nat) (y : NL) (w : World) (v : Value) : Prop := ∃ g lv nv s z x, v = ptr g ∧ Cl2 L w g 1 lv ∧ GLoc L w lv ∧ Cl2 L w g 2 nv ∧ GName L s w nv ∧ Cl2 L w g 3 x ∧ GVal L n z w x ∧ y = nd 9 s emp emp 0 [z]
def GDir (L n : Nat) (y : NL) (w : World) (v : Value) : Prop := ∃ g lv nv s xs x, v = ptr g ∧ Cl2 L w g 1 lv ∧ GLoc L w lv ∧ Cl2 L w g 2 nv ∧ GName L s w nv ∧ Cl2 L w g 3 x ∧ GRow L (GArg L n) xs w x ∧ y = nd 10 s emp emp 0 xs
def GRowD (L : Nat) (P : NL → World → Value → Prop) (xs : List NL) (w : World) (v : Value) : Prop := ∃ A c, v = .slice A xs.length c ∧ (xs = [] ∨ ∃ b o, A = some ⟨b, o, none⟩ ∧ ∀ i y, xs[i]? = some y → ∃ x, Cl L w b (o + i) x ∧ P y w x)
def Stable (L : Nat) (P : World → Value → Prop) : Prop := ∀ w w' v, Up L w w' → P w v → P w' v
def Stable2 (L : Nat) (P : World → Value → Prop) : Prop := ∀ w w' v, Up2 L w w' → P w v → P w' v
theorem Stable2.one {L : Nat} {P : World → Value → Prop} (h : Stable2 L P) : Stable L P := fun w w' v hu hp => h w w' v hu.two hp
section
variable {L n : Nat}
theorem s2_loc : Stable2 L (GLoc L) := fun w w' v hu ⟨g, a, b, h1, h3, h4⟩ => ⟨g, a, b, h1, h3.up hu, h4.up hu⟩
theorem s2_name {s : ByteArray} : Stable2 L (GName L s) := fun w w' v hu ⟨g, h1, h3⟩ => ⟨g, h1, h3.up hu⟩
theorem s2_row {P : NL → World → Value → Prop} (hP : ∀ y, Stable2 L (P y)) {xs : List NL} : Stable2 L (GRow L P xs) := fun w w' v hu ⟨A, c, h1, h2⟩ => ⟨A, c, h1, by
 rcases h2 with h2 | ⟨b, o, h3, h5⟩
 ·exact .inl h2
 ·exact .inr ⟨b, o, h3, fun i y hi => by
   obtain ⟨x, hx, hp⟩ := h5 i y hi
   exact ⟨x, hx.up hu, hP y _ _ _ hu hp⟩⟩⟩
theorem s2_val : ∀ n y, Stable2 L (GVal L n y)
 | 0, _ => fun w w' v hu h => h
 | n + 1, y => fun w w' v hu ⟨g, lv, h2, h3, h4⟩ => ⟨g, lv, h2.up hu, s2_loc _ _ _ hu h3, by
   rcases h4 with ⟨e, nv, s, a, b, e2⟩ | ⟨e, s, a, e2⟩ | ⟨e, s, a, e2⟩ | ⟨e, s, a, e2⟩ | ⟨e, b, a, e2⟩ | ⟨e, s, a, e2⟩ | ⟨e, sv, xs, a, b, e2⟩ | ⟨e, sv, xs, a, b, e2⟩
   ·exact .inl ⟨e, nv, s, a.up hu, s2_name _ _ _ hu b, e2⟩
   ·exact .inr (.inl ⟨e, s, a.up hu, e2⟩)
   ·exact .inr (.inr (.inl ⟨e, s, a.up hu, e2⟩))
   ·exact .inr (.inr (.inr (.inl ⟨e, s, a.up hu, e2⟩)))
   ·exact .inr (.inr (.inr (.inr (.inl ⟨e, b, a.up hu, e2⟩))))
   ·exact .inr (.inr (.inr (.inr (.inr (.inl ⟨e, s, a.up hu, e2⟩)))))
   ·exact .inr (.inr (.inr (.inr (.inr (.inr (.inl ⟨e, sv, xs, a.up hu, s2_row (s2_val n) _ _ _ hu b, e2⟩))))))
   ·exact .inr (.inr (.inr (.inr (.inr (.inr (.inr ⟨e, sv, xs, a.up hu, s2_row (fun y w w' v hu ⟨f, lf, nv, s, z, u', k1, k2, k3, k4, k5, k6, k7, k8⟩ => ⟨f, lf, nv, s, z, u', k1, k2.up hu, s2_loc _ _ _ hu k3, k4.up hu, s2_name _ _ _ hu k5, k6.up hu, s2_val n z _ _ _ hu k7, k8⟩) _ _ _ hu b, e2⟩))))))⟩
theorem s2_fld {y : NL} : Stable2 L (GFld L n y) := fun w w' v hu ⟨f, lf, nv, s, z, u', k1, k2, k3, k4, k5, k6, k7, k8⟩ => ⟨f, lf, nv, s, z, u', k1, k2.up hu, s2_loc _ _ _ hu k3, k4.up hu, s2_name _ _ _ hu k5, k6.up hu, s2_val n z _ _ _ hu k7, k8⟩
theorem s2_arg {y : NL} : Stable2 L (GArg L n y) := fun w w' v hu ⟨g, lv, nv, s, z, x, h1, h3, h4, h5, h6, h7, h8, h9⟩ =>
 ⟨g, lv, nv, s, z, x, h1, h3.up hu, s2_loc _ _ _ hu h4, h5.up hu, s2_name _ _ _ hu h6, h7.up hu, s2_val n z _ _ _ hu h8, h9⟩
theorem s2_dir {y : NL} : Stable2 L (GDir L n y) := fun w w' v hu ⟨g, lv, nv, s, xs, x, h1, h3, h4, h5, h6, h7, h8, h9⟩ =>
 ⟨g, lv, nv, s, xs, x, h1, h3.up hu, s2_loc _ _ _ hu h4, h5.up hu, s2_name _ _ _ hu h6, h7.up hu, s2_row (fun _ => s2_arg) _ _ _ hu h8, h9⟩
theorem st_loc : Stable L (GLoc L) := s2_loc.one
theorem st_name {s : ByteArray} : Stable L (GName L s) := s2_name.one
theorem st_val (n : Nat) (y : NL) : Stable L (GVal L n y) := (s2_val n y).one
theorem st_arg {y : NL} : Stable L (GArg L n y) := s2_arg.one
theorem st_row {P : NL → World → Value → Prop} (hP : ∀ y, Stable2 L (P y)) {xs : List NL} : Stable L (GRow L P xs) := (s2_row hP).one
theorem st_rowS {P : NL → World → Value → Prop} (hP : ∀ y, Stable L (P y)) {xs : List NL} : Stable L (GRowD L P xs) := fun w w' v hu ⟨A, c, h1, h2⟩ => ⟨A, c, h1, by
 rcases h2 with h2 | ⟨b, o, h3, h5⟩
 ·exact .inl h2
 ·exact .inr ⟨b, o, h3, fun i y hi => by
   obtain ⟨x, hx, hp⟩ := h5 i y hi
   exact ⟨x, hx.up hu, hP y _ _ _ hu hp⟩⟩⟩
end
end Go.Proofs.YtjoagdldbmlenaaGreatDoor.Ast
