import Derived.Test.YtofafhboagfihaaDoorName
namespace Go.Proofs.YtofafhboagfihaaDoor.Rune
open Go.RowKit Go.Proofs.YtofafhboagfihaaDoor.Mem Go.Proofs.YtofafhboagfihaaDoor.Lex Go.Proofs.YtofafhboagfihaaDoorW.PrintWords

theorem bytes_body (W : World) (e : TypeId) (s : ByteArray) : BodyAt (Lib.bytesWorld W e s) W.heap.size s := fun j hj => by
  rw [Lib.bytesWorld_cell W e s j hj, ← bt_nat s j hj]
  have h' : j < s.data.toList.length := by rw [data_length]; exact hj
  rw [List.getD_eq_getElem?_getD, List.getElem?_eq_getElem h']
  rfl
theorem bytes_src (W : World) (s : ByteArray) (hT : Lib.Utf8Tabs 0 1 W) : Src (Lib.bytesWorld W 5 s) W.heap.size s :=
  ⟨bytes_body W _ s, utf8_below hT (bytes_below (Below.refl _ _) (Nat.le_refl _) _ s)⟩

theorem lex_facts (w : World) (s : ByteArray) (o : Obj) (hT : Lib.Utf8Tabs 0 1 w) :
    Src (Lib.bytesWorld (w.alloc o) 5 s) (w.heap.size + 1) s ∧ Below (w.heap.size + 1) (w.alloc o) (Lib.bytesWorld (w.alloc o) 5 s) ∧ (Lib.bytesWorld (w.alloc o) 5 s).heap.size = w.heap.size + 2 := by
  have h1 := bytes_src (w.alloc o) s (utf8_below hT (below_alloc (Below.refl _ _) _))
  have h2 : Below (w.alloc o).heap.size (w.alloc o) (Lib.bytesWorld (w.alloc o) 5 s) := bytes_below (Below.refl _ _) (Nat.le_refl _) _ s
  have h3 := Lib.bytesWorld_size (w.alloc o) 5 s
  rw [World.size_alloc] at h1 h2 h3
  exact ⟨h1, h2, h3⟩

set_option maxRecDepth 100000 in
set_option maxHeartbeats 1000000 in
theorem lexReadName (q : Nat) (s : ByteArray) (w : World) (hT : Lib.Utf8Tabs 0 1 w) (hs : s.size ≤ 140737488351232) (hpq : 0 < q) (hq : q ≤ s.size)
    (hin : ∀ i : Nat, 0 < i → i < q → inNameB (bt s i) = true) (hout : q < s.size → inNameB (bt s q) = false) :
    Calls Tryd.prog 14 #[.string s] w fun e w' =>
      e = .returned (.agg #[.int .i64 15, .int .i64 0, .int .i64 q, .string (s.extract 0 q)]) ∧ Below w.heap.size w w' := by
  have kb := fun W => print_bytes (P := Tryd.prog) 9 50 5 Tryd.underlying9 Tryd.underlying50 Tryd.underlying5 s W
  go_enter Tryd.func14, Tryd.ntmps14
  go_wp2_with fail
  obtain ⟨hS, hB, hsz⟩ := lex_facts w s (.cells #[.int .i64 0, .int .i64 0, .int .i64 0, .string ⟨#[]⟩] 37) hT
  have hcap := grownCap_ge (w.alloc (.cells #[.int .i64 0, .int .i64 0, .int .i64 0, .string ⟨#[]⟩] 37)) s.size 0 5
  generalize grownCap (w.alloc (.cells #[.int .i64 0, .int .i64 0, .int .i64 0, .string ⟨#[]⟩] 37)) s.size 0 5 = cap at *
  generalize Lib.bytesWorld (w.alloc (.cells #[.int .i64 0, .int .i64 0, .int .i64 0, .string ⟨#[]⟩] 37)) 5 s = W2 at *
  have hS3 : Src (W2.alloc (.cells #[.slice (some ⟨w.heap.size + 1, 0, none⟩) s.size cap, .string ⟨#[]⟩] 52)) (w.heap.size + 1) s := hS.alloc _
  refine (readName_any W2.heap.size (w.heap.size + 1) 0 q cap 0 s _ hS3 (by simp [World.cell?_alloc_at]) hs hcap hpq hq (by omega) hin hout).mono ?_
  rintro e w1 ⟨rfl, hb⟩
  have hb3 : Below (w.heap.size + 1) _ w1 := (hB.alloc (by omega) _).trans (hb.mono (by simp; omega))
  obtain ⟨r0, r1, r2, r3⟩ := four_kept2 hb3
  have hz0 := frozen_kept2 hb3 0
  have hz1 := frozen_kept2 hb3 1
  have hz2 := frozen_kept2 hb3 2
  have hz3 := frozen_kept2 hb3 3
  have HB := Aside0.mk (below_one (by simpa using hb3))
  clear hS hB hb hb3 hS3 kb hT
  rw [show (0 : Int) + ((q - 0 : Nat) : Int) = (q : Int) by omega]
  go_wp2
  refine bodyPost_ret (v := .agg #[.int .i64 15, .int .i64 0, .int .i64 q, .string (s.extract 0 q)]) (by simp [results, Tryd.results14, go_sem, r0, r1, r2, r3]) rfl ⟨rfl, ?_⟩
  exact below_four HB.out

set_option maxHeartbeats 1000000 in
theorem token_any (k a b : Int) (v : ByteArray) (w : World) :
    Calls Tryd.prog 13 #[.agg #[.int .i64 k, .int .i64 a, .int .i64 b, .string v]] w fun e w' => e = .returned (.agg #[.int .i64 k, .string v, .int .i64 a, .int .i64 b]) ∧ Below w.heap.size w w' := by
  go_enter Tryd.func13, Tryd.ntmps13
  go_wp2
  refine bodyPost_ret (v := .agg #[.int .i64 k, .string v, .int .i64 a, .int .i64 b]) (by simp [results, Tryd.results13, go_sem]) rfl ⟨rfl, ?_⟩
  exact below_alloc (below_alloc (Below.refl _ _) _) _

theorem nameLike (c : Int) (h : isBeginB c = true) : c = 95 ∨ (65 ≤ c ∧ c ≤ 90) ∨ (97 ≤ c ∧ c ≤ 122) := by
  have := of_decide_eq_true h; omega

set_option maxRecDepth 100000 in
set_option maxHeartbeats 2000000 in
theorem implReadName (q : Nat) (s : ByteArray) (w : World) (hT : Lib.Utf8Tabs 0 1 w) (hs : s.size ≤ 140737488351232) (hpq : 0 < q) (hq : q ≤ s.size) (hb0 : isBeginB (bt s 0) = true)
    (hin : ∀ i : Nat, 0 < i → i < q → inNameB (bt s i) = true) (hout : q < s.size → inNameB (bt s q) = false) :
    Calls Tryd.prog 6 #[.string s] w fun e w' =>
      e = .returned (.tuple #[.agg #[.int .i64 15, .string (s.extract 0 q), .int .i64 0, .int .i64 q], .bool true]) ∧ Below w.heap.size w w' := by
  have HC := Aside0.mk (fun W (hb : Below w.heap.size w W) => lexReadName q s W (utf8_below hT hb) hs hpq hq hin hout)
  have h0 : 0 < s.size := by omega
  have hne := nonempty_list h0
  have hne2 : (s.toList != ([] : List UInt8)) = true := by simp [bne, hne]
  have hbt : ∀ h : 0 < s.size, ((s[0]'h).toNat : Int) = bt s 0 := fun h => bt_nat s 0 h
  have hcs := nameLike _ hb0
  clear hin hout hT hb0
  generalize bt s 0 = c at *
  have h0i : (0 : Int) < (s.size : Int) := by omega
  rcases hcs with rfl | ⟨c1, c2⟩ | ⟨c1, c2⟩
  all_goals
    go_enter Tryd.func6, Tryd.ntmps6
    go_wp2_with (first | (go_at_call 14; refine (HC.out _ (by exact below_alloc (Below.refl _ _) _)).mono ?_; rintro e w1 ⟨rfl, hb⟩) | (go_at_call 13; refine (token_any _ _ _ _ _).mono ?_; rintro e w2 ⟨rfl, hb2⟩; have hb3 := (show Below (w.heap.size + 1) _ w1 by simpa using hb).trans (hb2.mono (by have := hb.size; simp at this; omega)); obtain ⟨r0, r1, r2, r3⟩ := four_kept2 hb3; have hz0 := frozen_kept2 hb3 0; have hz1 := frozen_kept2 hb3 1; have hz2 := frozen_kept2 hb3 2; have hz3 := frozen_kept2 hb3 3))
    refine bodyPost_ret (v := .tuple #[.agg #[.int .i64 15, .string (s.extract 0 q), .int .i64 0, .int .i64 q], .bool true]) (by simp [results, Tryd.results6, go_sem, r0, r1, r2, r3]) rfl ⟨rfl, ?_⟩
    exact below_four (below_one (by simpa using hb3))
end Go.Proofs.YtofafhboagfihaaDoor.Rune
