/- What this claim proves: laws.FnWrap answers true, whatever the three texts are: a text that is not empty stands between two others, and of an empty one nothing is written. No condition. -/
import Derived.Test.YtofafhboagfihaaPFnWrapx1
namespace Go.Proofs.Ytofafhboagfihaa.Pure
open Go.RowKit Go.Proofs.Ytofafhboagfihaa.PFnWrap Go.Proofs.YtofafhboagfihaaW.PrintWords Go.Proofs.YtofafhboagfihaaW.PrintLast

theorem pieces_three (a0 a1 a2 : ByteArray) (h0 : (a0.size : Int) ≤ 2147483647) (h1 : (a1.size : Int) ≤ 2147483647) (h2 : (a2.size : Int) ≤ 2147483647) (k : Nat) :
    laws_pieces9.f (k + 4) [a0, a1, a2] = some (decide ((a0.size : Int) + a1.size + a2.size ≤ 2000)) := by
  have e1 : wrap64 (a0.size : Int) = a0.size := by unfold wrap64; omega
  have e2 : wrap64 ((a0.size : Int) + (a1.size : Int)) = (a0.size : Int) + a1.size := by unfold wrap64; omega
  have e3 : wrap64 ((a0.size : Int) + a1.size + (a2.size : Int)) = (a0.size : Int) + a1.size + a2.size := by unfold wrap64; omega
  have w1 : wrap64 1 = 1 := by unfold wrap64; omega
  have w2 : wrap64 2 = 2 := by unfold wrap64; omega
  have w3 : wrap64 3 = 3 := by unfold wrap64; omega
  unfold laws_pieces9.f
  simp [laws_pieces9.l0, rdOf, e1, e2, e3, w1, w2, w3]

theorem wrap_is (s a e : ByteArray) (h0 : (s.size : Int) ≤ 2147483647) (h1 : (a.size : Int) ≤ 2147483647) (h2 : (e.size : Int) ≤ 2147483647) :
    impl_Wrap.f s a e = some (if a.toList = ([] : List UInt8) then a else (s ++ a) ++ e) := by
  unfold impl_Wrap.f printer_Wrap.f printer_wrap.f
  by_cases h : a.toList = ([] : List UInt8)
  · simp [h]
  · have hs : (s ++ a).size = s.size + a.size := ByteArray.size_append
    rw [if_neg h, if_pos (by omega), if_pos (by omega), if_neg h]
    rfl

theorem example_is : impl_Wrap.f (⟨#[40]⟩ : ByteArray) (⟨#[97]⟩ : ByteArray) (⟨#[41]⟩ : ByteArray) = some ⟨#[40, 97, 41]⟩ := by
  rw [wrap_is _ _ _ (by decide) (by decide) (by decide)]
  decide +kernel

theorem FnWrap : laws_FnWrap.Pure := by
  intro a0 a1 a2 _ _ _
  have ex := example_is
  have exl : ((⟨#[40, 97, 41]⟩ : ByteArray).toList == ([40, 97, 41] : List UInt8)) = true := by decide +kernel
  refine ⟨5, ?_⟩
  unfold laws_FnWrap.f
  by_cases h0 : (a0.size : Int) > 2147483647
  · rw [if_pos h0]; simp [laws_FnWrap.j0]
  rw [if_neg h0]
  by_cases h1 : (a1.size : Int) > 2147483647
  · rw [if_pos h1]; simp [laws_FnWrap.j0]
  rw [if_neg h1]
  by_cases h2 : (a2.size : Int) > 2147483647
  · simp [laws_FnWrap.j0, h2]
  have hw := wrap_is a0 a1 a2 (by omega) (by omega) (by omega)
  have hp := pieces_three a0 a1 a2 (by omega) (by omega) (by omega) 0
  simp only [laws_FnWrap.j0]
  rw [decide_eq_false h2, if_neg (by simp), hp, Option.bind_some]
  by_cases hs : (a0.size : Int) + a1.size + a2.size ≤ 2000
  · rw [if_pos (decide_eq_true hs), hw, ex]
    have hsz : (a0 ++ a1).size = a0.size + a1.size := ByteArray.size_append
    by_cases he : a1.toList = ([] : List UInt8)
    · rw [if_pos he, if_pos he, Option.bind_some, if_pos he, Option.bind_some, exl]
    · rw [if_neg he, if_neg he, if_pos (by omega), if_pos (by omega), Option.bind_some, if_pos rfl, Option.bind_some, exl]
  · rw [if_neg (by simpa using hs)]

end Go.Proofs.Ytofafhboagfihaa.Pure
