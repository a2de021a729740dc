/-
  The bound on what attributes hold: laws.zzFits5 answers; where it says yes they are few.
-/
import Derived.Test.YtmenkckgpiafiaaGreatPF1
import Derived.Test.YtmenkckgpiafiaaGreatTA
namespace Go.Proofs.YtmenkckgpiafiaaGreat
open Go.RowKit Go.Great Go.Proofs.YtmenkckgpiafiaaGreatW.PrintWords Go.Proofs.YtmenkckgpiafiaaGreatW.PrintLast Go.Proofs.YtmenkckgpiafiaaGreatW.PrintMore Go.Proofs.YtmenkckgpiafiaaGreat.KK

theorem fits7_f (a b : ByteArray) : ∃ r, PF.laws_zzFits7.f a b = some r := by
  unfold PF.laws_zzFits7.f
  (repeat' split) <;> exact ⟨_, rfl⟩
theorem fits6_l0 (l : List S89) (hl : l.length ≤ 2147483647) : ∀ (m : Nat) (k : Nat) (i : Nat), i + m = l.length → m < k → ∃ r, PF.laws_zzFits6.l0 k l (l.length : Int) (i : Int) = some r := by
  intro m
  induction m with
  | zero =>
    intro k i hi hk
    obtain ⟨k, rfl⟩ : ∃ j, k = j + 1 := ⟨k - 1, by omega⟩
    simp only [PF.laws_zzFits6.l0]
    rw [if_neg (by omega)]
    exact ⟨_, rfl⟩
  | succ m ih =>
    intro k i hi hk
    obtain ⟨k, rfl⟩ : ∃ j, k = j + 1 := ⟨k - 1, by omega⟩
    simp only [PF.laws_zzFits6.l0]
    rw [if_pos (by omega), if_pos (by omega), if_pos (by omega), wrap_succ (by omega) (show (i : Int) < (l.length : Int) by omega) (by omega)]
    obtain ⟨r, hr⟩ := fits7_f (rd_T89 l (i : Int)).f0 (rd_T89 l (i : Int)).f1
    rw [hr]
    simp only [Option.bind_some]
    split
    · rw [show ((i : Int) + 1) = ((i + 1 : Nat) : Int) from by omega]
      exact ih k (i + 1) (by omega) (by omega)
    · exact ⟨_, rfl⟩
theorem fits5_f (a b c d e f g : Int) (l : List S89) : ∃ k r, PF.laws_zzFits5.f k a b c d e f g l = some r ∧ (r = true → l.length ≤ 2147483647) := by
  by_cases hl : l.length ≤ 2147483647
  · obtain ⟨r, hr⟩ := fits6_l0 l hl l.length (l.length + 1) 0 (by omega) (by omega)
    refine ⟨l.length + 1, r, ?_, fun _ => hl⟩
    have h6 : PF.laws_zzFits6.f (l.length + 1) l = some r := by
      unfold PF.laws_zzFits6.f
      rw [if_neg (by omega)]
      exact hr
    unfold PF.laws_zzFits5.f
    rw [h6]
    cases r <;> rfl
  · refine ⟨1, false, ?_, fun h => by cases h⟩
    have h6 : PF.laws_zzFits6.f 1 l = some false := by
      unfold PF.laws_zzFits6.f
      rw [if_pos (by omega)]
    unfold PF.laws_zzFits5.f
    rw [h6]
    rfl
theorem fits5C (a b c d e f g : Int) (A : Option Addr) (cap : Nat) (l : List S89) (w : World) (hr : Kd.C k89 w A l.length l) (hc : l.length ≤ cap) :
    ∃ r, (r = true → l.length ≤ 2147483647) ∧ Calls Tryz.prog 26 #[.agg (at8 a b c d e f g (.slice A l.length cap))] w fun e w' => e = .returned (.bool r) ∧ Below w.heap.size w w' := by
  obtain ⟨k, r, h, hr2⟩ := fits5_f a b c d e f g l
  exact ⟨r, hr2, PF.laws_zzFits5.calls k a b c d e f g A cap l r w hr hc h⟩
end Go.Proofs.YtmenkckgpiafiaaGreat
