/-
  zzRefModel, whole: it answers what the reader comes to.
-/
import Derived.Test.Qxb6000730aModelC
namespace Go.Proofs.Qxb6000730a
open Go.ChangeShapes Go.WideShapes Go.ChangeAt Go.RowKit
namespace Model
open Ref (hx nm cap r0 R)
open Num (lst)
open Run (names)

theorem all (s : ByteArray) (w : World) (hm : s.size ≤ 65536) (e : Int) (tk : Bool) (r : R) (hF : Run.run r0 0 (lst s) = (e, tk, r)) : Says s w e tk r := by
  by_cases h0 : s.size = 0
  · exact empty s w h0 e tk r hF
  have h : 0 < s.size := by omega
  by_cases h35 : (s[0].toNat : Int) = 35
  · by_cases h1 : s.size = 1
    · exact hash1 s w h1 h35 e tk r hF
    have h2 : 1 < s.size := by omega
    by_cases hd : 48 ≤ (s[1].toNat : Int) ∧ (s[1].toNat : Int) ≤ 57
    · exact dec s w hm h2 h35 hd.1 hd.2 e tk r hF
    have hb2 : ((s[0].toNat : Int) != 35) = false := by rw [h35]; rfl
    by_cases x1 : (s[1].toNat : Int) = 120
    · by_cases h3 : s.size = 2
      · exact x1_120 s w h2 h35 x1 hb2 (by rw [x1]; rfl) (by rw [x1]; rfl) hd (byte_le s 1 h2) h3 e tk r hF
      have h4 : 2 < s.size := by omega
      by_cases hx2 : 0 ≤ hx (s[2].toNat : Int)
      · exact hex120 s w hm h4 h35 x1 hx2 e tk r hF
      · exact x_bad_120 s w hm h4 h35 x1 (by omega) e tk r hF
    by_cases x2 : (s[1].toNat : Int) = 88
    · by_cases h3 : s.size = 2
      · exact x1_88 s w h2 h35 x2 hb2 (by rw [x2]; rfl) (by rw [x2]; rfl) hd (byte_le s 1 h2) h3 e tk r hF
      have h4 : 2 < s.size := by omega
      by_cases hx2 : 0 ≤ hx (s[2].toNat : Int)
      · exact hex88 s w hm h4 h35 x2 hx2 e tk r hF
      · exact x_bad_88 s w hm h4 h35 x2 (by omega) e tk r hF
    exact hash_bad s w hm h2 h35 hd x1 x2 e tk r hF
  · cases hn : nm (s[0].toNat : Int) with
    | true => exact name s w hm h h35 hn e tk r hF
    | false => exact none s w hm h h35 hn e tk r hF

end Model
end Go.Proofs.Qxb6000730a
