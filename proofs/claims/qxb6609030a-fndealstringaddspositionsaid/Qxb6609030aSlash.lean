/-
  zzFirstSlash (20), by its contract.
-/
import Derived.Test.Qxb6609030aText
import Derived.Test.Qxb6609030aRows
import Derived.WalkKit
import Derived.ProofKit
import Derived.Deep.LoopGhost
import Derived.Deep.Light
namespace Go.Proofs.Qxb6609030a.Slash
open Go.RowKit Go.Proofs.Qxb6609030a.Text
set_option linter.unusedVariables false

theorem slash_is (l : List UInt8) (k : Nat) (hk : k ≤ l.length) (h1 : ∀ j (h : j < k), l[j]'(by omega) ≠ 47) (h2 : ∀ h : k < l.length, l[k] = 47) : slash l = k := by
  have e : l = l.take k ++ l.drop k := (List.take_append_drop k l).symm
  unfold slash
  rw [e, takeWhile_all (l := l.take k) (r := l.drop k)]
  · by_cases hlt : k < l.length
    · rw [List.drop_eq_getElem_cons hlt, h2 hlt]
      simp
      omega
    · rw [List.drop_eq_nil_of_le (by omega)]
      simp
      omega
  · intro b hb
    obtain ⟨j, hj, rfl⟩ := List.mem_iff_getElem.1 hb
    have hj' : j < k := by simp at hj; omega
    rw [List.getElem_take]
    exact h1 j hj'

theorem slash_le (l : List UInt8) : slash l ≤ l.length := by
  unfold slash
  exact (List.takeWhile_sublist _).length_le

theorem ret_int {k : IntKind} {a b : Int} (h : a = b) : Ending.returned (.int k a) = .returned (.int k b) := by rw [h]

set_option maxHeartbeats 1000000 in
theorem firstSlash_any (s : ByteArray) (w : World) (hs : s.size ≤ 1000000000) :
    Calls Try.prog 20 #[.string s] w fun e w' => e = .returned (.int .i64 (slash s.data.toList)) ∧ w = w' := by
  go_enter Try.func20, Try.ntmps20
  go_wp2
  go_loopg [3] s.size (fun g i wr => w = wr ∧ ∃ k : Nat, k ≤ s.size ∧ g = s.size - k ∧ i = .int .i64 k ∧ ∀ j (h : j < k) (h' : j < s.data.toList.length), s.data.toList[j] ≠ 47)
  case atStart => exact ⟨rfl, 0, Nat.zero_le _, rfl, rfl, fun j h => absurd h (by omega)⟩
  case round =>
    obtain ⟨rfl, k, hk, rfl, rfl, hno⟩ := hrel
    have HN : Hid (∀ j (h : j < k) (h' : j < s.data.toList.length), s.data.toList[j] ≠ 47) := hno
    clear hno
    have hsz : s.data.toList.length = s.size := by simp
    by_cases hlt : k < s.size
    · have hlz : (k : Int) < (s.size : Int) := by omega
      have hd : decide ((k : Int) < (s.size : Int)) = true := by simp; omega
      by_cases h47 : ((s[k].toNat : Int) != 47) = true
      · go_wp2
        go_roundg (s.size - (k + 1))
        case measure => go_light; omega
        case rel =>
          go_light
          refine ⟨rfl, k + 1, by omega, rfl, by simp, fun j hj hj' => ?_⟩
          by_cases e : j = k
          · subst e
            intro h
            have : s[j] = 47 := h
            rw [this] at h47
            simp at h47
          · exact HN.out j (by omega) hj'
      · have h47' : ((s[k].toNat : Int) != 47) = false := by simpa using h47
        go_wp2
        go_ret
        refine ⟨ret_int ?_, rfl⟩
        rw [slash_is s.data.toList k (by omega) (fun j h => HN.out j h (by omega)) (fun h => ?_)]
        have h1 : (s[k].toNat : Int) = 47 := by simpa using h47'
        have h2 : s[k].toNat = 47 := by omega
        show s[k] = 47
        exact UInt8.toNat_inj.1 h2
    · have hd : decide ((k : Int) < (s.size : Int)) = false := by simp; omega
      go_wp2
      go_ret
      refine ⟨ret_int ?_, rfl⟩
      rw [slash_is s.data.toList k (by omega) (fun j h => HN.out j h (by omega)) (fun h => absurd h (by omega))]

end Go.Proofs.Qxb6609030a.Slash
