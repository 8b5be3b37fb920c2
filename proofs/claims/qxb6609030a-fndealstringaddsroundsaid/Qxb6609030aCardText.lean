/-
  Card.String (22) and zzText (17), by contracts.
-/
import Derived.Test.Qxb6609030aRowsAt
import Derived.Test.Qxb6609030aCardWalks
import Derived.Deep.LoopGhost
import Derived.Deep.Light
import Derived.Deep.QuietTactic
import Derived.BigQuiet
import Derived.WalkSpells
import Derived.WalkLawsBesides
import Derived.Lib.AppendStr
import Derived.Test.Qxb6609030aBuilder
import Derived.Lib.SlBytesRow
namespace Go.Proofs.Qxb6609030a.CardText
open Go.RowKit Go.Proofs.Qxb6609030a.Text
set_option linter.unusedVariables false

theorem rank_slice (c : Int) (h0 : 0 ≤ c) (h1 : c < 52) : ∃ r : Nat, c / 4 = (r : Int) ∧ r < 13 ∧ (⟨#[50, 51, 52, 53, 54, 55, 56, 57, 84, 74, 81, 75, 65]⟩ : ByteArray).extract r (r + 1) = ⟨#[rankB c]⟩ := by
  obtain ⟨r, hr⟩ := Int.eq_ofNat_of_zero_le (show 0 ≤ c / 4 by omega)
  refine ⟨r, hr, by omega, ?_⟩
  unfold rankB
  rw [hr, Int.toNat_natCast]
  have : r < 13 := by omega
  match r, this with
  | 0, _ | 1, _ | 2, _ | 3, _ | 4, _ | 5, _ | 6, _ | 7, _ | 8, _ | 9, _ | 10, _ | 11, _ | 12, _ => decide

theorem suit_slice (c : Int) (h0 : 0 ≤ c) (h1 : c < 52) : ∃ r : Nat, c % 4 = (r : Int) ∧ r < 4 ∧ (⟨#[99, 100, 104, 115]⟩ : ByteArray).extract r (r + 1) = ⟨#[suitB c]⟩ := by
  obtain ⟨r, hr⟩ := Int.eq_ofNat_of_zero_le (show 0 ≤ c % 4 by omega)
  refine ⟨r, hr, by omega, ?_⟩
  unfold suitB
  rw [hr, Int.toNat_natCast]
  have : r < 4 := by omega
  match r, this with
  | 0, _ | 1, _ | 2, _ | 3, _ => decide

theorem ret_str {a b : ByteArray} (h : a = b) : Ending.returned (.string a) = .returned (.string b) := by rw [h]
theorem info5 : (Try.prog.info? 5).map (fun i => (i.zero, i.size, i.bytes)) = some (some (.int .u8 0), 1, 1) := by kernel_rfl

set_option maxHeartbeats 1000000 in
theorem cardString_any (c : Int) (w : World) (h0 : 0 ≤ c) (h1 : c < 52) :
    Calls Try.prog 22 #[.int .u8 c] w fun e w' => e = .returned (.string ⟨#[rankB c, suitB c]⟩) ∧ ∃ n, w' = w.drewN n := by
  obtain ⟨r, hr, hr13, er⟩ := rank_slice c h0 h1
  obtain ⟨s, hs, hs4, es⟩ := suit_slice c h0 h1
  have k8 := fun w => CardWalks.rank_any c w h0 (by omega)
  have k9 := fun w => CardWalks.suit_any c w h0 (by omega)
  rw [hr] at k8
  rw [hs] at k9
  have HE : Hid ((⟨#[50, 51, 52, 53, 54, 55, 56, 57, 84, 74, 81, 75, 65]⟩ : ByteArray).extract r (r + 1) = ⟨#[rankB c]⟩ ∧ (⟨#[99, 100, 104, 115]⟩ : ByteArray).extract s (s + 1) = ⟨#[suitB c]⟩) := ⟨er, es⟩
  clear er es hr hs
  go_enter Try.func22, Try.ntmps22
  go_wp2
  go_quiet ((first | (go_at_call 8; exact Calls.quiet_of_same (k8 _)) | (go_at_call 9; exact Calls.quiet_of_same (k9 _))))
  go_wp2
  go_ret
  exact ⟨ret_str (by rw [HE.out.1, HE.out.2]; rfl), _, rfl⟩

/-- 'string(buf)', buf the call's own and not nil. -/
theorem conv_own {w : World} {B : Nat} {v : Value} {l : List UInt8} (hown : w.ownsRow B 5 1 v l.length (Lib.byteCells l)) (hv : v ≠ .slice none 0 0) :
    ∃ g cap, v = .slice (some ⟨g, 0, none⟩) l.length cap ∧ (convert 28 9 (.slice (some ⟨g, 0, none⟩) l.length cap)).run Try.prog w = .ok (.string ⟨l.toArray⟩) w := by
  obtain ⟨g, cap, rfl⟩ : ∃ g cap, v = .slice (some ⟨g, 0, none⟩) l.length cap := by
    rcases hown.2 with ⟨h, _⟩ | ⟨g, cap, cur, h, _⟩
    · exact absurd h hv
    · exact ⟨g, cap, h⟩
  refine ⟨g, cap, rfl, ?_⟩
  have h := Lib.run_convert_whole (P := Try.prog) w 28 5 9 Try.underlying28 Try.underlying5 Try.underlying9 g 0 ⟨l.toArray⟩ (fun i hi => ?_) cap
  · exact h
  · have hi' : i < l.length := hi
    have hx : l[i]? = some l[i] := List.getElem?_eq_getElem hi'
    have := hown.cells (g := g) rfl i (.int .u8 l[i].toNat) (by simp [Lib.byteCells, hx])
    have e : (Addr.mk g 0 none).add i = ⟨g, 0 + i, none⟩ := by
      by_cases h0 : i = 0
      · subst h0; simp [Addr.add]
      · simp [Addr.add, h0]
    rw [e] at this
    exact this

set_option maxHeartbeats 2000000 in
theorem text_any (a : Option Addr) (zs : List Int) (cap : Nat) (w : World) (hl : zs.length ≤ 1048576) (hp : Pack zs) (hR : RowAt w a zs) :
    Calls Try.prog 17 #[.slice a zs.length cap] w fun e w' => e = .returned (.string ⟨(text zs).toArray⟩) ∧ Below w.heap.size w w' := by
  obtain ⟨i0, hi, hz0, hz1, hz2⟩ := info_parts info5
  obtain ⟨b, o, ha, hc⟩ := hR
  have HC : Hid (∀ i, i < zs.length → w.cell? ⟨b, o + i, none⟩ = some (.int .u8 (zs.getD i 0))) := hc
  have HP : Hid (Pack zs) := hp
  clear hc hp
  go_enter Try.func17, Try.ntmps17
  go_wp2_with (refine wpList_make_own _ rfl (.const (.int .i64 0)) (.tmp 7) 28 rfl w.heap.size 5 i0 (.int .u8 0) 1 Try.underlying28 hi hz0 hz1 .i64 .i64 _ (2 * zs.length) rfl rfl (by omega) (by rw [hz2]; omega) (by unfold maxLen; omega) (Nat.le_refl _) ?_; intro w1 hown1 hgrow1)
  have hB1 : Below w.heap.size w w1 := (Below.refl _ _).grown hgrow1 (Nat.le_refl _) (fun k hk => by cases hk)
  go_loopg [3, 4] zs.length (fun g v i wr => ∃ k : Nat, k ≤ zs.length ∧ g = zs.length - k ∧ i = .int .i64 k ∧ wr.ownsRow w.heap.size 5 1 v (2 * k) (Lib.byteCells (text (zs.take k))) ∧ v ≠ .slice none 0 0 ∧ Below w.heap.size w wr)
  case atStart => exact ⟨0, Nat.zero_le _, rfl, rfl, by simpa [text, Lib.byteCells] using hown1, (fun h => by cases h), hB1⟩
  case round =>
    clear hown1 hgrow1 hB1
    obtain ⟨k, hk, rfl, rfl, hown, hne, hB⟩ := hrel
    by_cases hlt : k < zs.length
    · obtain rfl := ha (by omega)
      have hlz : (k : Int) < (zs.length : Int) := by omega
      obtain ⟨c, hce⟩ : ∃ c, c = zs.getD k 0 := ⟨_, rfl⟩
      have HV : Hid (c = zs.getD k 0) := hce
      have t1 : wr.cell? ⟨b, o + k, none⟩ = some (.int .u8 c) := by rw [hce]; exact (hB.cell (block_lt_of_cell (HC.out k hlt))).trans (HC.out k hlt)
      have p1 := HP.out k hlt
      rw [← hce] at p1
      clear hce
      obtain ⟨p0, p2⟩ := p1
      go_wp2_with (first | (go_at_call 22; refine (cardString_any c _ p0 p2).mono ?_; rintro e w2 ⟨rfl, n, rfl⟩) | (at_builtin; refine Lib.wpList_append_own_string _ rfl (.tmp 15) (.tmp 20) 28 9 rfl w.heap.size 5 i0 Try.underlying28 Try.underlying9 hi hz0 hz1 hz2 _ _ _ rfl hown ⟨#[rankB c, suitB c]⟩ rfl (by unfold maxLen; show 2 * k + 2 ≤ _; omega) (by show 2 * k + 2 ≤ _; omega) (by have := hB.size; simpa using this) ?_; intro v' w2 hown2 hgrow2 hiff2))
      go_roundg (zs.length - (k + 1))
      case measure => go_light; omega
      case rel =>
        go_light
        refine ⟨k + 1, by omega, rfl, by simp, ?_, fun h => hne (hiff2.1 h).1, (below_drewN hB n).grown hgrow2 (by have := hB.size; simpa using this) (fun g hg => (hown.lt g hg).1)⟩
        have e1 : Lib.byteCells (text (zs.take (k + 1))) = Lib.byteCells (text (zs.take k)) ++ Lib.strCells ⟨#[rankB c, suitB c]⟩ := by
          rw [take_snoc zs k hlt, text_snoc, ← HV.out, List.append_assoc, Lib.byteCells_append]; rfl
        rw [e1, show 2 * (k + 1) = 2 * k + (ByteArray.mk #[rankB c, suitB c]).size from rfl]
        exact hown2
    · obtain rfl : zs.length = k := by omega
      clear hlt
      have hown' : wr.ownsRow w.heap.size 5 1 u3 (text zs).length (Lib.byteCells (text zs)) := by
        rw [text_length]; simpa using hown
      obtain ⟨g, cp, hv, hcv⟩ := conv_own hown' hne
      subst hv
      clear hown hown' hne
      go_wp2
      go_ret
      exact ⟨rfl, hB⟩

end Go.Proofs.Qxb6609030a.CardText
