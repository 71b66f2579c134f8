/-
  THE CONTRACTS of 'zzHasQuote'; 'string(got[..])' as it reads.
-/
import Derived.Test.Qxb6603940aGot
import Derived.Laws.IdiomStrings
namespace Go.Proofs.Qxb6603940a
open Go.RowKit

/-- No byte of s is a double quote. -/
def noQ (s : ByteArray) : Prop := ∀ i, (h : i < s.size) → (((s[i].toNat : Int)) == 34) = false

theorem hasQuote_no (s : ByteArray) (w : World) (hs : s.size ≤ 1048576) (hq : noQ s) :
    Calls Try.prog 10 #[.string s] w fun e w' => e = .returned (.bool false) ∧ w' = w := by
  go_enter Try.func10, Try.ntmps10
  go_wp2
  go_loop [3] (fun i => ∃ k : Nat, k ≤ s.size ∧ i = .int .i64 k) (fun i => s.size - (intOf i).toNat)
  case atStart => exact ⟨0, Nat.zero_le _, rfl⟩
  case round =>
    obtain ⟨k, hk, rfl⟩ := hrel
    by_cases hlt : k < s.size
    · have hb := hq k hlt
      clear hq
      go_wp2
      go_round
      case rel => exact ⟨k + 1, by omega, by go_num⟩
      case measure => simp [intOf]; omega
    · clear hq
      go_wp2
      go_ret
      exact ⟨rfl, rfl⟩

theorem hasQuote_yes (s : ByteArray) (w : World) (hs : s.size ≤ 1048576) (hq : ¬ noQ s) :
    Calls Try.prog 10 #[.string s] w fun e w' => e = .returned (.bool true) ∧ w' = w := by
  have HQ : Hid (¬ noQ s) := hq
  clear hq
  go_enter Try.func10, Try.ntmps10
  go_wp2
  go_loop [3] (fun i => ∃ k : Nat, k ≤ s.size ∧ i = .int .i64 k ∧ ∀ j, (h : j < s.size) → j < k → (((s[j].toNat : Int)) == 34) = false) (fun i => s.size - (intOf i).toNat)
  case atStart => exact ⟨0, Nat.zero_le _, rfl, fun j _ h => absurd h (by omega)⟩
  case round =>
    obtain ⟨k, hk, rfl, hall⟩ := hrel
    have HA : Hid (∀ j, (h : j < s.size) → j < k → (((s[j].toNat : Int)) == 34) = false) := hall
    clear hall
    by_cases hlt : k < s.size
    · cases hb : (((s[k].toNat : Int)) == 34) with
      | true =>
        go_wp2
        go_ret
        exact ⟨rfl, rfl⟩
      | false =>
        go_wp2
        go_round
        case rel =>
          refine ⟨k + 1, by omega, by go_num, fun j h hj => ?_⟩
          by_cases e : j = k
          · subst e; exact hb
          · exact HA.out j h (by omega)
        case measure => simp [intOf]; omega
    · exact absurd (fun i h => HA.out i h (by omega)) HQ.out

/-- 'string(got[lo:hi])' where the cells from lo on are s's bytes. -/
theorem conv_back (w : World) (b off cap : Nat) (s : ByteArray) (hc : ∀ t, (ht : t < s.size) → w.cell? ⟨b, off + t, none⟩ = some (.int .u8 ((s[t]).toNat : Int))) :
    (convert 26 9 (.slice (some ⟨b, off, none⟩) s.size cap)).run Try.prog w = .ok (.string s) w := by
  have h := run_convert_bytes_back (P := Try.prog) w 26 9 5 ⟨b, off, none⟩ cap (ebytes s) Try.underlying26 Try.underlying5 Try.underlying9 (fun j hj => by
    rw [Addr.add_lit]
    exact hc j (by rw [ebytes_length] at hj; exact hj))
  rw [ebytes_length] at h
  exact h

end Go.Proofs.Qxb6603940a
