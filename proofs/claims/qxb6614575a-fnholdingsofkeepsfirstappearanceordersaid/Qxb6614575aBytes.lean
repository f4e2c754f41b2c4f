/- Holdings: zzBytes (4): it answers one or the other, and turns nothing. -/
import Derived.Test.Qxb6614575aBase
namespace Go.Proofs.Qxb6614575a
open Go.ChangeShapes Go.WideShapes Go.ChangeAt Go.RowKit Go.Maps

/-- A row of HoldingKeys that can be read: 'len' keys from '⟨b, off⟩' on. -/
def KeysAt (w : World) (b off len : Nat) (ks : List HK) : Prop :=
  ks.length = len ∧ ∀ (i : Nat) (k : HK), ks[i]? = some k → w.cell? ⟨b, off + i * 4, none⟩ = some (.string k.a) ∧ w.cell? ⟨b, off + i * 4 + 1, none⟩ = some (.string k.f) ∧ w.cell? ⟨b, off + i * 4 + 2, none⟩ = some (.string k.c) ∧ w.cell? ⟨b, off + i * 4 + 3, none⟩ = some (.int .i8 k.r) ∧ k.ok

/-- It answers one or the other; the world stands. -/
def OneOf (w : World) (e : Ending) (w' : World) : Prop := ∃ b, e = .returned (.bool b) ∧ w = w'

theorem bytes_empty (x : Option Addr) (cap : Nat) (w : World) : Calls Try.prog 4 #[.slice x 0 cap] w (OneOf w) := by
  go_enter Try.func4, Try.ntmps4
  go_wp2
  refine wp_loop_rounds 1 ?_
  rw [rounds_succ]
  go_wp2
  go_ret
  exact ⟨_, rfl, rfl⟩

set_option maxHeartbeats 1000000 in
theorem bytes_any (b off len cap : Nat) (ks : List HK) (w : World) (hk : KeysAt w b off len ks) (hm : len ≤ maxLen) : Calls Try.prog 4 #[.slice (some ⟨b, off, none⟩) len cap] w (OneOf w) := by
  unfold maxLen at hm
  by_cases hbig : 1048576 < len
  · go_enter Try.func4, Try.ntmps4
    go_wp2
    go_ret
    exact ⟨_, rfl, rfl⟩
  · have HK' : Hid (KeysAt w b off len ks) := hk
    clear hk
    go_enter Try.func4, Try.ntmps4
    go_wp2
    go_loop [3, 4] (fun t i => ∃ (k : Nat) (s : Int), k ≤ len ∧ i = .int .i64 k ∧ t = .int .i64 s) (fun _ i => len - (intOf i).toNat)
    case atStart => exact ⟨0, _, Nat.zero_le _, rfl, rfl⟩
    case round =>
      obtain ⟨k, s, hkl, rfl, rfl⟩ := hrel
      by_cases hlt : k < len
      · obtain ⟨key, hkey⟩ : ∃ key, ks[k]? = some key := ⟨_, List.getElem?_eq_getElem (by rw [HK'.out.1]; exact hlt)⟩
        obtain ⟨c0, c1, c2, _, ok1, ok2, ok3, _⟩ := HK'.out.2 k key hkey
        obtain ⟨a, f, c, r⟩ := key
        unfold maxLen at ok1 ok2 ok3
        clear hkey
        go_wp2
        case roundEnd =>
          go_round
          case rel => exact ⟨k + 1, _, by omega, by go_num, rfl⟩
          case measure => simp [intOf]; omega
        all_goals (go_ret; exact ⟨_, rfl, rfl⟩)
      · go_wp2
        go_ret
        exact ⟨_, rfl, rfl⟩
end Go.Proofs.Qxb6614575a
