/-
  zzSameBytes, zzSamePackets.
-/
import Derived.Test.Qxb6630770aBase
import Derived.Deep.QuietTactic
import Derived.BigQuiet
namespace Go.Proofs.Qxb6630770a
open Go.RowKit

set_option maxHeartbeats 400000 in
theorem same_none (a a' : Option Addr) (l c c' : Nat) (w : World) (h : ¬ 0 < l) :
    Calls Try.prog 16 #[.slice a l c, .slice a' l c'] w fun e w' => e = .returned (.bool true) ∧ ∃ q, w' = w.drewN q := by
  go_enter Try.func16, Try.ntmps16
  go_wp2
  refine wp_loop_rounds 1 ?_
  rw [rounds_succ]
  go_wp2
  go_ret
  exact ⟨rfl, 0, rfl⟩

set_option maxHeartbeats 400000 in
theorem same_some (b o b' o' l c c' : Nat) (bs : List Int) (w : World) (hl : bs.length = l) (hm : l ≤ 1048576)
    (h1 : ∀ j, j < l → w.cell? ⟨b, o + j, none⟩ = some (.int .u8 (bs.getD j 0))) (h2 : ∀ j, j < l → w.cell? ⟨b', o' + j, none⟩ = some (.int .u8 (bs.getD j 0))) :
    Calls Try.prog 16 #[.slice (some ⟨b, o, none⟩) l c, .slice (some ⟨b', o', none⟩) l c'] w fun e w' => e = .returned (.bool true) ∧ ∃ q, w' = w.drewN q := by
  have H1 : Hid (∀ j, j < l → w.cell? ⟨b, o + j, none⟩ = some (.int .u8 (bs.getD j 0))) := h1
  have H2 : Hid (∀ j, j < l → w.cell? ⟨b', o' + j, none⟩ = some (.int .u8 (bs.getD j 0))) := h2
  clear h1 h2
  go_enter Try.func16, Try.ntmps16
  go_wp2
  go_loopw [5] (fun i wr => ∃ k : Nat, k ≤ l ∧ i = .int .i64 k ∧ ∃ q, wr = w.drewN q) (fun i _ => l - (intOf i).toNat)
  case atStart => exact ⟨0, Nat.zero_le _, rfl, 0, rfl⟩
  case round =>
    obtain ⟨k, hk, rfl, q, rfl⟩ := hrel
    by_cases hlt : k < l
    · have hx := H1.out k hlt
      have hy := H2.out k hlt
      have hki : (k : Int) < (l : Int) := by omega
      generalize bs.getD k 0 = z at *
      go_wp2
      go_quiet (fail)
      go_wp2
      go_roundw
      case rel => exact ⟨k + 1, by omega, by go_num, _, rfl⟩
      case measure => simp [intOf]; omega
    · go_wp2
      go_ret
      exact ⟨rfl, q, rfl⟩

theorem same_pkt (v v' : Value) (bs : List Int) (w : World) (h : Pkt w v bs) (h' : Pkt w v' bs) (hm : bs.length ≤ 1048576) :
    Calls Try.prog 16 #[v, v'] w fun e w' => e = .returned (.bool true) ∧ ∃ q, w' = w.drewN q := by
  obtain ⟨a, c, rfl, _, _, h4⟩ := h
  obtain ⟨a', c', rfl, _, _, h4'⟩ := h'
  by_cases h0 : 0 < bs.length
  · obtain ⟨b, o, rfl, hc⟩ := h4 h0
    obtain ⟨b', o', rfl, hc'⟩ := h4' h0
    exact same_some b o b' o' bs.length c c' bs w rfl hm hc hc'
  · exact same_none a a' bs.length c c' w h0

set_option maxHeartbeats 400000 in
theorem sames_none (a a' : Option Addr) (l c c' : Nat) (w : World) (h : ¬ 0 < l) :
    Calls Try.prog 10 #[.slice a l c, .slice a' l c'] w fun e w' => e = .returned (.bool true) ∧ ∃ q, w' = w.drewN q := by
  go_enter Try.func10, Try.ntmps10
  go_wp2
  refine wp_loop_rounds 1 ?_
  rw [rounds_succ]
  go_wp2
  go_ret
  exact ⟨rfl, 0, rfl⟩

theorem Pkts.drewN {w : World} {b off : Nat} {qs : List (List Int)} (h : Pkts w b off qs) (q : Nat) : Pkts (w.drewN q) b off qs :=
  h.kept (fun a u hu => by simpa using hu)

set_option maxHeartbeats 400000 in
theorem sames_some (b o b' o' n c c' : Nat) (qs : List (List Int)) (w : World) (hl : qs.length = n) (hm : n ≤ 32768) (ho : octs qs ≤ 1048576)
    (h1 : Pkts w b o qs) (h2 : Pkts w b' o' qs) :
    Calls Try.prog 10 #[.slice (some ⟨b, o, none⟩) n c, .slice (some ⟨b', o', none⟩) n c'] w fun e w' => e = .returned (.bool true) ∧ ∃ q, w' = w.drewN q := by
  go_enter Try.func10, Try.ntmps10
  go_wp2
  go_loopw [5] (fun i wr => ∃ k : Nat, k ≤ n ∧ i = .int .i64 k ∧ ∃ q, wr = w.drewN q) (fun i _ => n - (intOf i).toNat)
  case atStart => exact ⟨0, Nat.zero_le _, rfl, 0, rfl⟩
  case round =>
    obtain ⟨k, hk, rfl, q, hq⟩ := hrel
    have h1r : Pkts wr b o qs := by rw [hq]; exact h1.drewN q
    have h2r : Pkts wr b' o' qs := by rw [hq]; exact h2.drewN q
    have HQ : Hid (wr = w.drewN q) := hq
    clear hq
    by_cases hlt : k < n
    · obtain ⟨v, hv, hp⟩ := h1r k (by omega)
      obtain ⟨v', hv', hp'⟩ := h2r k (by omega)
      have hls := len_le_octs qs k (by omega)
      have hki : (k : Int) < (n : Int) := by omega
      have hbl : (qs.getD k []).length ≤ 1048576 := by omega
      have HP : Hid (∀ m, Pkt (wr.drewN m) v (qs.getD k [])) := fun m => hp.kept (fun a u hu => by simpa using hu)
      have HP' : Hid (∀ m, Pkt (wr.drewN m) v' (qs.getD k [])) := fun m => hp'.kept (fun a u hu => by simpa using hu)
      clear hp hp'
      generalize qs.getD k [] = bs at *
      go_wp2_with fail
      go_quiet ((go_at_call 16; refine Calls.quiet_of (same_pkt v v' bs _ ?_ ?_ ?_); exact HP.out _; exact HP'.out _; exact hbl))
      go_wp2
      go_roundw
      case rel => exact ⟨k + 1, by omega, by go_num, q + nq, by rw [HQ.out, World.drewN_drewN]⟩
      case measure => simp [intOf]; omega
    · go_wp2
      go_ret
      exact ⟨rfl, q, HQ.out⟩
end Go.Proofs.Qxb6630770a
