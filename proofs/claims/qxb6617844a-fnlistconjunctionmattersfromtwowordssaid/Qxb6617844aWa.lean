import Derived.Test.Qxb6617844aRows
import Derived.WalkKit
import Derived.WalkSpells
import Derived.WalkLawsBesides
namespace Go.Proofs.Qxb6617844a
open Go.RowKit

/-- Sixteen bytes and the length of each word. -/
def tot (xs : List ByteArray) : Nat := (xs.map (fun x => 16 + x.size)).sum

theorem tot_take_succ (xs : List ByteArray) (k : Nat) (x : ByteArray) (h : xs[k]? = some x) : tot (xs.take (k + 1)) = tot (xs.take k) + 16 + x.size := by
  rw [List.take_add_one, h]
  simp [tot]
  omega

theorem tot_take_le (xs : List ByteArray) (k : Nat) : tot (xs.take k) ≤ tot xs := by
  induction xs generalizing k with
  | nil => simp [tot]
  | cons y r ih =>
    cases k with
    | zero => simp [tot]
    | succ k =>
      have := ih k
      simp only [tot, List.take_succ_cons, List.map_cons, List.sum_cons] at this ⊢
      omega

theorem tot_all (xs : List ByteArray) (k : Nat) (h : xs.length ≤ k) : tot (xs.take k) = tot xs := by
  rw [List.take_of_length_le h]

set_option maxHeartbeats 400000 in
theorem words_any (u : Int) (ao : Option Addr) (bk o c : Nat) (xs : List ByteArray) (w : World) (hu0 : 0 ≤ u) (hu : u ≤ 1048576)
    (hao : 0 < xs.length → ao = some ⟨bk, o, none⟩) (hl : xs.length ≤ 9223372036854775807)
    (hc : ∀ (j : Nat) x, xs[j]? = some x → w.cell? ⟨bk, o + j, none⟩ = some (.string x)) (hs : ∀ x ∈ xs, x.size ≤ 9223372036854775807) :
    Calls Try.prog 12 #[.int .i64 u, .slice ao xs.length c] w fun e w' => (∃ r : Int, e = .returned (.int .i64 r) ∧ (r ≤ 1048576 → u + tot xs ≤ 1048576)) ∧ w' = w := by
  have HC : Hid (∀ (j : Nat) x, xs[j]? = some x → w.cell? ⟨bk, o + j, none⟩ = some (.string x)) := hc
  have HS : Hid (∀ x ∈ xs, x.size ≤ 9223372036854775807) := hs
  have HA : Hid (0 < xs.length → ao = some ⟨bk, o, none⟩) := hao
  clear hc hs hao
  go_enter Try.func12, Try.ntmps12
  go_wp2
  go_loop [0, 5] (fun a i => ∃ k : Nat, k ≤ xs.length ∧ i = .int .i64 k ∧ a = .int .i64 (u + tot (xs.take k)) ∧ u + tot (xs.take k) ≤ 1048576) (fun _ i => xs.length - (intOf i).toNat)
  case atStart => exact ⟨0, Nat.zero_le _, rfl, by simp [tot], by simp [tot]; omega⟩
  case round =>
    obtain ⟨k, hk, rfl, rfl, hle⟩ := hrel
    by_cases hlt : k < xs.length
    · obtain ⟨x, hx⟩ : ∃ x, xs[k]? = some x := ⟨_, List.getElem?_eq_getElem hlt⟩
      have hcx := HC.out k x hx
      have hsx := HS.out x (List.mem_of_getElem? hx)
      have hsn := tot_take_succ xs k x hx
      have HN : Hid (tot (xs.take (k + 1)) = tot (xs.take k) + 16 + x.size) := hsn
      have haoo := HA.out (by omega)
      subst haoo
      clear hx hsn
      generalize tot (xs.take k) = T at *
      go_wp2
      · go_ret
        exact ⟨⟨_, rfl, by omega⟩, rfl⟩
      · go_ret
        exact ⟨⟨_, rfl, by omega⟩, rfl⟩
      · go_round
        case rel => exact ⟨k + 1, by omega, by go_num, by rw [HN.out]; go_num, by rw [HN.out]; omega⟩
        case measure => simp [intOf]; omega
    · go_wp2
      go_ret
      exact ⟨⟨_, rfl, by rw [tot_all xs k (by omega)]; omega⟩, rfl⟩
end Go.Proofs.Qxb6617844a
