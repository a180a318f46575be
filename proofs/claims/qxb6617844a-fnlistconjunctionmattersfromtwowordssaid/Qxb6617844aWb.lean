import Derived.Test.Qxb6617844aWa
namespace Go.Proofs.Qxb6617844a
open Go.RowKit

/-- Some bool comes back. -/
def IsBool (e : Ending) : Prop := ∃ b : Bool, e = .returned (.bool b)

set_option maxHeartbeats 400000 in
theorem bytes_cut (k1 : Int) (cj : ByteArray) (ao : Option Addr) (bk o c : Nat) (xs : List ByteArray) (w : World)
    (hao : 0 < xs.length → ao = some ⟨bk, o, none⟩) (hl : xs.length ≤ 9223372036854775807)
    (hc : ∀ (j : Nat) x, xs[j]? = some x → w.cell? ⟨bk, o + j, none⟩ = some (.string x)) (hs : ∀ x ∈ xs, x.size ≤ 9223372036854775807) (hcj : cj.size ≤ 9223372036854775807) :
    Calls Try.prog 11 #[.slice ao xs.length c, .int .i64 k1, .string cj] w fun e w' => IsBool e ∧ w' = w := by
  have HC : Hid (∀ (j : Nat) x, xs[j]? = some x → w.cell? ⟨bk, o + j, none⟩ = some (.string x)) := hc
  have HS : Hid (∀ x ∈ xs, x.size ≤ 9223372036854775807) := hs
  have HA : Hid (0 < xs.length → ao = some ⟨bk, o, none⟩) := hao
  clear hc hs hao
  go_enter Try.func11, Try.ntmps11
  by_cases h1 : 1048576 < xs.length
  · go_wp2
    go_ret
    exact ⟨⟨_, rfl⟩, rfl⟩
  go_wp2
  go_loop [7, 8] (fun a i => ∃ (k : Nat) (z : Int), k ≤ xs.length ∧ i = .int .i64 k ∧ a = .int .i64 z ∧ 0 ≤ z ∧ z ≤ 1048576) (fun _ i => xs.length - (intOf i).toNat)
  case atStart => exact ⟨0, _, Nat.zero_le _, rfl, rfl, by omega, by omega⟩
  case round =>
    obtain ⟨k, z, hk, rfl, rfl, hz0, hz⟩ := hrel
    by_cases hlt : k < xs.length
    · obtain ⟨x, hx⟩ : ∃ x, xs[k]? = some x := ⟨_, List.getElem?_eq_getElem hlt⟩
      have hcx := HC.out k x hx
      have hsx := HS.out x (List.mem_of_getElem? hx)
      have haoo := HA.out (by omega)
      subst haoo
      clear hx
      go_wp2
      · go_ret
        exact ⟨⟨_, rfl⟩, rfl⟩
      · go_ret
        exact ⟨⟨_, rfl⟩, rfl⟩
      · go_round
        case rel => exact ⟨k + 1, z + x.size, by omega, by go_num, rfl, by omega, by omega⟩
        case measure => simp [intOf]; omega
    · go_wp2
      all_goals (go_ret; exact ⟨⟨_, rfl⟩, rfl⟩)

set_option maxHeartbeats 400000 in
theorem bytes_conj (c1 c2 : ByteArray) (ao : Option Addr) (bk o c : Nat) (xs : List ByteArray) (w : World)
    (hao : 0 < xs.length → ao = some ⟨bk, o, none⟩) (hl : xs.length ≤ 9223372036854775807)
    (hc : ∀ (j : Nat) x, xs[j]? = some x → w.cell? ⟨bk, o + j, none⟩ = some (.string x)) (hs : ∀ x ∈ xs, x.size ≤ 9223372036854775807) (hc1 : c1.size ≤ 9223372036854775807) (hc2 : c2.size ≤ 9223372036854775807) :
    Calls Try.prog 14 #[.slice ao xs.length c, .string c1, .string c2] w fun e w' => IsBool e ∧ w' = w := by
  have HC : Hid (∀ (j : Nat) x, xs[j]? = some x → w.cell? ⟨bk, o + j, none⟩ = some (.string x)) := hc
  have HS : Hid (∀ x ∈ xs, x.size ≤ 9223372036854775807) := hs
  have HA : Hid (0 < xs.length → ao = some ⟨bk, o, none⟩) := hao
  clear hc hs hao
  go_enter Try.func14, Try.ntmps14
  by_cases h1 : 1048576 < xs.length
  · go_wp2
    go_ret
    exact ⟨⟨_, rfl⟩, rfl⟩
  go_wp2
  go_loop [7, 8] (fun a i => ∃ (k : Nat) (z : Int), k ≤ xs.length ∧ i = .int .i64 k ∧ a = .int .i64 z ∧ 0 ≤ z ∧ z ≤ 1048576) (fun _ i => xs.length - (intOf i).toNat)
  case atStart => exact ⟨0, _, Nat.zero_le _, rfl, rfl, by omega, by omega⟩
  case round =>
    obtain ⟨k, z, hk, rfl, rfl, hz0, hz⟩ := hrel
    by_cases hlt : k < xs.length
    · obtain ⟨x, hx⟩ : ∃ x, xs[k]? = some x := ⟨_, List.getElem?_eq_getElem hlt⟩
      have hcx := HC.out k x hx
      have hsx := HS.out x (List.mem_of_getElem? hx)
      have haoo := HA.out (by omega)
      subst haoo
      clear hx
      go_wp2
      · go_ret
        exact ⟨⟨_, rfl⟩, rfl⟩
      · go_ret
        exact ⟨⟨_, rfl⟩, rfl⟩
      · go_round
        case rel => exact ⟨k + 1, z + x.size, by omega, by go_num, rfl, by omega, by omega⟩
        case measure => simp [intOf]; omega
    · go_wp2
      all_goals (go_ret; exact ⟨⟨_, rfl⟩, rfl⟩)
end Go.Proofs.Qxb6617844a
