import Derived.Test.Qxb6616771aSd
namespace Go.Proofs.Qxb6616771a
open Go.RowKit Go.Sort

/-- Some bool comes back. -/
def IsBool (e : Ending) : Prop := ∃ b : Bool, e = .returned (.bool b)
/-- Some int comes back. -/
def IsInt (e : Ending) : Prop := ∃ r : Int, e = .returned (.int .i64 r)

/-- What is told of a slice of strings that came in. -/
structure SW (w : World) (ao : Option Addr) (n : Nat) (xs : List ByteArray) : Prop where
  len : xs.length = n
  small : n ≤ 9223372036854775807
  at' : ∃ bk o, (0 < n → ao = some ⟨bk, o, none⟩) ∧ ∀ (j : Nat) x, xs[j]? = some x → w.cell? ⟨bk, o + j, none⟩ = some (.string x)
  size : ∀ x ∈ xs, x.size ≤ 9223372036854775807

theorem SW.below {w w' : World} {ao : Option Addr} {n : Nat} {xs : List ByteArray} (h : SW w ao n xs) (hb : Below w.heap.size w w') : SW w' ao n xs := by
  obtain ⟨h1, h2, ⟨bk, o, h3, h4⟩, h5⟩ := h
  exact ⟨h1, h2, ⟨bk, o, h3, fun j x hx => cell_below hb (h4 j x hx)⟩, h5⟩

theorem SW.strs {w : World} {ao : Option Addr} {n : Nat} {xs : List ByteArray} (h : SW w ao n xs) (hn : n ≤ 65536) : Strs w ao n xs := ⟨h.len, hn, h.at'⟩

theorem SW.nil {w : World} {n : Nat} {xs : List ByteArray} (h : SW w none n xs) : n = 0 ∧ xs = [] := by
  obtain ⟨rfl, hl, ⟨bk, o, hao, hc⟩, hs⟩ := h
  match xs, hao with
  | [], _ => exact ⟨rfl, rfl⟩
  | x :: r, hao => exact absurd (hao (by simp)) (by simp)

/-- The k-th cell. -/
theorem SW.get {w : World} {ao : Option Addr} {n : Nat} {xs : List ByteArray} (h : SW w ao n xs) {k : Nat} (hk : k < n) :
    ∃ bk o x, ao = some ⟨bk, o, none⟩ ∧ xs[k]? = some x ∧ w.cell? ⟨bk, o + k, none⟩ = some (.string x) ∧ x.size ≤ 9223372036854775807 := by
  obtain ⟨rfl, hl, ⟨bk, o, hao, hc⟩, hs⟩ := h
  have hx := List.getElem?_eq_getElem hk
  exact ⟨bk, o, _, hao (by omega), hx, hc k _ hx, hs _ (List.mem_of_getElem? hx)⟩

set_option maxRecDepth 100000 in
set_option maxHeartbeats 400000 in
theorem sum_any (ao : Option Addr) (n c : Nat) (L : Int) (xs : List ByteArray) (w : World) (h : SW w ao n xs) :
    Calls Try.prog 5 #[.slice ao n c, .int .i64 L] w fun e w' => IsInt e ∧ w' = w := by
  have H : Hid (SW w ao n xs) := h
  have hs := h.small
  clear h
  go_enter Try.func5, Try.ntmps5
  go_wp2
  go_loop [5, 6] (fun t i => ∃ (k : Nat) (z : Int), k ≤ n ∧ i = .int .i64 k ∧ t = .int .i64 z) (fun _ i => n - (intOf i).toNat)
  case atStart => exact ⟨0, _, Nat.zero_le _, rfl, rfl⟩
  case round =>
    obtain ⟨k, z, hk, rfl, rfl⟩ := hrel
    by_cases hlt : k < n
    · obtain ⟨bk, o, x, hao, hx, hcx, hsx⟩ := H.out.get hlt
      subst hao
      clear hx
      go_wp2
      · go_ret
        exact ⟨⟨_, rfl⟩, rfl⟩
      · go_round
        case rel => exact ⟨k + 1, _, by omega, by go_num, rfl⟩
        case measure => simp [intOf]; omega
    · go_wp2
      go_ret
      exact ⟨⟨_, rfl⟩, rfl⟩

set_option maxRecDepth 100000 in
set_option maxHeartbeats 800000 in
theorem bytes_any (ao1 ao2 : Option Addr) (n m c1 c2 : Nat) (p q : Int) (ot : ByteArray) (xs ys : List ByteArray) (w : World) (h1 : SW w ao1 n xs) (h2 : SW w ao2 m ys) (ho : ot.size ≤ 9223372036854775807) :
    Calls Try.prog 4 #[.slice ao1 n c1, .slice ao2 m c2, .int .i64 p, .int .i64 q, .string ot] w fun e w' => IsBool e ∧ w' = w := by
  have H1 : Hid (SW w ao1 n xs) := h1
  have H2 : Hid (SW w ao2 m ys) := h2
  have hs1 := h1.small
  have hs2 := h2.small
  clear h1 h2
  by_cases hn : 1048576 < n
  · go_enter Try.func4, Try.ntmps4
    go_wp2
    go_ret
    exact ⟨⟨_, rfl⟩, rfl⟩
  go_enter Try.func4, Try.ntmps4
  go_wp2
  go_loop [11, 12] (fun t i => ∃ (k : Nat) (z : Int), k ≤ n ∧ i = .int .i64 k ∧ t = .int .i64 z ∧ 0 ≤ z ∧ z ≤ 1048576) (fun _ i => n - (intOf i).toNat)
  case atStart => exact ⟨0, _, Nat.zero_le _, rfl, rfl, by omega, by omega⟩
  case round =>
    obtain ⟨k, z, hk, rfl, rfl, hz0, hz⟩ := hrel
    by_cases hlt : k < n
    · obtain ⟨bk, o, x, hao, hx, hcx, hsx⟩ := H1.out.get hlt
      subst hao
      clear hx
      go_wp2
      · go_ret
        exact ⟨⟨_, rfl⟩, rfl⟩
      · go_ret
        exact ⟨⟨_, rfl⟩, rfl⟩
      · go_round
        case rel => exact ⟨k + 1, z + x.size, by omega, by go_num, rfl, by omega, by omega⟩
        case measure => simp [intOf]; omega
    · by_cases hm : 1048576 < m
      · go_wp2
        go_ret
        exact ⟨⟨_, rfl⟩, rfl⟩
      by_cases hzm : 1048576 < z + m
      · go_wp2
        go_ret
        exact ⟨⟨_, rfl⟩, rfl⟩
      go_wp2
      go_loop [11, 13] (fun t i => ∃ (j : Nat) (y : Int), j ≤ m ∧ i = .int .i64 j ∧ t = .int .i64 y ∧ 0 ≤ y ∧ y ≤ 1048576) (fun _ i => m - (intOf i).toNat)
      case atStart => exact ⟨0, _, Nat.zero_le _, rfl, rfl, by omega, by omega⟩
      case round =>
        obtain ⟨j, y, hj, rfl, rfl, hy0, hy⟩ := hrel
        by_cases hlt2 : j < m
        · obtain ⟨bk, o, x, hao, hx, hcx, hsx⟩ := H2.out.get hlt2
          subst hao
          clear hx
          go_wp2
          · go_ret
            exact ⟨⟨_, rfl⟩, rfl⟩
          · go_ret
            exact ⟨⟨_, rfl⟩, rfl⟩
          · go_round
            case rel => exact ⟨j + 1, y + x.size, by omega, by go_num, rfl, by omega, by omega⟩
            case measure => simp [intOf]; omega
        · go_wp2
          all_goals (go_ret; exact ⟨⟨_, rfl⟩, rfl⟩)
end Go.Proofs.Qxb6616771a
