import Derived.Test.Qxb6617844aWc
namespace Go.Proofs.Qxb6617844a

/-! ### The plain laws on what 'List' writes. -/
theorem ba_ext {a b : ByteArray} (h : a.data.toList = b.data.toList) : a = b := by
  rw [← Lib.mk_data a, ← Lib.mk_data b, h]

theorem ba_append (a b : ByteArray) : (a ++ b).data.toList = a.data.toList ++ b.data.toList := by simp

/-- What 'List' writes, two words or more. -/
def listB (xs : List ByteArray) (c : ByteArray) : ByteArray :=
  ⟨(Lib.join (bytesOf xs.dropLast) [44, 32]).toArray⟩ ++ ⟨#[32]⟩ ++ c ++ ⟨#[32]⟩ ++ xs.getLastD ⟨#[]⟩

theorem join_cons2 (x y : List UInt8) (r : List (List UInt8)) (sep : List UInt8) : Lib.join (x :: y :: r) sep = x ++ sep ++ Lib.join (y :: r) sep := by
  rw [Lib.join_cons, Lib.join_cons]
  simp [Lib.joinTail]

theorem listB_cons (x y z : ByteArray) (r : List ByteArray) (c : ByteArray) : listB (x :: y :: z :: r) c = x ++ ⟨#[44, 32]⟩ ++ listB (y :: z :: r) c := by
  apply ba_ext
  simp only [listB, ba_append, List.dropLast_cons_cons, bytesOf, List.map_cons, join_cons2]
  simp [List.getLastD]

/-- The words, each with a comma and a blank behind it. -/
def preB (xs : List ByteArray) : ByteArray := xs.foldl (fun a x => a ++ x ++ ⟨#[44, 32]⟩) ⟨#[]⟩

theorem preB_snoc (xs : List ByteArray) (k : Nat) (x : ByteArray) (h : xs[k]? = some x) : preB (xs.take (k + 1)) = preB (xs.take k) ++ x ++ ⟨#[44, 32]⟩ := by
  rw [List.take_add_one, h]
  simp [preB]

theorem preB_from (a : ByteArray) (xs : List ByteArray) : xs.foldl (fun a x => a ++ x ++ ⟨#[44, 32]⟩) a = a ++ preB xs := by
  induction xs generalizing a with
  | nil => apply ba_ext; simp [preB]
  | cons x r ih =>
    rw [List.foldl_cons, ih]
    show _ = a ++ (x :: r).foldl (fun a x => a ++ x ++ ⟨#[44, 32]⟩) ⟨#[]⟩
    rw [List.foldl_cons, ih]
    apply ba_ext
    simp

theorem preB_cons (x : ByteArray) (r : List ByteArray) : preB (x :: r) = x ++ ⟨#[44, 32]⟩ ++ preB r := by
  show (x :: r).foldl (fun a x => a ++ x ++ ⟨#[44, 32]⟩) ⟨#[]⟩ = _
  rw [List.foldl_cons, preB_from]
  apply ba_ext
  simp

/-- A cut at any place. -/
theorem listB_cut (xs : List ByteArray) (k : Nat) (c : ByteArray) (h : k + 2 ≤ xs.length) : listB xs c = preB (xs.take k) ++ listB (xs.drop k) c := by
  induction k generalizing xs with
  | zero => apply ba_ext; simp [preB]
  | succ k ih =>
    match xs, h with
    | x :: y :: z :: r, h =>
      rw [listB_cons, ih (y :: z :: r) (by simp at h ⊢; omega), List.take_succ_cons, preB_cons, List.drop_succ_cons]
      apply ba_ext
      simp
    | [_, _], h => simp at h
    | [_], h => simp at h
    | [], h => simp at h

theorem listB_two (x y c : ByteArray) : listB [x, y] c = x ++ ⟨#[32]⟩ ++ c ++ ⟨#[32]⟩ ++ y := by
  apply ba_ext
  simp [listB, bytesOf, Lib.join_one]

theorem preB_size (xs : List ByteArray) : (preB xs).size ≤ tot xs := by
  induction xs with
  | nil => exact Nat.zero_le _
  | cons x r ih =>
    rw [preB_cons]
    have : (x ++ ⟨#[44, 32]⟩ ++ preB r).size = x.size + 2 + (preB r).size := by simp [ByteArray.size_append]; rfl
    rw [this]
    simp only [tot, List.map_cons, List.sum_cons] at ih ⊢
    omega

theorem join_le (xs : List ByteArray) : (Lib.join (bytesOf xs) [44, 32]).length ≤ tot xs := by
  induction xs with
  | nil => simp [bytesOf, Lib.join_nil, tot]
  | cons x r ih =>
    match r, ih with
    | [], _ => simp [bytesOf, Lib.join_one, tot]
    | y :: r, ih =>
      simp only [bytesOf, List.map_cons] at ih ⊢
      rw [join_cons2]
      simp only [tot, List.map_cons, List.sum_cons, List.length_append, List.length_cons, List.length_nil] at ih ⊢
      have := Lib.size_eq x
      omega

theorem tot_split (xs : List ByteArray) (y : ByteArray) : tot (xs ++ [y]) = tot xs + 16 + y.size := by
  simp [tot]; omega

theorem tot_drop_le (xs : List ByteArray) (k : Nat) : tot (xs.drop k) ≤ tot xs := by
  induction xs generalizing k with
  | nil => simp
  | cons y r ih =>
    cases k with
    | zero => simp
    | succ k =>
      have := ih k
      simp only [tot, List.drop_succ_cons, List.map_cons, List.sum_cons] at this ⊢
      omega

theorem drop_two (xs : List ByteArray) (m : Nat) (x y : ByteArray) (hL : xs.length = m + 2) (hx : xs[m]? = some x) (hy : xs[m + 1]? = some y) : xs.drop m = [x, y] := by
  apply List.ext_getElem?
  intro i
  rw [List.getElem?_drop]
  match i with
  | 0 => simpa using hx
  | 1 => simpa using hy
  | i + 2 => rw [List.getElem?_eq_none (by omega)]; simp

theorem listB_size (xs : List ByteArray) (cj : ByteArray) (h : xs ≠ []) : (listB xs cj).size ≤ tot xs + cj.size + 2 := by
  obtain ⟨ys, y, rfl⟩ : ∃ ys y, xs = ys ++ [y] := ⟨xs.dropLast, xs.getLast h, (List.dropLast_concat_getLast h).symm⟩
  rw [tot_split]
  have hj := join_le ys
  have e : listB (ys ++ [y]) cj = ⟨(Lib.join (bytesOf ys) [44, 32]).toArray⟩ ++ ⟨#[32]⟩ ++ cj ++ ⟨#[32]⟩ ++ y := by simp [listB]
  have e2 : (listB (ys ++ [y]) cj).size = (Lib.join (bytesOf ys) [44, 32]).length + 1 + cj.size + 1 + y.size := by
    rw [Lib.size_eq, e, ba_append, ba_append, ba_append, ba_append, Lib.size_eq cj, Lib.size_eq y]
    simp only [List.length_append]
    rfl
  omega

/-- The conjunction tells from two words on. -/
theorem listB_conj (xs : List ByteArray) (c1 c2 : ByteArray) (h : listB xs c1 = listB xs c2) : c1 = c2 := by
  have := congrArg (fun a => a.data.toList) h
  simp only [listB, ba_append] at this
  apply ba_ext
  simpa using this

open Go.RowKit in
/-- 'List', two words or more. -/
theorem list_ge2 (bk o c n : Nat) (xs : List ByteArray) (cj : ByteArray) (w : World) (hn : xs.length = n) (h2 : 2 ≤ n) (hcap : n ≤ c) (hc47 : c ≤ 140737488355328) (hbk : bk < w.heap.size)
    (hc : ∀ (j : Nat) x, xs[j]? = some x → w.cell? ⟨bk, o + j, none⟩ = some (.string x)) (hT : tot xs + cj.size ≤ 4194304) :
    Calls Try.prog 13 #[.slice (some ⟨bk, o, none⟩) n c, .string cj] w fun e w' => e = .returned (.string (listB xs cj)) ∧ Below w.heap.size w w' := by
  have hne : xs ≠ [] := by intro h; subst h; simp at hn; omega
  obtain ⟨ys, y, rfl⟩ : ∃ ys y, xs = ys ++ [y] := ⟨xs.dropLast, xs.getLast hne, (List.dropLast_concat_getLast hne).symm⟩
  have hl : n = ys.length + 1 := by rw [← hn]; simp
  subst hl
  have hj := join_le ys
  rw [tot_split] at hT
  have e1 : listB (ys ++ [y]) cj = ⟨(Lib.join (bytesOf ys) [44, 32]).toArray⟩ ++ ⟨#[32]⟩ ++ cj ++ ⟨#[32]⟩ ++ y := by simp [listB]
  rw [e1]
  refine list_many bk o c ys.length ys _ y cj w rfl (by omega) hcap hc47 hbk ?_ ?_ rfl ?_
  · intro j x hx
    exact hc j x (by rw [List.getElem?_append_left (by exact (List.getElem?_eq_some_iff.1 hx).1)]; exact hx)
  · exact hc ys.length y (by simp)
  · have : (⟨(Lib.join (bytesOf ys) [44, 32]).toArray⟩ : ByteArray).size = (Lib.join (bytesOf ys) [44, 32]).length := by rw [Lib.size_eq]
    omega
end Go.Proofs.Qxb6617844a
