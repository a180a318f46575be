import Derived.Test.Qxb6617024aFmtUa
namespace Go.Proofs.Qxb6617024aFmt
open Go.RowKit Go.Extern.Stop Go.Stop Go.Extern

/-- Opening a table on the new buffer: not sound. -/
theorem open_bad {w w1 : World} {co : Option Addr} {n c2 : Nat} {zs : List Int} {p : Int} (hR : Ready w co n c2 zs w1) (hg : ¬ good zs p) :
    Calls Tryf.prog 10 #[.pointer (some ⟨w1.heap.size, 0, none⟩), .int .i64 p] (w1.alloc (bufObj co n c2)) fun e w' => e = .returned noTable ∧ Kept w1.heap.size (w1.alloc (bufObj co n c2)) w' ∧ ErrIs w' w1.heap.size (decide (0 ≤ p)) := by
  refine open_table w1.heap.size none p 0 0 0 _ _ (by simp) (fun w2 hb => ?_)
  have h2 := hR.2.kept (Kept.of_below hb)
  have he := (newBuf_err w1 co n c2).below hb
  by_cases h0 : 0 ≤ p
  · rw [decide_eq_true h0]
    exact table_bad w1.heap.size n c2 co zs p w2 h2 he h0 hg
  · rw [decide_eq_false h0]
    exact (table_neg w1.heap.size p w2 (by omega)).mono fun _ _ k => ⟨k.1, Kept.of_below k.2, he.below k.2⟩
/-- .. sound. -/
theorem open_good {w w1 : World} {co : Option Addr} {n c2 : Nat} {zs : List Int} {p : Int} (hR : Ready w co n c2 zs w1) (hg : good zs p) :
    Calls Tryf.prog 10 #[.pointer (some ⟨w1.heap.size, 0, none⟩), .int .i64 p] (w1.alloc (bufObj co n c2)) fun e w' => e = .returned (isTable w1.heap.size p (vtab zs p) (slots zs p)) ∧ Kept w1.heap.size (w1.alloc (bufObj co n c2)) w' ∧ ErrIs w' w1.heap.size false :=
  open_table w1.heap.size _ p _ _ _ _ _ (by simp) (fun w2 hb => table_good w1.heap.size n c2 co zs p w2 (hR.2.kept (Kept.of_below hb)) ((newBuf_err w1 co n c2).below hb) hg)

theorem kept_lt {w1 w2 : World} {ob : Obj} (hk : Kept w1.heap.size (w1.alloc ob) w2) : w1.heap.size < w2.heap.size := by
  have := hk.size
  simp at this
  omega

theorem law6_ready (ao co : Option Addr) (n c c2 : Nat) (p s t : Int) (zs : List Int) (w : World) (h : Bytes w ao n zs) (hs : 0 ≤ s) (ht : 0 ≤ t)
    (K8 : Calls Tryf.prog 8 #[.slice ao n c] w fun e w' => e = .returned (.slice co n c2) ∧ Ready w co n c2 zs w') :
    Calls Tryf.prog 6 #[.slice ao n c, .int .i64 p, .int .i64 s, .int .i64 t] w fun e w' => e = .returned (.bool true) ∧ Below w.heap.size w w' := by
  have hn := h.small
  have G : ∀ w1, Ready w co n c2 zs w1 → Below w.heap.size w w1 := fun w1 k => k.1
  have CA : ∀ q, 0 ≤ q → Absent zs p q → ∀ w1, Below w.heap.size w w1 → Calls Tryf.prog 16 #[.slice ao n c, .int .i64 p, .int .i64 q] w1 fun e w' => e = .returned (.tuple #[.bool false, .int .i64 0, .int .i64 0, .int .i64 0, .bool false]) ∧ Below w1.heap.size w1 w' :=
    fun q hq ha w1 hb => child_absent n c p q ao zs w1 (h.below hb) hq ha
  have CF : ∀ q, 0 ≤ q → Found zs p q → ∀ w1, Below w.heap.size w w1 → Calls Tryf.prog 16 #[.slice ao n c, .int .i64 p, .int .i64 q] w1 fun e w' => e = .returned (.tuple #[.bool true, .int .i64 (target zs p q), .int .i64 (vtab zs (target zs p q)), .int .i64 (slots zs (target zs p q)), .bool false]) ∧ Below w1.heap.size w1 w' :=
    fun q hq hf w1 hb => child_found n c p q ao zs w1 (h.below hb) hq hf
  have CR : ∀ q, 0 ≤ q → ¬ Absent zs p q → ¬ Found zs p q → ∀ w1, Below w.heap.size w w1 → Calls Tryf.prog 16 #[.slice ao n c, .int .i64 p, .int .i64 q] w1 fun e w' => e = .returned (.tuple #[.bool false, .int .i64 0, .int .i64 0, .int .i64 0, .bool true]) ∧ Below w1.heap.size w1 w' :=
    fun q hq ha hf w1 hb => child_refused n c p q ao zs w1 (h.below hb) hq ha hf
  by_cases hg : good zs p
  · have K10 := fun (w1 : World) (hR : Ready w co n c2 zs w1) => open_good hR hg
    have GF : ∀ q, 0 ≤ q → Found zs p q → ∀ w1 w2, Ready w co n c2 zs w1 → Kept w1.heap.size (w1.alloc (bufObj co n c2)) w2 → ErrIs w2 w1.heap.size false → _ :=
      fun q hq hf w1 w2 hR hk he => get_found w1.heap.size n c2 co zs p q w2 (hR.2.kept hk) he hq hf
    have GA : ∀ q, 0 ≤ q → Absent zs p q → ∀ w1 w2, Ready w co n c2 zs w1 → Kept w1.heap.size (w1.alloc (bufObj co n c2)) w2 → ErrIs w2 w1.heap.size false → _ :=
      fun q hq ha w1 w2 hR hk he => get_absent w1.heap.size n c2 co zs p q w2 (hR.2.kept hk) he hq hg ha
    have GR : ∀ q, 0 ≤ q → ¬ Absent zs p q → ¬ Found zs p q → ∀ w1 w2, Ready w co n c2 zs w1 → Kept w1.heap.size (w1.alloc (bufObj co n c2)) w2 → ErrIs w2 w1.heap.size false → _ :=
      fun q hq ha hf w1 w2 hR hk he => get_refused w1.heap.size n c2 co zs p q w2 (hR.2.kept hk) he hq ha hf
    by_cases f1 : Found zs p s
    · by_cases f2 : Found zs p t
      · exact sticky_ff ao co n c c2 p s t _ (fun b => some ⟨b, 0, none⟩) _ _ _ (fun b => ⟨b, 0, none⟩) _ _ _ (fun b => ⟨b, 0, none⟩) _ _ _ false false false w hn hs ht G K8 K10 (GF s hs f1) (GF t ht f2) (CF s hs f1) (CF t ht f2)
      · by_cases a2 : Absent zs p t
        · exact sticky_fn ao co n c c2 p s t _ (fun b => some ⟨b, 0, none⟩) _ _ _ (fun b => ⟨b, 0, none⟩) _ _ _ false false false false w hn hs ht G K8 K10 (GF s hs f1) (GA t ht a2) (CF s hs f1) (CA t ht a2)
        · exact sticky_fn ao co n c c2 p s t _ (fun b => some ⟨b, 0, none⟩) _ _ _ (fun b => ⟨b, 0, none⟩) _ _ _ true false false true w hn hs ht G K8 K10 (GF s hs f1) (GR t ht a2 f2) (CF s hs f1) (CR t ht a2 f2)
    · by_cases a1 : Absent zs p s
      · by_cases f2 : Found zs p t
        · exact sticky_nf ao co n c c2 p s t _ (fun b => some ⟨b, 0, none⟩) _ _ _ (fun b => ⟨b, 0, none⟩) _ _ _ false false false w hn hs ht G K8 K10 (GA s hs a1) (GF t ht f2) (CA s hs a1) (CF t ht f2)
        · by_cases a2 : Absent zs p t
          · exact sticky_nn ao co n c c2 p s t _ (fun b => some ⟨b, 0, none⟩) _ _ _ false false false false w hn hs ht G K8 K10 (GA s hs a1) (GA t ht a2) (CA s hs a1) (CA t ht a2)
          · exact sticky_nn ao co n c c2 p s t _ (fun b => some ⟨b, 0, none⟩) _ _ _ true false false true w hn hs ht G K8 K10 (GA s hs a1) (GR t ht a2 f2) (CA s hs a1) (CR t ht a2 f2)
      · have GS := fun (w1 w2 : World) (_ : Ready w co n c2 zs w1) (_ : Kept w1.heap.size (w1.alloc (bufObj co n c2)) w2) (he : ErrIs w2 w1.heap.size true) => get_stuck w1.heap.size p (vtab zs p) (slots zs p) t w2 he
        by_cases f2 : Found zs p t
        · exact sticky_rn ao co n c c2 p s t _ (fun b => some ⟨b, 0, none⟩) _ _ _ _ _ _ _ _ false true true w hn hs ht G K8 K10 (GR s hs a1 f1) GS (CR s hs a1 f1) (CF t ht f2)
        · by_cases a2 : Absent zs p t
          · exact sticky_rn ao co n c c2 p s t _ (fun b => some ⟨b, 0, none⟩) _ _ _ _ _ _ _ _ false true true w hn hs ht G K8 K10 (GR s hs a1 f1) GS (CR s hs a1 f1) (CA t ht a2)
          · exact sticky_rn ao co n c c2 p s t _ (fun b => some ⟨b, 0, none⟩) _ _ _ _ _ _ _ _ false true true w hn hs ht G K8 K10 (GR s hs a1 f1) GS (CR s hs a1 f1) (CR t ht a2 f2)
  · have K10 := fun (w1 : World) (hR : Ready w co n c2 zs w1) => open_bad hR hg
    have GZ : ∀ (q : Int) (w1 w2 : World), Ready w co n c2 zs w1 → Kept w1.heap.size (w1.alloc (bufObj co n c2)) w2 → ErrIs w2 w1.heap.size (decide (0 ≤ p)) → _ :=
      fun q w1 w2 _ hk he => get_zero w1.heap.size q _ w2 (kept_lt hk) he
    exact sticky_nn ao co n c c2 p s t _ (fun _ => none) _ _ _ false _ _ _ w hn hs ht G K8 K10 (GZ s) (GZ t) (CA s hs (.inl hg)) (CA t ht (.inl hg))
end Go.Proofs.Qxb6617024aFmt
