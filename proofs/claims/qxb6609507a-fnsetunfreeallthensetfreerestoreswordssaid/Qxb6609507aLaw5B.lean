import Derived.Test.Qxb6609507aLaw5A
namespace Go.Proofs.Qxb6609507a
set_option linter.unusedVariables false
set_option linter.unusedSimpArgs false
open Go.ChangeShapes Go.WideShapes Go.ChangeAt Go.RowKit
/-- What the law keeps from the snapshots on: the free sets, all below the forest as it was, the snapshots. -/
structure Ph (F : FC) (fb : Nat) (N : Nat → Nat) (ob cap b0 : Nat → Nat) (bs : Nat → List Nat) (S0 : Nat → Nat → Bool) (w5 w8 : World) (S : Nat → Nat → Bool) (w : World) : Prop where
  fs : FSet F fb N ob cap b0 bs S w
  low : Below w5.heap.size w5 w
  sn : Snaps (w8.heap.size + 2) w8.heap.size (w8.heap.size + 1) N S0 5 w
section
variable {F : FC} {fb : Nat} {N : Nat → Nat} {ob cap b0 : Nat → Nat} {bs : Nat → List Nat} {S0 S S' : Nat → Nat → Bool} {w5 w8 w w' : World}
theorem Ph.upd (h : Ph F fb N ob cap b0 bs S0 w5 w8 S w) (hu : Upd [] w w') : Ph F fb N ob cap b0 bs S0 w5 w8 S w' :=
  ⟨h.fs.upd hu, h.low.trans (hu.below _ (by simp) h.low.size), h.sn.upd hu (by simp) (by simp) (by simp)⟩
theorem Ph.step {l : Nat} (h : Ph F fb N ob cap b0 bs S0 w5 w8 S w) (hus : ∀ u ∈ fb :: bs l, w5.heap.size ≤ u ∧ u < w8.heap.size) (hf : FSet F fb N ob cap b0 bs S' w') (hu : Upd (fb :: bs l) w w') : Ph F fb N ob cap b0 bs S0 w5 w8 S' w' :=
  ⟨hf, h.low.trans (hu.below _ (fun u hx => (hus u hx).1) h.low.size), h.sn.upd hu (fun hx => by have := (hus _ hx).2; omega) (fun hx => by have := (hus _ hx).2; omega) (fun b hb hx => by have := (hus _ hx).2; omega)⟩
theorem FSet.us_lt (h : FSet F fb N ob cap b0 bs S w) {l : Nat} (hl : l < 5) : ∀ u ∈ fb :: bs l, u < w.heap.size := by
  intro u hu
  rcases List.mem_cons.1 hu with rfl | hu
  · exact h.blk.lt
  · exact (h.rows l hl).mem_lt u (List.mem_cons_of_mem _ hu)
/-- The snapshots of one level more. -/
theorem Snaps.step {B sb nb L so : Nat} {w1 w2 : World} {cs ns cs' ns' : List Value} (hsn : Blk w2 sb cs' 50 ∧ Blk w2 nb ns' 51) (hl : cs'.length = 5 ∧ ns'.length = 5)
    (hc : ∀ m, m < L → cs'[m]? = cs[m]? ∧ ns'[m]? = ns[m]?)
    (h : ∀ m, m < L → ∃ so, B ≤ so ∧ cs[m]? = some (.slice (some ⟨so, 0, none⟩) (setRows (N m) (S m)).length (setRows (N m) (S m)).length) ∧ ns[m]? = some (.int .i64 (cntB (S m) (N m) : Nat)) ∧ SnapR B w1 so (setRows (N m) (S m)) (setRows (N m) (S m)).length)
    (hr : ∀ so n rs, B ≤ so → SnapR B w1 so rs n → SnapR B w2 so rs n)
    (hso : B ≤ so) (h1 : cs'[L]? = some (.slice (some ⟨so, 0, none⟩) (setRows (N L) (S L)).length (setRows (N L) (S L)).length)) (h2 : ns'[L]? = some (.int .i64 (cntB (S L) (N L) : Nat))) (h3 : SnapR B w2 so (setRows (N L) (S L)) (setRows (N L) (S L)).length) : Snaps B sb nb N S (L + 1) w2 := by
  refine ⟨cs', ns', hsn.1, hsn.2, hl.1, hl.2, fun m hm => ?_⟩
  by_cases e : m = L
  · subst e; exact ⟨so, hso, h1, h2, h3⟩
  · obtain ⟨so', d1, d2, d3, d4⟩ := h m (by omega)
    have := hc m (by omega)
    exact ⟨so', d1, by rw [this.1]; exact d2, by rw [this.2]; exact d3, hr _ _ _ d1 d4⟩
end
section
variable {F : FC} {fb : Nat} {N : Nat → Nat} {ob cap b0 : Nat → Nat} {bs : Nat → List Nat} {S0 : Nat → Nat → Bool} {w5 w8 w : World} {T : Topo} {tl : List Nat} {j : Nat}
theorem Ph.take5 (h : Ph F fb N ob cap b0 bs S0 w5 w8 (sJ T tl j) w) (hN : N = Nof T tl) (ht : Tops T tl) (hj : j < tl.length) (hus : ∀ l, l < 5 → ∀ u ∈ fb :: bs l, w5.heap.size ≤ u ∧ u < w8.heap.size) :
    Calls Try.prog 16 #[.pointer (some ⟨fb, 0, none⟩), .int .i8 (tl[j] : Nat), .int .i32 (ordJ T tl j : Nat)] w fun e w' => (∃ v, e = .returned v) ∧ Ph F fb N ob cap b0 bs S0 w5 w8 (sJ T tl (j + 1)) w' := by
  have hl5 : tl[j] < 5 := by have := ht.le _ (List.getElem_mem hj); omega
  have hi : ordJ T tl j < N tl[j] := by rw [hN, ← getD_at hj]; exact ordJ_lt hj
  have hS := sJ_root (T := T) hj
  rw [getD_at hj] at hS
  refine (h.fs.take hl5 hi hS).mono ?_
  rintro e w' ⟨h1, h2, h3⟩
  refine ⟨h1, h.step (hus _ hl5) (h2.ext fun l hl i hi => ?_) h3⟩
  rw [sJ_succ, getD_at hj]
theorem Ph.put5 (h : Ph F fb N ob cap b0 bs S0 w5 w8 (sJ T tl (j + 1)) w) (hN : N = Nof T tl) (ht : Tops T tl) (hj : j < tl.length) (hus : ∀ l, l < 5 → ∀ u ∈ fb :: bs l, w5.heap.size ≤ u ∧ u < w8.heap.size) :
    Calls Try.prog 23 #[.pointer (some ⟨fb, 0, none⟩), .int .i8 (tl[j] : Nat), .int .i32 (ordJ T tl j : Nat)] w fun e w' => (∃ v, e = .returned v) ∧ Ph F fb N ob cap b0 bs S0 w5 w8 (sJ T tl j) w' := by
  have hl5 : tl[j] < 5 := by have := ht.le _ (List.getElem_mem hj); omega
  have hi : ordJ T tl j < N tl[j] := by rw [hN, ← getD_at hj]; exact ordJ_lt hj
  have hS := sJ_gone (T := T) hj
  rw [getD_at hj] at hS
  refine (h.fs.put hl5 hi hS).mono ?_
  rintro e w' ⟨h1, h2, h3⟩
  refine ⟨h1, h.step (hus _ hl5) (h2.ext fun l hl i hi => ?_) h3⟩
  rw [sJ_back hj, getD_at hj]
end
theorem Ph.snap {F : FC} {fb : Nat} {N : Nat → Nat} {ob cap b0 : Nat → Nat} {bs : Nat → List Nat} {S0 S : Nat → Nat → Bool} {w5 w8 w : World} (h : Ph F fb N ob cap b0 bs S0 w5 w8 S w) {l : Nat} (hl : l < 5) :
    ∃ so, w.cell? ⟨w8.heap.size, l, none⟩ = some (.slice (some ⟨so, 0, none⟩) (setRows (N l) (S0 l)).length (setRows (N l) (S0 l)).length) ∧ w.cell? ⟨w8.heap.size + 1, l, none⟩ = some (.int .i64 (cntB (S0 l) (N l) : Nat)) ∧ ∀ k r, (setRows (N l) (S0 l))[k]? = some r → ∃ b, RowAt w so k b r := by
  obtain ⟨cs, ns, hcs, hns, _, _, hall⟩ := h.sn
  obtain ⟨so, _, h1, h2, h3⟩ := hall l hl
  refine ⟨so, by rw [hcs.cell]; exact h1, by rw [hns.cell]; exact h2, fun k r hr => ?_⟩
  obtain ⟨b, _, hb⟩ := h3 k (List.getElem?_eq_some_iff.1 hr).1 r hr
  exact ⟨b, hb⟩
theorem freeN_d {fb l : Nat} {w : World} {v : Value} (hl : l < 5) (hc : w.cell? ⟨fb, 7 + l * 3 + 2, none⟩ = some v) : ∀ n, Calls Try.prog 19 #[.pointer (some ⟨fb, 0, none⟩), .int .i64 l] (w.drewN n) fun e w' => e = .returned v ∧ ∃ m, w' = w.drewN m :=
  fun n => (freeN_any fb l (w.drewN n) v hl hc).mono fun e w' h => ⟨h.1, n, h.2⟩
theorem freeDepth_d {fb l n cap : Nat} {a : Option Addr} {w : World} (hl : l < 5) (hc : w.cell? ⟨fb, 7 + l * 3, none⟩ = some (.slice a n cap)) : ∀ q, Calls Try.prog 18 #[.pointer (some ⟨fb, 0, none⟩), .int .i64 l] (w.drewN q) fun e w' => e = .returned (.int .i64 n) ∧ ∃ m, w' = w.drewN m :=
  fun q => (freeDepth_any fb l (w.drewN q) n cap a hl hc).mono fun e w' h => ⟨h.1, q, h.2⟩
theorem wordsLen_d {fb l ob d cap k n c : Nat} {a : Option Addr} {w : World} (hl : l < 5) (h0 : w.cell? ⟨fb, 7 + l * 3, none⟩ = some (.slice (some ⟨ob, 0, none⟩) d cap)) (hk : k < d) (hc : w.cell? ⟨ob, k, none⟩ = some (.slice a n c)) : ∀ q, Calls Try.prog 20 #[.pointer (some ⟨fb, 0, none⟩), .int .i64 l, .int .i64 k] (w.drewN q) fun e w' => e = .returned (.int .i64 n) ∧ ∃ m, w' = w.drewN m :=
  fun q => (wordsLen_any fb l (w.drewN q) ob d cap k n c a hl h0 hk hc).mono fun e w' h => ⟨h.1, q, h.2⟩
theorem word_d {fb l ob d cap k b n c j : Nat} {v : Value} {w : World} (hl : l < 5) (h0 : w.cell? ⟨fb, 7 + l * 3, none⟩ = some (.slice (some ⟨ob, 0, none⟩) d cap)) (hk : k < d) (h1 : w.cell? ⟨ob, k, none⟩ = some (.slice (some ⟨b, 0, none⟩) n c)) (hj : j < n) (hc : w.cell? ⟨b, j, none⟩ = some v) : ∀ q, Calls Try.prog 21 #[.pointer (some ⟨fb, 0, none⟩), .int .i64 l, .int .i64 k, .int .i64 j] (w.drewN q) fun e w' => e = .returned v ∧ ∃ m, w' = w.drewN m :=
  fun q => (word_any fb l (w.drewN q) ob d cap k b n c j v hl h0 hk h1 hj hc).mono fun e w' h => ⟨h.1, q, h.2⟩
theorem plain16 : plainFn Try.prog 16 = true := by kernel_rfl
theorem plain23 : plainFn Try.prog 23 = true := by kernel_rfl
theorem es22 : elemSize Try.prog 22 = some 1 := by kernel_rfl
theorem es28 : elemSize Try.prog 28 = some 1 := by kernel_rfl
end Go.Proofs.Qxb6609507a
