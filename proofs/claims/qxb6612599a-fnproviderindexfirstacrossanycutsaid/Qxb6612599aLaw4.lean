import Derived.Test.Qxb6612599aSwarm
import Derived.Test.Qxb6612599aBytes
namespace Go.Proofs.Qxb6612599a
open Go.ChangeShapes Go.WideShapes Go.ChangeAt Go.RowKit
open Go.Extern.Stop (cell)

/-- An id's cells. -/
def idc (id : List UInt8) : List Value := id.map cell
theorem idc_one (ids : List (List UInt8)) : ∀ v ∈ ids.flatMap idc, v.oneCell' = true := by
  intro v hv
  obtain ⟨x, _, hv⟩ := List.mem_flatMap.1 hv
  simp only [idc, List.mem_map] at hv
  obtain ⟨y, _, rfl⟩ := hv
  rfl
theorem info23 : (Try.prog.info? 23).map (fun i => (i.zero, i.size, i.bytes)) = some (some (.agg (idc (List.replicate 20 0)).toArray), 20, 20) := by kernel_rfl

/-- WHAT CAME IN: a slice of ids: nil and empty, or at an address from which on the cells lie. -/
def CameIn (w : World) (a : Option Addr) (ids : List (List UInt8)) : Prop :=
  (a = none ∧ ids = []) ∨ ∃ x, a = some x ∧ ∀ j v, (ids.flatMap idc)[j]? = some v → w.cell? (x.add j) = some v

theorem neq_nil22 (w : World) (x : Addr) (n c : Nat) : (binOp .neq 22 (.slice (some x) n c) (.slice none 0 0)).run Try.prog w = .ok (.bool true) w := by
  simp [binOp, run_equal_slice_nil w 22 23 (some x) n c Try.underlying22]

/-- A fresh block with all the ids. -/
theorem idsIn_of_blk {w : World} {g : Nat} {ids : List (List UInt8)} (hids : ∀ x ∈ ids, x.length = 20) (hb : Blk w g (ids.flatMap idc) 23) : ∀ k (hk : k < ids.length) j v, (ids[k].map cell)[j]? = some v → w.cell? ⟨g, 0 + k * 20 + j, none⟩ = some v := by
  intro k hk j v hv
  have hj : j < 20 := by
    have := (List.getElem?_eq_some_iff.1 hv).1
    simpa [hids _ (List.getElem_mem hk)] using this
  rw [hb.cell, Nat.zero_add, piece idc 20 ids (fun x hx => by simp [idc, hids x hx]) k hk j hj]
  exact hv

theorem idx_each {ids : List (List UInt8)} {k : Nat} (hk : k < ids.length) : ∃ r, ∃ hr : r < ids.length, r ≤ k ∧ ids[r] = ids[k] ∧ idx ids ids[k] = r := by
  have : ∃ r, ids.findIdx? (· == ids[k]) = some r := by
    cases h : ids.findIdx? (· == ids[k]) with
    | some r => exact ⟨r, rfl⟩
    | none =>
      rw [List.findIdx?_eq_none_iff] at h
      have := h ids[k] (List.getElem_mem hk)
      simp at this
  obtain ⟨r, hr⟩ := this
  have h2 := hr
  rw [List.findIdx?_eq_some_iff_getElem] at h2
  obtain ⟨hlt, heq, hmin⟩ := h2
  refine ⟨r, hlt, ?_, by simpa using heq, by simp [idx, hr]⟩
  by_cases hrk : r ≤ k
  · exact hrk
  · have := hmin k (by omega)
    simp at this

theorem ne23 (w : World) (x y : List UInt8) (hx : x.length = 20) (hy : y.length = 20) :
    (binOp .neq 23 (.agg (x.map cell).toArray) (.agg (y.map cell).toArray)).run Try.prog w = .ok (.bool (!(x == y))) w := by
  rw [run_neq_struct, run_equalIn_bytes w 9998 23 5 20 Try.underlying23 Try.underlying5 (run_sizeOf size5) x y hx hy]; rfl

theorem made23 {w : World} {base g n : Nat} (hown : w.ownsRow base 23 20 (.slice (some ⟨g, 0, none⟩) n n) n (madeCells (Value.agg (idc (List.replicate 20 0)).toArray).cells (n * 20)).toList) :
    Blk w g ((List.replicate n (idc (List.replicate 20 0))).flatMap (fun x => x)) 23 := by
  have := ownsRow_blk hown
  have e := made_flat (idc (List.replicate 20 0)) (by simp [idc]) n
  rw [show (idc (List.replicate 20 0)).length = 20 by simp [idc]] at e
  rw [show (Value.agg (idc (List.replicate 20 0)).toArray).cells = (idc (List.replicate 20 0)).toArray from rfl, e] at this
  exact this
theorem made23_length (n : Nat) : ((List.replicate n (idc (List.replicate 20 0))).flatMap (fun x => x)).length = n * 20 := by
  rw [flat_length (fun x : List Value => x) 20 _ (fun x hx => by rw [List.eq_of_mem_replicate hx]; simp [idc])]; simp
theorem flat23_length (ids : List (List UInt8)) (hids : ∀ x ∈ ids, x.length = 20) : (ids.flatMap idc).length = ids.length * 20 :=
  flat_length idc 20 ids (fun x hx => by simp [idc, hids x hx])
theorem came_below {w w' : World} {x : Addr} {ids : List (List UInt8)} (h : ∀ j v, (ids.flatMap idc)[j]? = some v → w.cell? (x.add j) = some v) (hb : Below w.heap.size w w') : ∀ j v, (ids.flatMap idc)[j]? = some v → w'.cell? (x.add j) = some v := by
  intro j v hv
  have := h j v hv
  have hlt : (x.add j).block < w.heap.size := by
    by_cases hb : (x.add j).block < w.heap.size
    · exact hb
    · simp [World.cell?, Array.getElem?_eq_none (Nat.le_of_not_lt hb)] at this
  rw [hb.cell hlt]; exact this
theorem idsAt {w : World} {g : Nat} {ids : List (List UInt8)} (hids : ∀ x ∈ ids, x.length = 20) (hb : Blk w g (ids.flatMap idc) 23) (k : Nat) (hk : k < ids.length) : ∀ j v, (ids[k].map cell)[j]? = some v → w.cell? ⟨g, k * 20 + j, none⟩ = some v := by
  intro j v hv
  have := idsIn_of_blk hids hb k hk j v hv
  rwa [Nat.zero_add] at this
theorem idsIn_mk {w : World} {g : Nat} {ids : List (List UInt8)} (hids : ∀ x ∈ ids, x.length = 20) (hb : Blk w g (ids.flatMap idc) 23) : IdsIn w (some ⟨g, 0, none⟩) ids :=
  fun k hk => ⟨g, 0, rfl, fun j v hv => idsIn_of_blk hids hb k hk j v hv⟩

/-- The way on which the law asks: what was copied lies in a block of the call's own. -/
def Good (w : World) (e : Ending) (w' : World) : Prop := e = .returned (.bool true) ∧ Below w.heap.size w w'

set_option maxHeartbeats 1000000 in
theorem law4 (a : Option Addr) (ids : List (List UInt8)) (cap : Nat) (i : Int) (w : World) (hids : ∀ x ∈ ids, x.length = 20) (hin : CameIn w a ids) (hm : ids.length ≤ maxLen) :
    Calls Try.prog 4 #[.slice a ids.length cap, .int .i64 i] w fun e w' => Good w e w' := by
  have hm' := hm
  unfold maxLen at hm'
  by_cases hgo : ids.length ≤ 32768 ∧ 0 ≤ i ∧ i < ids.length
  · obtain ⟨hle, hi0, hi1⟩ := hgo
    obtain ⟨k, rfl⟩ := Int.eq_ofNat_of_zero_le hi0
    have hk : k < ids.length := by omega
    rcases hin with ⟨_, rfl⟩ | ⟨x, rfl, hcs⟩
    · simp at hk
    obtain ⟨i0, hi, hz0, hz1, hz2⟩ := info_parts info23
    have hneq := neq_nil22
    obtain ⟨r, hr, hrk, hre, hidx⟩ := idx_each hk
    have hkl : (ids[k]).length = 20 := hids _ (List.getElem_mem hk)
    have hrl : (ids[r]).length = 20 := hids _ (List.getElem_mem hr)
    have HX := hide hidx
    have HE := hide hre
    have HC := hide hcs
    clear hidx hre hcs
    have hil : ids.length * 20 ≤ 655360 := by omega
    go_enter Try.func4, Try.ntmps4
    go_wp2_with (first
      | (go_at_call 9; refine (bytes9_any _ _ _ _ _ hm).mono ?_; rintro e w' ⟨⟨bb, rfl⟩, hw⟩; obtain rfl := hw.symm)
      | (at_make; refine wpList_make_full _ rfl _ _ 22 rfl w.heap.size 23 i0 _ 20 Try.underlying22 hi hz0 hz1 _ _ _ _ ids.length rfl rfl rfl rfl (by rw [hz2]; omega) (by unfold maxLen; omega) (by exact Nat.le_refl _) ?_; intro w1 hown hgrow; have hb1 := made23 hown; have hl1 : Below w.heap.size w w1 := (Below.refl _ _).grown hgrow (Nat.le_refl _) (fun k hk => by cases hk); clear hown hgrow)
      | ((with_reducible refine gd_copy ?_); refine wpl_copy rfl rfl Try.underlying22 size23 _ (ids.flatMap idc) hb1 (flat23_length ids hids) (made23_length _) (came_below HC.out hl1) (idc_one ids) ?_; intro w2 hb2 hg2; have hl2 : Below w.heap.size w w2 := hl1.grown hg2 hl1.size (fun k hk => by cases hk; exact Nat.le_refl _); have hi2 := idsIn_mk hids hb2; have hz2 := hb2.lt; clear hg2 hb1 hl1)
      | (go_at_call 7; refine (newSwarm_any ids hids _ _ _ hi2 hle).mono ?_; rintro e w3 ⟨s, rfl, hs3, hl3⟩; have hb3 := hb2.below hl3 hz2; clear hi2)
      | ((with_reducible refine gd_load 23 (.tmp 37) ?_); refine wpl_load rfl agg23 size23 (ids[k].map cell) (by simp [hkl]) (by exact idsAt hids hb3 k hk) ?_)
      | (go_at_call 6; refine (provIndex_any ids hids _ hkl s _ hs3 hle).mono ?_; rw [HX.out]; rintro e w4 ⟨rfl, hl4⟩))
    · go_ret
      exact ⟨rfl, Below.refl _ _⟩
    · have hb4 := hb3.below hl4 hb3.lt
      have hs4 := hs3.below hl4
      have hz4 := hb4.lt
      have hl04 : Below w.heap.size w w4 := (hl2.trans (hl3.mono hl2.size)).trans (hl4.mono (Nat.le_trans hl2.size hl3.size))
      have hne := ne23
      have hee : (ids[r] == ids[k]) = true := by simp [HE.out]
      refine wp_region_quiet_lit (by kernel_rfl) (by kernel_rfl) ?_
      repeat (first
        | ((with_reducible refine gq_load 23 (.tmp 49) ?_); refine wq_load rfl agg23 size23 (ids[r].map cell) (by simp [hrl]) (fun w ⟨n, hn⟩ => by subst hn; exact idsAt hids hb4 r hr) ?_)
        | ((with_reducible refine gq_load 23 (.tmp 53) ?_); refine wq_load rfl agg23 size23 (ids[k].map cell) (by simp [hkl]) (fun w ⟨n, hn⟩ => by subst hn; exact idsAt hids hb4 k hk) ?_)
        | quiet_step (fail))
      refine wpQuiet_nil ?_
      rintro _ ⟨nq, rfl⟩
      have hs5 : SwarmAt (w4.drewN nq) s ids := hs4
      have HX2 : Hid (idx ids ids[r] = r) := by unfold Hid; rw [HE.out]; exact HX.out
      go_wp2_with (first
        | ((with_reducible refine gd_load 23 (.tmp 59) ?_); refine wpl_load rfl agg23 size23 (ids[r].map cell) (by simp [hrl]) (by exact idsAt hids hb4 r hr) ?_)
        | (go_at_call 6; refine (provIndex_any ids hids _ hrl s _ hs5 hle).mono ?_; rw [HX2.out]; rintro e w5 ⟨rfl, hl5⟩))
      have hd : Below w.heap.size w (w4.drewN nq) := hl04.trans ⟨rfl, rfl, rfl, Nat.le_refl _, fun _ _ => rfl⟩
      go_ret
      exact ⟨by simp, hd.trans (hl5.mono hd.size)⟩
  · have hno : 32768 < ids.length ∨ (ids.length ≤ 32768 ∧ i < 0) ∨ (ids.length ≤ 32768 ∧ 0 ≤ i ∧ (ids.length : Int) ≤ i) := by omega
    clear hgo
    rcases hno with h1 | ⟨h1, h2⟩ | ⟨h1, h2, h3⟩
    all_goals
      go_enter Try.func4, Try.ntmps4
      go_wp2_with (go_at_call 9; refine (bytes9_any _ _ _ _ _ hm).mono ?_; rintro e w' ⟨⟨bb, rfl⟩, hw⟩; obtain rfl := hw.symm)
      all_goals
        go_ret
        exact ⟨rfl, Below.refl _ _⟩
end Go.Proofs.Qxb6612599a
