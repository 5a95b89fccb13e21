import Derived.Test.Qxb6612599aIndex
namespace Go.Proofs.Qxb6612599a
open Go.ChangeShapes Go.WideShapes Go.ChangeAt Go.RowKit
open Go.Extern.Stop (cell)

/-- A swarm at block s, whose providers registered with these ids. -/
def SwarmAt (w : World) (s : Nat) (ids : List (List UInt8)) : Prop :=
  ∃ p, w.cell? ⟨s, 11, none⟩ = some (.slice (some ⟨p, 0, none⟩) ids.length ids.length) ∧ p < w.heap.size ∧ ProvIn w p ids
theorem SwarmAt.lt {w : World} {s : Nat} {ids : List (List UInt8)} (h : SwarmAt w s ids) : s < w.heap.size := by
  obtain ⟨p, hc, _⟩ := h; exact cell_lt hc
theorem SwarmAt.below {w w' : World} {s : Nat} {ids : List (List UInt8)} (h : SwarmAt w s ids) (hb : Below w.heap.size w w') : SwarmAt w' s ids := by
  have hs := h.lt
  obtain ⟨p, hc, hp, hpr⟩ := h
  exact ⟨p, (hb.cell (p := ⟨s, 11, none⟩) hs).trans hc, by have := hb.size; omega, hpr.below hb hp⟩

set_option maxHeartbeats 400000 in
theorem provIndex10_any (ids : List (List UInt8)) (hids : ∀ x ∈ ids, x.length = 20) (id : List UInt8) (hid : id.length = 20) (s : Nat) (w : World) (hs : SwarmAt w s ids) (hle : ids.length ≤ 32768) :
    Calls Try.prog 10 #[.pointer (some ⟨s, 0, none⟩), .agg (id.map cell).toArray] w fun e w' => e = .returned (.int .i64 (idx ids id)) ∧ Below w.heap.size w w' := by
  have hbel : Below w.heap.size w (w.alloc (.cells (id.map cell).toArray 23)) := (Below.refl _ _).alloc (Nat.le_refl _) _
  have hs1 := hs.below hbel
  have hslt := hs.lt
  obtain ⟨p, hc, hp, hpr⟩ := hs1
  have hc0 : w.cell? ⟨s, 11, none⟩ = some (.slice (some ⟨p, 0, none⟩) ids.length ids.length) := by rw [← hc]; exact (World.cell?_alloc_past _ _ _ hslt).symm
  clear hc
  have hb1 : IdIn (w.alloc (.cells (id.map cell).toArray 23)) w.heap.size id := fun j v hv => by
    rw [Nat.zero_add, World.cell?_alloc_at _ _ _ _ rfl]; simpa using hv
  go_enter Try.func10, Try.ntmps10
  go_wp2_with (go_at_call 11; refine (indexFunc_any ids hids id hid p _ _ _ hpr hb1 hle).mono ?_; rintro e w1 ⟨rfl, hb2⟩)
  go_ret
  exact ⟨rfl, hbel.trans (hb2.mono hbel.size)⟩

set_option maxHeartbeats 400000 in
theorem provIndex_any (ids : List (List UInt8)) (hids : ∀ x ∈ ids, x.length = 20) (id : List UInt8) (hid : id.length = 20) (s : Nat) (w : World) (hs : SwarmAt w s ids) (hle : ids.length ≤ 32768) :
    Calls Try.prog 6 #[.pointer (some ⟨s, 0, none⟩), .agg (id.map cell).toArray] w fun e w' => e = .returned (.int .i64 (idx ids id)) ∧ Below w.heap.size w w' := by
  have hbel : Below w.heap.size w (w.alloc (.cells (id.map cell).toArray 23)) := (Below.refl _ _).alloc (Nat.le_refl _) _
  have hs1 := hs.below hbel
  have H1 := hide (show ∀ j v, (id.map cell)[j]? = some v → (w.alloc (.cells (id.map cell).toArray 23)).cell? ⟨w.heap.size, 0 + j, none⟩ = some v from fun j v hv => by
    rw [Nat.zero_add, World.cell?_alloc_at _ _ _ _ rfl]; simpa using hv)
  go_enter Try.func6, Try.ntmps6
  go_wp2_with (first
    | ((with_reducible refine gd_load 23 (.tmp 3) ?_); refine wpl_load rfl agg23 size23 (id.map cell) (by simp [hid]) (by exact H1.out) ?_)
    | (go_at_call 10; refine (provIndex10_any ids hids id hid s _ hs1 hle).mono ?_; rintro e w1 ⟨rfl, hb2⟩))
  go_ret
  exact ⟨rfl, hbel.trans (hb2.mono hbel.size)⟩

/-- Ids that lie in memory, from an address on (which an empty list does not look at). -/
def IdsIn (w : World) (a : Option Addr) (ids : List (List UInt8)) : Prop :=
  ∀ k (hk : k < ids.length), ∃ b o, a = some ⟨b, o, none⟩ ∧ ∀ j v, (ids[k].map cell)[j]? = some v → w.cell? ⟨b, o + k * 20 + j, none⟩ = some v
theorem IdsIn.below {w w' : World} {a : Option Addr} {ids : List (List UInt8)} (h : IdsIn w a ids) (hb : Below w.heap.size w w') (hids : ∀ x ∈ ids, x.length = 20) : IdsIn w' a ids := by
  intro k hk
  obtain ⟨b, o, ha, hc⟩ := h k hk
  have hl : ids[k].length = 20 := hids _ (List.getElem_mem hk)
  have hlt : b < w.heap.size := cell_lt (hc 0 _ (List.getElem?_eq_getElem (by simp [hl])))
  exact ⟨b, o, ha, fun j v hv => (hb.cell (p := ⟨b, o + k * 20 + j, none⟩) hlt).trans (hc j v hv)⟩

theorem info46 : (Try.prog.info? 46).map (fun i => (i.zero, i.size, i.bytes)) = some (some (.agg (prov (List.replicate 20 0)).toArray), 27, 80) := by kernel_rfl

theorem built46x (a0 a1 a2 a3 a4 a5 a6 a7 a8 a9 a10 a11 a12 a13 a14 a15 a16 a17 a18 a19 : UInt8) : Try.prog.built 46 [(0, .agg (([a0, a1, a2, a3, a4, a5, a6, a7, a8, a9, a10, a11, a12, a13, a14, a15, a16, a17, a18, a19] : List UInt8).map cell).toArray)] = some (prov [a0, a1, a2, a3, a4, a5, a6, a7, a8, a9, a10, a11, a12, a13, a14, a15, a16, a17, a18, a19]).toArray := by kernel_rfl
theorem built46 (id : List UInt8) (hid : id.length = 20) : Try.prog.built 46 [(0, .agg (id.map cell).toArray)] = some (prov id).toArray := by
  match id, hid with
  | [a0, a1, a2, a3, a4, a5, a6, a7, a8, a9, a10, a11, a12, a13, a14, a15, a16, a17, a18, a19], _ => exact built46x a0 a1 a2 a3 a4 a5 a6 a7 a8 a9 a10 a11 a12 a13 a14 a15 a16 a17 a18 a19
/-- A swarm's cells. -/
def swarmCells (p n : Nat) : List Value := [.map none, .int .i64 0, .int .i64 0, .int .u64 0, .int .i64 0, .pointer none, .slice none 0 0, .bool false, .int .i64 0, .map none, .map none, .slice (some ⟨p, 0, none⟩) n n, .int .i64 0]
theorem built53 (p n : Nat) : Try.prog.built 53 [(6, .slice (some ⟨p, 0, none⟩) n n)] = some (swarmCells p n).toArray := by kernel_rfl

/-- The row of providers behind k rounds. -/
def rowAt (ids : List (List UInt8)) (k : Nat) : List Value := (ids.take k).flatMap prov ++ (List.replicate (ids.length - k) (List.replicate 20 0)).flatMap prov
theorem prov_one (id : List UInt8) : ∀ v ∈ prov id, v.oneCell' = true := by
  intro v hv
  simp only [prov, List.mem_append, List.mem_map] at hv
  rcases hv with ⟨x, _, rfl⟩ | hv
  · rfl
  · simp [tail7] at hv
    rcases hv with rfl | rfl | rfl | rfl | rfl | rfl | rfl <;> rfl
theorem take_flat (ids : List (List UInt8)) (hids : ∀ x ∈ ids, x.length = 20) (k : Nat) (hk : k ≤ ids.length) : ((ids.take k).flatMap prov).length = k * 27 := by
  rw [flat_length prov 27 _ (fun x hx => prov_length _ (hids x (List.mem_of_mem_take hx)))]; simp [Nat.min_eq_left hk]
theorem repl_flat (n : Nat) : ((List.replicate n (List.replicate 20 (0 : UInt8))).flatMap prov).length = n * 27 := by
  rw [flat_length prov 27 _ (fun x hx => by rw [List.eq_of_mem_replicate hx]; exact prov_length _ (by simp))]; simp
theorem rowAt_length (ids : List (List UInt8)) (hids : ∀ x ∈ ids, x.length = 20) (k : Nat) (hk : k ≤ ids.length) : (rowAt ids k).length = ids.length * 27 := by
  unfold rowAt
  rw [List.length_append, take_flat ids hids k hk, repl_flat, ← Nat.add_mul]; congr 1; omega
theorem rowAt_step (ids : List (List UInt8)) (hids : ∀ x ∈ ids, x.length = 20) (k : Nat) (hk : k < ids.length) :
    (rowAt ids k).take (k * 27) ++ prov ids[k] ++ (rowAt ids k).drop (k * 27 + 27) = rowAt ids (k + 1) := by
  have h1 := take_flat ids hids k (by omega)
  unfold rowAt
  rw [List.take_append_of_le_length (by omega), List.take_of_length_le (by omega), List.drop_append, List.drop_eq_nil_of_le (by omega), h1, List.nil_append,
    show ids.length - k = (ids.length - (k + 1)) + 1 by omega, List.replicate_succ, List.flatMap_cons, show k * 27 + 27 - k * 27 = 27 by omega,
    List.drop_append_of_le_length (by simp [prov, tail7]), List.drop_eq_nil_of_le (by simp [prov, tail7]), List.nil_append,
    List.take_succ_eq_append_getElem hk, List.flatMap_append]
  simp
theorem rowAt_full (ids : List (List UInt8)) : rowAt ids ids.length = ids.flatMap prov := by
  unfold rowAt; simp

set_option maxHeartbeats 1000000 in
theorem newSwarm_any (ids : List (List UInt8)) (hids : ∀ x ∈ ids, x.length = 20) (a : Option Addr) (cap : Nat) (w : World) (hin : IdsIn w a ids) (hle : ids.length ≤ 32768) :
    Calls Try.prog 7 #[.slice a ids.length cap] w fun e w' => ∃ s, e = .returned (.pointer (some ⟨s, 0, none⟩)) ∧ SwarmAt w' s ids ∧ Below w.heap.size w w' := by
  obtain ⟨i0, hi, hz0, hz1, hz2⟩ := info_parts info46
  go_enter Try.func7, Try.ntmps7
  go_wp2_with (at_make; refine wpList_make_full _ rfl _ _ 30 rfl w.heap.size 46 i0 _ 27 Try.underlying30 hi hz0 hz1 _ _ _ _ ids.length rfl rfl rfl rfl (by rw [hz2]; omega) (by unfold maxLen; omega) (Nat.le_refl _) ?_; intro w1 hown hgrow)
  have hb0 : Blk w1 w.heap.size (rowAt ids 0) 46 := by
    have := ownsRow_blk hown
    have e := made_flat (prov (List.replicate 20 0)) (by simp [prov, tail7]) ids.length
    rw [prov_length _ (by simp)] at e
    rw [show (Value.agg (prov (List.replicate 20 0)).toArray).cells = (prov (List.replicate 20 0)).toArray from rfl, e] at this
    have e2 : rowAt ids 0 = (List.replicate ids.length (prov (List.replicate 20 0))).flatMap (fun x => x) := by
      unfold rowAt; simp [List.flatMap_def]
    rw [e2]; exact this
  have hbel1 : Below w.heap.size w w1 := (Below.refl _ _).grown hgrow (Nat.le_refl _) (fun k hk => by cases hk)
  clear hown hgrow
  go_loopw [10] (fun i wr => ∃ k : Nat, k ≤ ids.length ∧ i = .int .i64 k ∧ Blk wr w.heap.size (rowAt ids k) 46 ∧ Below w.heap.size w wr) (fun i _ => ids.length - (intOf i).toNat)
  case atStart => exact ⟨0, Nat.zero_le _, rfl, hb0, hbel1⟩
  case round =>
    obtain ⟨k, hk, rfl, hbk, hbel⟩ := hrel
    by_cases hlt : k < ids.length
    · obtain ⟨b, o, rfl, hcs⟩ := hin k hlt
      have hkl : (ids[k]).length = 20 := hids _ (List.getElem_mem hlt)
      have hbl : b < w.heap.size := cell_lt (hcs 0 _ (List.getElem?_eq_getElem (by simp [hkl])))
      have H1 := hide (show ∀ j v, (ids[k].map cell)[j]? = some v → wr.cell? ⟨b, o + k * 20 + j, none⟩ = some v from fun j v hv => (hbel.cell (p := ⟨b, _, none⟩) hbl).trans (hcs j v hv))
      clear hcs
      go_wp2_with (first
        | ((with_reducible refine gd_load 23 (.tmp 17) ?_); refine wpl_load rfl agg23 size23 (ids[k].map cell) (by simp [hkl]) (by exact H1.out) ?_)
        | ((with_reducible refine gd_build 46 _ ?_); refine wpl_build _ rfl (prov ids[k]) (by exact built46 _ hkl) ?_)
        | ((with_reducible refine gd_store 46 _ _ ?_); refine wpl_store rfl (prov ids[k]) rfl size46 (prov_length _ hkl) _ hbk (by rw [rowAt_length ids hids k hk]; omega) (prov_one _) ?_; intro w2 hb2 hg2))
      go_roundw
      case rel => exact ⟨k + 1, by omega, by go_num, by rw [← rowAt_step ids hids k hlt]; exact hb2, hbel.grown hg2 (by have := hbel.size; omega) (fun j hj => by cases hj; exact Nat.le_refl _)⟩
      case measure => simp [intOf]; omega
    · have hke : k = ids.length := by omega
      have R : SwarmAt (wr.alloc (.cells (swarmCells w.heap.size ids.length).toArray 53)) wr.heap.size ids ∧ Below w.heap.size w (wr.alloc (.cells (swarmCells w.heap.size ids.length).toArray 53)) := by
        have hsz := hbk.lt
        refine ⟨⟨w.heap.size, ?_, by simp; omega, ?_⟩, hbel.alloc hbel.size _⟩
        · rw [World.cell?_alloc_at _ _ _ _ rfl]; rfl
        · intro i hi j v hv
          have hj : j < 27 := by
            have := (List.getElem?_eq_some_iff.1 hv).1
            rwa [prov_length _ (hids _ (List.getElem_mem hi))] at this
          rw [World.cell?_alloc_past _ _ _ hsz, hbk.cell, hke, rowAt_full, piece prov 27 ids (fun x hx => prov_length _ (hids x hx)) i hi j hj]
          exact hv
      have HR := hide R
      clear R hke
      go_wp2_with (first
        | ((with_reducible refine gd_build 53 _ ?_); refine wpl_build _ rfl (swarmCells w.heap.size ids.length) (by exact built53 _ _) ?_)
        | fail)
      go_ret
      exact ⟨_, rfl, HR.out⟩
end Go.Proofs.Qxb6612599a
