import Derived.Test.Qxb6612636aGuards
import Derived.Test.Qxb6612636aExec
namespace Go.Proofs.Qxb6612636a
set_option linter.unusedVariables false
set_option linter.unusedSimpArgs false
open Go.ChangeShapes Go.WideShapes Go.ChangeAt Go.RowKit

theorem mixed : Try.prog.follows .mixedOrders = true := by kernel_rfl
theorem plain10 : plainFn Try.prog 10 = true := by kernel_rfl
theorem es22 : elemSize Try.prog 22 = some 2 := by kernel_rfl
theorem es24 : elemSize Try.prog 24 = some 1 := by kernel_rfl
theorem fo29_0 : fieldOff Try.prog 29 0 = some 0 := by kernel_rfl
theorem fo29_1 : fieldOff Try.prog 29 1 = some 1 := by kernel_rfl
theorem one9 : oneB Try.prog 9 = true := by kernel_rfl
theorem one4 : oneB Try.prog 4 = true := by kernel_rfl
theorem size27 : (Try.prog.info? 27).map (·.size) = some 1 := by kernel_rfl
theorem info27 : (Try.prog.info? 27).map (fun i => (i.zero, i.size, i.bytes)) = some (some (.pointer none), 1, 8) := by kernel_rfl

/-- A method at block b: its Request is there just where 'has' says so. -/
def MethAt (w : World) (b : Nat) (has : Bool) : Prop := ∃ q, w.cell? ⟨b, 6, none⟩ = some (.pointer q) ∧ q.isSome = has
theorem MethAt.lt {w : World} {b : Nat} {has : Bool} (h : MethAt w b has) : b < w.heap.size := by obtain ⟨q, h, _⟩ := h; exact cell_lt h
theorem MethAt.below {w w' : World} {B b : Nat} {has : Bool} (h : MethAt w b has) (hb : Below B w w') (hlt : b < B) : MethAt w' b has := by
  obtain ⟨q, h, hq⟩ := h; exact ⟨q, (hb.cell (p := ⟨b, 6, none⟩) hlt).trans h, hq⟩

set_option maxHeartbeats 1000000 in
theorem method_any (name : ByteArray) (has : Bool) (w : World) :
    Calls Try.prog 10 #[.string name, .bool has] w fun e w' => e = .returned (.pointer (some ⟨w.heap.size, 0, none⟩)) ∧ MethAt w' w.heap.size has ∧ Below w.heap.size w w' := by
  cases has
  · go_enter Try.func10, Try.ntmps10
    go_wp2
    go_ret
    exact ⟨rfl, ⟨none, by rw [World.cell?_alloc_at _ _ _ _ rfl]; rfl, rfl⟩, (Below.refl _ _).alloc (Nat.le_refl _) _⟩
  · go_enter Try.func10, Try.ntmps10
    go_wp2
    go_ret
    exact ⟨rfl, ⟨some ⟨w.heap.size + 1, 0, none⟩, by rw [World.cell?_alloc_past _ _ _ (by simp), World.cell?_alloc_at _ _ _ _ rfl]; rfl, rfl⟩, ((Below.refl _ _).alloc (Nat.le_refl _) _).alloc (by simp) _⟩

def ptr (b : Nat) : Value := .pointer (some ⟨b, 0, none⟩)
/-- The row of pointers behind some rounds. -/
def ptrRow (ps : List Nat) (n : Nat) : List Value := ps.map ptr ++ List.replicate (n - ps.length) (.pointer none)
theorem ptrRow_length (ps : List Nat) (n : Nat) (h : ps.length ≤ n) : (ptrRow ps n).length = n := by simp [ptrRow]; omega
theorem ptrRow_set (ps : List Nat) (n b : Nat) (h : ps.length < n) : (ptrRow ps n).set ps.length (ptr b) = ptrRow (ps ++ [b]) n := by
  unfold ptrRow
  rw [List.set_append_right _ _ (by simp), show n - ps.length = (n - (ps.length + 1)) + 1 by omega, List.replicate_succ]
  simp
theorem ptrRow_full (ps : List Nat) (n : Nat) (h : ps.length = n) : ptrRow ps n = ps.map ptr := by simp [ptrRow, h]

/-- What zzBuildReq has made: a row of pointers to methods. -/
def Pts (w : World) (g : Nat) (ps : List Nat) (ms : List (ByteArray × Bool)) : Prop :=
  ps.length = ms.length ∧ Blk w g (ps.map ptr) 27 ∧ ∀ k (hk : k < ps.length) (hm : k < ms.length), MethAt w ps[k] ms[k].2
theorem Pts.below {w w' : World} {g : Nat} {ps : List Nat} {ms : List (ByteArray × Bool)} (h : Pts w g ps ms) (hb : Below w.heap.size w w') : Pts w' g ps ms :=
  ⟨h.1, h.2.1.below hb h.2.1.lt, fun k hk hm => (h.2.2 k hk hm).below hb (h.2.2 k hk hm).lt⟩

set_option maxHeartbeats 2000000 in
theorem build_any (a : Option Addr) (ms : List (ByteArray × Bool)) (cap : Nat) (w : World) (hin : MsIn w a ms) (hl : ms.length ≤ 1048576) :
    Calls Try.prog 7 #[.slice a ms.length cap] w fun e w' => e = .returned (.slice (some ⟨w.heap.size, 0, none⟩) ms.length ms.length) ∧ (∃ ps, Pts w' w.heap.size ps ms) ∧ Below w.heap.size w w' := by
  obtain ⟨i0, hi, hz0, hz1, hz2⟩ := info_parts info27
  go_enter Try.func7, Try.ntmps7
  go_wp2_with (at_make; refine wpList_make_full _ rfl _ _ 24 rfl w.heap.size 27 i0 _ 1 Try.underlying24 hi hz0 hz1 _ _ _ _ ms.length rfl rfl rfl rfl (by rw [hz2]; omega) (by unfold maxLen; omega) (Nat.le_refl _) ?_; intro w1 hown hgrow)
  have hb0 : Blk w1 w.heap.size (ptrRow [] ms.length) 27 := by
    have := ownsRow_blk hown
    rw [show (Value.pointer none).cells = #[Value.pointer none] from rfl, Nat.mul_one, toList_madeCells_one] at this
    simpa [ptrRow] using this
  have hl1 : Below w.heap.size w w1 := (Below.refl _ _).grown hgrow (Nat.le_refl _) (fun k hk => by cases hk)
  clear hown hgrow
  go_loopw [4] (fun i wr => ∃ ps : List Nat, ps.length ≤ ms.length ∧ i = .int .i64 ps.length ∧ Blk wr w.heap.size (ptrRow ps ms.length) 27 ∧ Below w.heap.size w wr ∧ (∀ k (hk : k < ps.length) (hm : k < ms.length), MethAt wr ps[k] ms[k].2 ∧ w.heap.size < ps[k]))
    (fun i _ => ms.length - (intOf i).toNat)
  case atStart => exact ⟨[], Nat.zero_le _, rfl, hb0, hl1, fun k hk => by simp at hk⟩
  case round =>
    obtain ⟨ps, hps, rfl, hbk, hbel, hmeth⟩ := hrel
    by_cases hlt : ps.length < ms.length
    · obtain ⟨b, o, rfl, hc1, hc2⟩ := hin ps.length hlt
      have hbl : b < w.heap.size := cell_lt hc1
      have hsz := hbk.lt
      have HM := hide hmeth
      clear hmeth
      go_wp2_with fail
      have hC0 : Below wr.heap.size wr wr.drew := (Below.refl _ _).drew
      have hD0 : Below w.heap.size w wr.drew := hbel.drew
      have hk0 : ∀ w', Below w.heap.size w w' → w'.cell? ⟨b, o + ps.length * 2, none⟩ = some (.string (ms[ps.length]).1) := fun w' hw' => (hw'.cell (p := ⟨b, _, none⟩) hbl).trans hc1
      have hk1 : ∀ w', Below w.heap.size w w' → w'.cell? ⟨b, o + ps.length * 2 + 1, none⟩ = some (.bool (ms[ps.length]).2) := fun w' hw' => (hw'.cell (p := ⟨b, _, none⟩) hbl).trans hc2
      refine region_anyC (fun w' => Below w.heap.size w w') mixed ?_
      refine anyC_take 0 14 (.slice (some ⟨w.heap.size, 0, none⟩) ms.length ms.length) rfl rfl (by kernel_rfl) (by kernel_rfl) (by kernel_rfl) (stays_ok rfl fun _ _ => rfl) #[true, false, false, false, false, false, false, false, false, false, false, false, false, false, false] rfl ?_
      simp only [Act.put, List.setIfInBounds_toArray, List.set_cons_succ, List.set_cons_zero]
      refine anyC_take 1 15 (.int .i64 ps.length) rfl rfl (by kernel_rfl) (by kernel_rfl) (by kernel_rfl) (stays_ok rfl fun _ _ => rfl) #[true, true, false, false, false, false, false, false, false, false, false, false, false, false, false] rfl ?_
      simp only [Act.put, List.setIfInBounds_toArray, List.set_cons_succ, List.set_cons_zero]
      refine anyC_take 2 16 (.slice (some ⟨b, o, none⟩) ms.length cap) rfl rfl (by kernel_rfl) (by kernel_rfl) (by kernel_rfl) (stays_ok rfl fun _ _ => rfl) #[true, true, true, false, false, false, false, false, false, false, false, false, false, false, false] rfl ?_
      simp only [Act.put, List.setIfInBounds_toArray, List.set_cons_succ, List.set_cons_zero]
      refine anyC_take 3 17 (.int .i64 ps.length) rfl rfl (by kernel_rfl) (by kernel_rfl) (by kernel_rfl) (stays_ok rfl fun _ _ => rfl) #[true, true, true, true, false, false, false, false, false, false, false, false, false, false, false] rfl ?_
      simp only [Act.put, List.setIfInBounds_toArray, List.set_cons_succ, List.set_cons_zero]
      refine anyC_take 4 18 (.pointer (some ⟨b, o + ps.length * 2, none⟩)) rfl rfl (by kernel_rfl) (by kernel_rfl) (by kernel_rfl) (stays_ok rfl fun w' _ => exec_index es22 rfl rfl hlt w') #[true, true, true, true, true, false, false, false, false, false, false, false, false, false, false] rfl ?_
      simp only [Act.put, List.setIfInBounds_toArray, List.set_cons_succ, List.set_cons_zero]
      refine anyC_take 5 19 (.pointer (some ⟨b, o + ps.length * 2, none⟩)) rfl rfl (by kernel_rfl) (by kernel_rfl) (by kernel_rfl) (stays_ok rfl fun w' _ => exec_field fo29_0 rfl w') #[true, true, true, true, true, true, false, false, false, false, false, false, false, false, false] rfl ?_
      simp only [Act.put, List.setIfInBounds_toArray, List.set_cons_succ, List.set_cons_zero]
      refine anyC_take 6 20 (.string (ms[ps.length]).1) rfl rfl (by kernel_rfl) (by kernel_rfl) (by kernel_rfl) (stays_ok rfl fun w' hw' => exec_load1 one9 rfl (hk0 w' hw')) #[true, true, true, true, true, true, true, false, false, false, false, false, false, false, false] rfl ?_
      simp only [Act.put, List.setIfInBounds_toArray, List.set_cons_succ, List.set_cons_zero]
      refine anyC_take 7 21 (.slice (some ⟨b, o, none⟩) ms.length cap) rfl rfl (by kernel_rfl) (by kernel_rfl) (by kernel_rfl) (stays_ok rfl fun _ _ => rfl) #[true, true, true, true, true, true, true, true, false, false, false, false, false, false, false] rfl ?_
      simp only [Act.put, List.setIfInBounds_toArray, List.set_cons_succ, List.set_cons_zero]
      refine anyC_take 8 22 (.int .i64 ps.length) rfl rfl (by kernel_rfl) (by kernel_rfl) (by kernel_rfl) (stays_ok rfl fun _ _ => rfl) #[true, true, true, true, true, true, true, true, true, false, false, false, false, false, false] rfl ?_
      simp only [Act.put, List.setIfInBounds_toArray, List.set_cons_succ, List.set_cons_zero]
      refine anyC_take 9 23 (.pointer (some ⟨b, o + ps.length * 2, none⟩)) rfl rfl (by kernel_rfl) (by kernel_rfl) (by kernel_rfl) (stays_ok rfl fun w' _ => exec_index es22 rfl rfl hlt w') #[true, true, true, true, true, true, true, true, true, true, false, false, false, false, false] rfl ?_
      simp only [Act.put, List.setIfInBounds_toArray, List.set_cons_succ, List.set_cons_zero]
      refine anyC_take 10 24 (.pointer (some ⟨b, o + ps.length * 2 + 1, none⟩)) rfl rfl (by kernel_rfl) (by kernel_rfl) (by kernel_rfl) (stays_ok rfl fun w' _ => exec_field fo29_1 rfl w') #[true, true, true, true, true, true, true, true, true, true, true, false, false, false, false] rfl ?_
      simp only [Act.put, List.setIfInBounds_toArray, List.set_cons_succ, List.set_cons_zero]
      refine anyC_take 11 25 (.bool (ms[ps.length]).2) rfl rfl (by kernel_rfl) (by kernel_rfl) (by kernel_rfl) (stays_ok rfl fun w' hw' => exec_load1 one4 rfl (hk1 w' hw')) #[true, true, true, true, true, true, true, true, true, true, true, true, false, false, false] rfl ?_
      simp only [Act.put, List.setIfInBounds_toArray, List.set_cons_succ, List.set_cons_zero]
      refine anyC_only 12 rfl (by kernel_rfl) hD0 rfl #[true, true, true, true, true, true, true, true, true, true, true, true, true, false, false] rfl ?_
      refine wp_call 26 plain10 [.string (ms[ps.length]).1, .bool (ms[ps.length]).2] rfl _ (method_any (ms[ps.length]).1 (ms[ps.length]).2 wr.drew) ?_
      rintro e w2 ⟨rfl, hm2, hl2⟩
      refine ⟨_, rfl, ?_⟩
      simp only [Act.put, List.setIfInBounds_toArray, List.set_cons_succ, List.set_cons_zero]
      have hC2 := hC0.trans (hl2.mono hC0.size)
      have hD2 : Below w.heap.size w w2 := hbel.trans (hC2.mono hbel.size)
      have hb2 := hbk.below hC2 hsz
      refine anyC_take 13 27 (.pointer (some ⟨w.heap.size, 0 + ps.length * 1, none⟩)) rfl rfl (by kernel_rfl) (by kernel_rfl) (by kernel_rfl) (stays_ok rfl fun w' _ => exec_index es24 rfl rfl hlt w') #[true, true, true, true, true, true, true, true, true, true, true, true, true, true, false] rfl ?_
      simp only [Act.put, List.setIfInBounds_toArray, List.set_cons_succ, List.set_cons_zero]
      refine anyC_only 14 rfl (by kernel_rfl) hD2 rfl #[true, true, true, true, true, true, true, true, true, true, true, true, true, true, true] rfl ?_
      refine wp_store1 size27 rfl rfl rfl rfl hb2 (by rw [ptrRow_length _ _ hps]; omega) ?_
      intro w3 hb3 hg3
      rw [Nat.zero_add, Nat.mul_one] at hb3
      have hb4 : Blk w3 w.heap.size (ptrRow (ps ++ [wr.heap.size]) ms.length) 27 := by rw [← ptrRow_set ps ms.length wr.heap.size hlt]; exact hb3
      have hl03 : Below w.heap.size w w3 := (hbel.trans (hC2.mono hbel.size)).grown hg3 (by have := hbel.size; have := hC2.size; omega) (fun k hk => by cases hk; exact Nat.le_refl _)
      have hsz3 := hC2.size
      have HM3 : Hid (∀ k (hk : k < (ps ++ [wr.heap.size]).length) (hm : k < ms.length), MethAt w3 (ps ++ [wr.heap.size])[k] ms[k].2 ∧ w.heap.size < (ps ++ [wr.heap.size])[k]) := by
        intro k hk hm
        have carry : ∀ (x : Nat) (h : Bool), w.heap.size < x → MethAt w2 x h → MethAt w3 x h := fun x h hx hh => by
          obtain ⟨q, hq, hqs⟩ := hh
          exact ⟨q, hg3.cell hq (by simp; omega), hqs⟩
        by_cases hkl : k < ps.length
        · have := unhide HM k hkl hm
          simp only [List.getElem_append_left hkl]
          exact ⟨carry _ _ this.2 (this.1.below hC2 this.1.lt), this.2⟩
        · have hke : k = ps.length := by simp at hk; omega
          subst hke
          simp only [List.getElem_concat_length]
          exact ⟨carry _ _ hsz hm2, hsz⟩
      clear hb2 hb3 hg3 hm2 hl2 hk0 hk1 HM hbk hC0 hC2 hD0 hD2 hbel
      refine anyC_done (by kernel_rfl) hl03 ?_
      simp only [Act.put, List.setIfInBounds_toArray, List.set_cons_succ, List.set_cons_zero]
      go_wp2
      go_roundw
      case rel => exact ⟨ps ++ [wr.heap.size], by rw [List.length_append]; exact hlt, by simp, hb4, hl03, HM3.out⟩
      case measure => simp [intOf]; omega
    · have hke : ps.length = ms.length := by omega
      have HR : Hid (∃ ps, Pts wr w.heap.size ps ms) := ⟨ps, hke, by rw [← ptrRow_full ps _ hke]; exact hbk, fun k hk hm => (hmeth k hk hm).1⟩
      clear hke hmeth hbk
      go_wp2
      go_ret
      exact ⟨rfl, HR.out, hbel⟩
end Go.Proofs.Qxb6612636a
