import Derived.Test.Qxb6612636aFmtBody
namespace Go.Proofs.Qxb6612636aFmt
set_option linter.unusedVariables false
open Go.RowKit Go.Extern.Stop Go.Stop Go.Extern

def RetB (e : Ending) : Prop := ∃ b, e = .returned (.bool b)
def Good (w : World) (e : Ending) (w' : World) : Prop := e = .returned (.bool true) ∧ Below w.heap.size w w'

set_option maxHeartbeats 1000000 in
theorem bytes_any (s : Int) (a b c d e f g : ByteArray) (w : World) (ha : a.size ≤ maxLen) (hb : b.size ≤ maxLen) (hc : c.size ≤ maxLen) (hd : d.size ≤ maxLen) (he : e.size ≤ maxLen) (hf : f.size ≤ maxLen) (hg : g.size ≤ maxLen) :
    Calls Tryf.prog 4 #[.int .i64 s, .string a, .string b, .string c, .string d, .string e, .string f, .string g] w fun r w' => RetB r ∧ w' = w := by
  unfold maxLen at *
  go_enter Tryf.func4, Tryf.ntmps4
  go_wp2
  all_goals
    go_ret
    exact ⟨⟨_, rfl⟩, rfl⟩

theorem said_none (F : Interp) (s : Int) : said F s ⟨#[]⟩ = bif s == 2 then ⟨#[104, 97, 115, 32, 110, 111, 32, 114, 101, 113, 117, 101, 115, 116, 66, 111, 100, 121]⟩ else ⟨#[104, 97, 115, 32, 110, 111, 32, 72, 84, 84, 80, 32, 98, 111, 100, 121]⟩ := by
  have h : (⟨#[]⟩ : ByteArray).toList.isEmpty = true := by rw [ByteArray.toList_eq]; rfl
  unfold said
  rw [h]
  rfl
theorem said_empty (F : Interp) (s : Int) (body : ByteArray) (h : body.toList.isEmpty = true) : said F s body = said F s ⟨#[]⟩ := by
  rw [said_none]; unfold said; rw [h]; rfl

/-- What each call of ZZdescribeBody finds: a new File at the heap's end. -/
theorem file_at {w : World} (p : ByteArray) (s : Int) : (w.alloc (.cells #[.string p, .int .i64 s, .slice none 0 0, .slice none 0 0, .slice none 0 0] 30)).cell? ⟨w.heap.size, 1, none⟩ = some (.int .i64 s) := by
  rw [World.cell?_alloc_at _ _ _ _ rfl]; rfl

set_option maxHeartbeats 4000000 in
theorem law (F : Interp) (s : Int) (a b c d e f g : ByteArray) (w : World) (hF : F.answers w.tape) (ha : a.size ≤ maxLen) (hb : b.size ≤ maxLen) (hc : c.size ≤ maxLen) (hd : d.size ≤ maxLen) (he : e.size ≤ maxLen) (hf : f.size ≤ maxLen) (hg : g.size ≤ maxLen) :
    Calls Tryf.prog 3 #[.int .i64 s, .string a, .string b, .string c, .string d, .string e, .string f, .string g] w fun r w' => Good w r w' := by
  have hby := fun w => bytes_any s a b c d e f g w ha hb hc hd he hf hg
  have HBY := (show Hid (∀ w, Calls Tryf.prog 4 #[.int .i64 s, .string a, .string b, .string c, .string d, .string e, .string f, .string g] w fun r w' => RetB r ∧ w' = w) from hby)
  clear hby
  unfold maxLen at *
  by_cases hall : a.size ≤ 131072 ∧ b.size ≤ 131072 ∧ c.size ≤ 131072 ∧ d.size ≤ 131072 ∧ e.size ≤ 131072 ∧ f.size ≤ 131072 ∧ g.size ≤ 131072
  · obtain ⟨ka, kb, kc, kd, ke, kf, kg⟩ := hall
    go_enter Tryf.func3, Tryf.ntmps3
    go_wp2_with (go_at_call 4; refine (HBY.out _).mono ?_; rintro e w' ⟨⟨bb, rfl⟩, hw⟩; obtain rfl := hw.symm)
    · go_ret
      exact ⟨rfl, Below.refl _ _⟩
    · have hl0 : Below w.heap.size w (w.alloc (.cells #[.string a, .int .i64 s, .slice none 0 0, .slice none 0 0, .slice none 0 0] 30)) := (Below.refl _ _).alloc (Nat.le_refl _) _
      refine (zz_any F w.heap.size s b c d _ (by exact hF) (by exact file_at a s) (by simp)).mono ?_
      rintro r w1 ⟨rfl, hl1⟩
      have hF1 : F.answers w1.tape := by rw [hl1.tape]; exact hF
      have hl01 : Below w.heap.size w w1 := hl0.trans (hl1.mono hl0.size)
      clear hl1 hl0
      go_wp2_with fail
      have hl1 : Below w.heap.size w (w1.alloc (.cells #[.string e, .int .i64 s, .slice none 0 0, .slice none 0 0, .slice none 0 0] 30)) := hl01.alloc hl01.size _
      refine (zz_any F w1.heap.size s f g d _ (by exact hF1) (by exact file_at e s) (by simp)).mono ?_
      rintro r w2 ⟨rfl, hl2⟩
      have hF2 : F.answers w2.tape := by rw [hl2.tape]; exact hF1
      have hl02 : Below w.heap.size w w2 := hl1.trans (hl2.mono hl1.size)
      clear hl1 hl2 hl01
      go_wp2_with fail
      have hl2 : Below w.heap.size w (w2.alloc (.cells #[.string a, .int .i64 s, .slice none 0 0, .slice none 0 0, .slice none 0 0] 30)) := hl02.alloc hl02.size _
      refine (zz_any F w2.heap.size s b c ⟨#[]⟩ _ (by exact hF2) (by exact file_at a s) (by simp)).mono ?_
      rintro r w3 ⟨rfl, hl3⟩
      have hl03 : Below w.heap.size w w3 := hl2.trans (hl3.mono hl2.size)
      clear hl2 hl3 hl02
      have hn := said_none F s
      cases hs : (s == 2) <;> cases hd2 : d.toList.isEmpty
      all_goals
        rw [hs] at hn
        simp only [cond_true, cond_false] at hn
      · go_wp2
        go_ret
        exact ⟨rfl, hl03⟩
      · have hde := (said_empty F s d hd2).trans hn
        go_wp2
        go_ret
        exact ⟨by simp, hl03⟩
      · go_wp2
        go_ret
        exact ⟨rfl, hl03⟩
      · have hde := (said_empty F s d hd2).trans hn
        go_wp2
        go_ret
        exact ⟨by simp, hl03⟩
  · have hno : 131072 < a.size ∨ (a.size ≤ 131072 ∧ 131072 < b.size) ∨ (a.size ≤ 131072 ∧ b.size ≤ 131072 ∧ 131072 < c.size) ∨ (a.size ≤ 131072 ∧ b.size ≤ 131072 ∧ c.size ≤ 131072 ∧ 131072 < d.size) ∨
        (a.size ≤ 131072 ∧ b.size ≤ 131072 ∧ c.size ≤ 131072 ∧ d.size ≤ 131072 ∧ 131072 < e.size) ∨ (a.size ≤ 131072 ∧ b.size ≤ 131072 ∧ c.size ≤ 131072 ∧ d.size ≤ 131072 ∧ e.size ≤ 131072 ∧ 131072 < f.size) ∨
        (a.size ≤ 131072 ∧ b.size ≤ 131072 ∧ c.size ≤ 131072 ∧ d.size ≤ 131072 ∧ e.size ≤ 131072 ∧ f.size ≤ 131072 ∧ 131072 < g.size) := by omega
    clear hall
    rcases hno with h1 | ⟨h1, h2⟩ | ⟨h1, h2, h3⟩ | ⟨h1, h2, h3, h4⟩ | ⟨h1, h2, h3, h4, h5⟩ | ⟨h1, h2, h3, h4, h5, h6⟩ | ⟨h1, h2, h3, h4, h5, h6, h7⟩
    all_goals
      go_enter Tryf.func3, Tryf.ntmps3
      go_wp2_with (go_at_call 4; refine (HBY.out _).mono ?_; rintro e w' ⟨⟨bb, rfl⟩, hw⟩; obtain rfl := hw.symm)
      all_goals
        go_ret
        exact ⟨rfl, Below.refl _ _⟩
end Go.Proofs.Qxb6612636aFmt
