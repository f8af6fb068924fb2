/-
  The walks: fmt.Errorf at this call (9), countParam (7), ZZcountParam (5), the guard (4), the law (3).
-/
import Derived.Test.Qxb6602063aFmtWk
namespace Go.Proofs.Qxb6602063aFmt
open Go.RowKit Go.Extern.Stop Go.Stop Go.Extern
attribute [local go_sem] Tryf.call12 Tryf.guard Tryf.fmt0 Tryf.fmt0r Tryf.fmt1 Tryf.op9_113w Tryf.op9_115w Tryf.strict9 Tryf.ptr43 Tryf.elem43 Tryf.isError43

/-- fmt.Errorf with this format and three strings: an error that is not nil; nothing old has turned. -/
theorem errorf_walk (F : Interp) (a b c : ByteArray) (blk : Nat) (w : World) (hF : F.answers w.tape)
    (hc0 : w.cell? ⟨blk, 0, none⟩ = some (.iface 9 (.string a))) (hc1 : w.cell? ⟨blk, 1, none⟩ = some (.iface 9 (.string b))) (hc2 : w.cell? ⟨blk, 2, none⟩ = some (.iface 9 (.string c))) :
    Calls Tryf.prog 9 #[.string ⟨#[100, 105, 97, 108, 51, 58, 32, 108, 105, 109, 105, 116, 32, 37, 113, 58, 32, 37, 115, 32, 110, 101, 101, 100, 115, 32, 37, 115, 32, 97, 32, 119, 104, 111, 108, 101, 32, 110, 117, 109, 98, 101, 114, 44, 32, 97, 116, 32, 108, 101, 97, 115, 116, 32, 49]⟩, .slice (some ⟨blk, 0, none⟩) 3 3] w fun e w' =>
      (∃ N, e = .returned (.iface 43 (.pointer (some ⟨N, 0, none⟩)))) ∧ Below w.heap.size w w' := by
  have hF' := hF
  unfold Interp.answers at hF'
  go_enter Tryf.func9, Tryf.ntmps9
  go_wp2
  go_ret
  exact ⟨⟨_, rfl⟩, ((Below.refl _ _).alloc (Nat.le_refl _) _).drew⟩

/-- The parameter is taken: its value and nil. -/
def countRet (e : Ending) (l : List UInt8) : Prop :=
  match whole l with
  | some v => e = .returned (.tuple #[.int .i64 v, .nilIface])
  | none => ∃ N, e = .returned (.tuple #[.int .i64 0, .iface 43 (.pointer (some ⟨N, 0, none⟩))])

theorem countRet_some {l : List UInt8} {v : Nat} (h : whole l = some v) : countRet (.returned (.tuple #[.int .i64 v, .nilIface])) l := by
  unfold countRet; rw [h]
theorem countRet_none {l : List UInt8} (h : whole l = none) (N : Nat) : countRet (.returned (.tuple #[.int .i64 0, .iface 43 (.pointer (some ⟨N, 0, none⟩))])) l := by
  unfold countRet; rw [h]; exact ⟨N, rfl⟩

set_option maxHeartbeats 1000000 in
theorem count_walk (F : Interp) (name form letter s : ByteArray) (t0 t1 : TypeId) (p0 p1 : Value) (w : World) (hF : F.answers w.tape) (hs : s.size ≤ 281474976710656)
    (hv0 : w.var? Tryf.prog "strconv.ErrSyntax" = some #[.iface t0 p0]) (hv1 : w.var? Tryf.prog "strconv.ErrRange" = some #[.iface t1 p1]) :
    Calls Tryf.prog 7 #[.string name, .string form, .string letter, .string s] w fun e w' => countRet e s.data.toList ∧ Below w.heap.size w w' := by
  have HF : Hid (F.answers w.tape) := hF
  have HP : Hid (Calls Tryf.prog 8 #[.string s, .int .i64 10, .int .i64 64] w fun e w' => Below w.heap.size w w' ∧
      ((∃ v, Lib.parseIntB 64 s.data.toList = .ok v ∧ e = .returned (.tuple #[.int .i64 v, .nilIface])) ∨
       ((∀ v, Lib.parseIntB 64 s.data.toList ≠ .ok v) ∧ ∃ n N, e = .returned (.tuple #[.int .i64 n, .iface 40 (.pointer (some ⟨N, 0, none⟩))])))) := Tryf.parseInt s hs t0 t1 p0 p1 w hv0 hv1
  clear hF hv0 hv1
  go_enter Tryf.func7, Tryf.ntmps7
  go_wp2_with fail
  refine HP.out.mono ?_
  clear HP
  rintro e w1 ⟨hb, ⟨v, hv, rfl⟩ | ⟨hno, n, N, rfl⟩⟩
  · have HB : Hid (Below w.heap.size w w1) := hb
    have HV : Hid (Lib.parseIntB 64 s.data.toList = .ok v) := hv
    clear hb hv
    by_cases h1 : v < 1
    · have HN : Hid (whole s.data.toList = none) := by
        show _ = _
        cases hw : whole s.data.toList with
        | none => rfl
        | some u =>
          have h2 := whole_some hw
          have h3 := h2.1.symm.trans HV.out
          have h4 : (u : Int) = v := by cases h3; rfl
          omega
      have HT : Hid (F.answers w1.tape) := by show F.answers _; rw [HB.out.tape]; exact HF.out
      go_wp2_with fail
      refine (errorf_walk F name form letter _ _ (by exact HT.out) (by rw [World.cell?_alloc_at (hn := by simp)]; rfl) (by rw [World.cell?_alloc_at (hn := by simp)]; rfl) (by rw [World.cell?_alloc_at (hn := by simp)]; rfl)).mono ?_
      rintro e w2 ⟨⟨N, rfl⟩, hb2⟩
      have HB2 : Hid _ := hb2
      clear hb2
      go_wp2
      go_ret2
      refine ⟨?_, ?_⟩
      · exact countRet_none HN.out N
      · exact (HB.out.alloc HB.out.size _).trans (HB2.out.mono (by have := HB.out.size; simp; omega))
    · have HN : Hid (∃ u : Nat, (u : Int) = v ∧ whole s.data.toList = some u) := by
        show Exists _
        cases hw : whole s.data.toList with
        | none => exact absurd (whole_none hw HV.out) h1
        | some u =>
          have h2 := whole_some hw
          have h3 := h2.1.symm.trans HV.out
          exact ⟨u, by cases h3; rfl, rfl⟩
      go_wp2
      go_ret2
      refine ⟨?_, HB.out⟩
      obtain ⟨u, rfl, hu⟩ := HN.out
      exact countRet_some hu
  · have HB : Hid (Below w.heap.size w w1) := hb
    have HN : Hid (whole s.data.toList = none) := by
      show _ = _
      cases hw : whole s.data.toList with
      | none => rfl
      | some u => exact absurd (whole_some hw).1 (hno _)
    clear hb hno
    have HT : Hid (F.answers w1.tape) := by show F.answers _; rw [HB.out.tape]; exact HF.out
    go_wp2_with fail
    refine (errorf_walk F name form letter _ _ (by exact HT.out) (by rw [World.cell?_alloc_at (hn := by simp)]; rfl) (by rw [World.cell?_alloc_at (hn := by simp)]; rfl) (by rw [World.cell?_alloc_at (hn := by simp)]; rfl)).mono ?_
    rintro e w2 ⟨⟨N, rfl⟩, hb2⟩
    have HB2 : Hid _ := hb2
    clear hb2
    go_wp2
    go_ret2
    refine ⟨?_, ?_⟩
    · exact countRet_none HN.out N
    · exact (HB.out.alloc HB.out.size _).trans (HB2.out.mono (by have := HB.out.size; simp; omega))

/-- The guard on the sizes answers some bool, and turns nothing. -/
theorem bytes_walk (name form letter s : ByteArray) (w : World) (h0 : name.size ≤ maxLen) (h1 : form.size ≤ maxLen) (h2 : letter.size ≤ maxLen) (h3 : s.size ≤ maxLen) :
    Calls Tryf.prog 4 #[.string name, .string form, .string letter, .string s] w fun e w' => ∃ b : Bool, e = .returned (.bool b) ∧ w' = w := by
  unfold maxLen at h0 h1 h2 h3
  go_enter Tryf.func4, Tryf.ntmps4
  go_wp2
  all_goals (go_ret; exact ⟨_, rfl, rfl⟩)

theorem zz_walk (F : Interp) (name form letter s : ByteArray) (t0 t1 : TypeId) (p0 p1 : Value) (w : World) (hF : F.answers w.tape) (hs : s.size ≤ 281474976710656)
    (hv0 : w.var? Tryf.prog "strconv.ErrSyntax" = some #[.iface t0 p0]) (hv1 : w.var? Tryf.prog "strconv.ErrRange" = some #[.iface t1 p1]) :
    Calls Tryf.prog 5 #[.string name, .string form, .string letter, .string s] w fun e w' => countRet e s.data.toList ∧ Below w.heap.size w w' := by
  have HC : Hid (Calls Tryf.prog 7 #[.string name, .string form, .string letter, .string s] w fun e w' => countRet e s.data.toList ∧ Below w.heap.size w w') :=
    count_walk F name form letter s t0 t1 p0 p1 w hF hs hv0 hv1
  clear hF hv0 hv1
  go_enter Tryf.func5, Tryf.ntmps5
  go_wp2_with fail
  refine HC.out.mono ?_
  clear HC
  rintro e w1 ⟨hc, hb⟩
  have HB : Hid (Below w.heap.size w w1) := hb
  have HC : Hid (countRet e s.data.toList) := hc
  clear hb hc
  cases hw : whole s.data.toList with
  | some v =>
    have he : e = .returned (.tuple #[.int .i64 v, .nilIface]) := by have := HC.out; unfold countRet at this; rw [hw] at this; exact this
    have HW : Hid (whole s.data.toList = some v) := hw
    clear hw HC
    subst he
    go_wp2
    go_ret2
    exact ⟨countRet_some HW.out, HB.out⟩
  | none =>
    obtain ⟨N, he⟩ : ∃ N, e = .returned (.tuple #[.int .i64 0, .iface 43 (.pointer (some ⟨N, 0, none⟩))]) := by have := HC.out; unfold countRet at this; rw [hw] at this; exact this
    have HW : Hid (whole s.data.toList = none) := hw
    clear hw HC
    subst he
    go_wp2
    go_ret2
    exact ⟨countRet_none HW.out N, HB.out⟩

/-- ████ THE LAW's WALK. -/
theorem law_walk (F : Interp) (name form letter s : ByteArray) (t0 t1 : TypeId) (p0 p1 : Value) (w : World) (hF : F.answers w.tape)
    (h0 : name.size ≤ maxLen) (h1 : form.size ≤ maxLen) (h2 : letter.size ≤ maxLen) (h3 : s.size ≤ maxLen)
    (hv0 : w.var? Tryf.prog "strconv.ErrSyntax" = some #[.iface t0 p0]) (hv1 : w.var? Tryf.prog "strconv.ErrRange" = some #[.iface t1 p1]) :
    Calls Tryf.prog 3 #[.string name, .string form, .string letter, .string s] w fun e w' => e = .returned (.bool true) ∧ Below w.heap.size w w' := by
  have HZ : Hid (s.size ≤ 281474976710656 → Calls Tryf.prog 5 #[.string name, .string form, .string letter, .string s] w fun e w' => countRet e s.data.toList ∧ Below w.heap.size w w') :=
    fun hs => zz_walk F name form letter s t0 t1 p0 p1 w hF hs hv0 hv1
  have HG : Hid (Calls Tryf.prog 4 #[.string name, .string form, .string letter, .string s] w fun e w' => ∃ b : Bool, e = .returned (.bool b) ∧ w' = w) := bytes_walk name form letter s w h0 h1 h2 h3
  clear hF hv0 hv1
  unfold maxLen at h0 h1 h2 h3
  go_enter Tryf.func3, Tryf.ntmps3
  go_wp2_with fail
  refine HG.out.mono ?_
  clear HG
  rintro e w1 ⟨b, rfl, hw1⟩
  subst w1
  cases b
  · go_wp2
    go_ret
    exact ⟨rfl, Below.refl _ _⟩
  · go_wp2_with fail
    all_goals try (go_ret; exact ⟨rfl, Below.refl _ _⟩)
    have hs : s.size ≤ 281474976710656 := by omega
    refine (HZ.out hs).mono ?_
    clear HZ
    rintro e w1 ⟨hc, hb⟩
    have HB : Hid (Below w.heap.size w w1) := hb
    have HC : Hid (countRet e s.data.toList) := hc
    clear hb hc
    cases hw : whole s.data.toList with
    | some v =>
      have he : e = .returned (.tuple #[.int .i64 v, .nilIface]) := by have := HC.out; unfold countRet at this; rw [hw] at this; exact this
      have HW : Hid (Calls Tryf.prog 6 #[.string s] w1 fun e w' => e = .returned (.tuple #[.int .i64 v, .bool true]) ∧ w' = w1) := by
        have := whole_walk s w1 hs; rw [hw] at this; exact this
      clear hw HC
      subst he
      go_wp2_with fail
      refine HW.out.mono ?_
      clear HW
      rintro e w2 ⟨rfl, hw2⟩
      subst w2
      go_wp2
      go_ret
      exact ⟨rfl, HB.out⟩
    | none =>
      obtain ⟨N, he⟩ : ∃ N, e = .returned (.tuple #[.int .i64 0, .iface 43 (.pointer (some ⟨N, 0, none⟩))]) := by have := HC.out; unfold countRet at this; rw [hw] at this; exact this
      have HW : Hid (Calls Tryf.prog 6 #[.string s] w1 fun e w' => e = .returned (.tuple #[.int .i64 0, .bool false]) ∧ w' = w1) := by
        have := whole_walk s w1 hs; rw [hw] at this; exact this
      clear hw HC
      subst he
      go_wp2_with fail
      refine HW.out.mono ?_
      clear HW
      rintro e w2 ⟨rfl, hw2⟩
      subst w2
      go_wp2
      go_ret
      exact ⟨rfl, HB.out⟩
end Go.Proofs.Qxb6602063aFmt
