/-
  A string literal over a plain body: where it ends and how many errors it counts. No conditions.
-/
import Derived.Test.YtioikpfebdnndaaFmtSeb114
import Derived.Test.YtioikpfebdnndaaFmtStrG
namespace Go.Proofs.YtioikpfebdnndaaFmt
open Go.RowKit
set_option maxRecDepth 100000
set_option linter.unusedVariables false

theorem seb_asc {l : List UInt8} {i n : Nat} (h : SebR l i n) : ∀ j, i ≤ j → j < l.length → 32 ≤ bt l j ∧ bt l j ≤ 126 := by
  induction h with
  | done => intro j h1 h2; omega
  | @esc i n h92 h1 h2 h3 h4 hr ih =>
    intro j j1 j2
    by_cases e1 : j = i
    · rw [e1, h92]
      omega
    by_cases e2 : j = i + 1
    · rw [e2]
      omega
    exact ih j (by omega) j2
  | @plain i n h1 h2 h3 h4 h5 hr ih =>
    intro j j1 j2
    by_cases e1 : j = i
    · rw [e1]
      omega
    exact ih j (by omega) j2
/-- the state behind a string whose body reads so -/
theorem str_plain {src l : List UInt8} (hl : src.length = l.length + 2) (hs : ∀ i, i < l.length → bt src (i + 1) = bt l i) (hq : bt src (l.length + 1) = 34) (ha : ∀ i, i < src.length → 0 < bt src i ∧ bt src i < 128) {i n : Nat} (h : SebR l i n) :
    ∀ {s t : St} {b : Bool}, Good src s → s.off = i + 1 → StrR src s t b → b = true ∧ t.off = src.length ∧ t.ec = s.ec + n ∧ t.ch = -1 := by
  have hnx : ∀ {s : St}, Good src s → s.off < src.length → s.ch = (bt src s.off : Int) ∧ (nx src s).off = s.off + 1 ∧ Good src (nx src s) ∧ (nx src s).ec = s.ec := by
    intro s hg hlt
    obtain ⟨n1, n2, n3, n4, n5⟩ := nx_ascii hg hlt (ha _ hlt).2
    refine ⟨n1, n2, n3, ?_⟩
    by_cases hh : s.off + 1 < src.length
    · have := ha _ hh
      rw [n4 hh this.2, if_neg (by omega)]
      rfl
    · exact n5 hh
  induction h with
  | done =>
    intro s t b hg ho hr
    obtain ⟨n1, n2, n3, n4⟩ := hnx hg (by omega)
    rw [ho, hq] at n1
    cases hr with
    | stop h => omega
    | shut h =>
      refine ⟨rfl, by omega, by omega, ?_⟩
      rcases n3 with ⟨g1, g2, g3⟩ | ⟨g1, g2, g3⟩
      · omega
      · exact g3
    | plain a1 a2 a3 a4 ar => omega
    | esc a1 ar1 ar2 => omega
  | @esc i n h92 h1 h2 h3 h4 hrr ih =>
    intro s t b hg ho hr
    obtain ⟨n1, n2, n3, n4⟩ := hnx hg (by omega)
    rw [ho, hs i (by omega), h92] at n1
    cases hr with
    | stop h => omega
    | shut h => omega
    | plain a1 a2 a3 a4 ar => omega
    | @esc _ u _ ok _ a1 ar1 ar2 =>
      obtain ⟨m1, m2, m3, m4⟩ := hnx n3 (by omega)
      rw [n2, ho, hs (i + 1) h1] at m1
      cases ar1 with
      | simple hsm =>
        rw [m1] at hsm
        rw [hsm, if_pos rfl]
        have := ih m3 (by omega) (show StrR src (nx src (nx src s)) t b from ar2)
        refine ⟨this.1, this.2.1, ?_, this.2.2.2⟩
        have := this.2.2.1
        omega
      | num hsm hN hl2 =>
        have hk := escN_kind hN
        rw [m1] at hk
        unfold numEsc at h4
        omega
      | bad hsm hN =>
        rw [m1] at hsm
        rw [hsm, if_neg (by decide)]
        have hsm2 := of_decide_eq_false hsm
        have ar3 : StrR src (err (nx src s)) t b := ar2
        have e1 : (err (nx src s)).ch = (nx src s).ch := rfl
        cases ar3 with
        | stop h => rw [e1] at h; omega
        | shut h => rw [e1] at h; omega
        | plain b1 b2 b3 b4 br =>
          have hge : Good src (err (nx src s)) := err_good n3
          obtain ⟨p1, p2, p3, p4⟩ := hnx hge (show (nx src s).off < src.length by omega)
          have e2 : (err (nx src s)).off = (nx src s).off := rfl
          have e3 : (err (nx src s)).ec = (nx src s).ec + 1 := rfl
          have := ih p3 (by omega) br
          refine ⟨this.1, this.2.1, ?_, this.2.2.2⟩
          have := this.2.2.1
          omega
        | esc b1 br1 br2 => rw [e1] at b1; omega
  | @plain i n h1 h2 h3 h4 h5 hrr ih =>
    intro s t b hg ho hr
    obtain ⟨n1, n2, n3, n4⟩ := hnx hg (by omega)
    rw [ho, hs i h1] at n1
    cases hr with
    | stop h => omega
    | shut h => omega
    | plain a1 a2 a3 a4 ar =>
      have := ih n3 (by omega) ar
      refine ⟨this.1, this.2.1, ?_, this.2.2.2⟩
      have := this.2.2.1
      omega
    | esc a1 ar1 ar2 => omega
end Go.Proofs.YtioikpfebdnndaaFmt
