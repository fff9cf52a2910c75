/-
  Plain facts on the scanner's steps, slices of the source, the error step. Conditions: as stated.
-/
import Derived.Test.YtkhekeepadeldaaFmtNewScan
import Derived.Laws.IdiomStrings
namespace Go.Proofs.YtkhekeepadeldaaFmt
open Go.RowKit
set_option maxRecDepth 100000
set_option linter.unusedVariables false

theorem nx_ascii {src : List UInt8} {s : St} (hg : Good src s) (hlt : s.off < src.length) (ha : bt src s.off < 128) :
    s.ch = (bt src s.off : Int) ∧ (nx src s).off = s.off + 1 ∧ Good src (nx src s) ∧ (s.off + 1 < src.length → bt src (s.off + 1) < 128 → (nx src s).ec = s.ec + (if bt src (s.off + 1) = 0 then 1 else 0)) ∧ (¬ s.off + 1 < src.length → (nx src s).ec = s.ec) := by
  rcases hg with ⟨h1, h2, h3⟩ | ⟨h1, h2, h3⟩
  · have hw := (rn_facts src s.off h1).2.2.2.2.2 ha
    rw [hw] at h2 h3
    have hr : s.rd = s.off + 1 := h2
    refine ⟨h3, ?_, nx_good src s (by omega), fun hl hb => ?_, fun hl => ?_⟩
    · unfold nx
      split
      · exact hr
      · show src.length = s.off + 1
        omega
    · have hw2 := (rn_facts src (s.off + 1) hl).2.2.2.2.2 hb
      unfold nx
      rw [if_pos (by omega)]
      show s.ec + (if badc src s.rd = true then 1 else 0) = _
      rw [hr]
      unfold badc
      rw [hw2]
      by_cases hz : bt src (s.off + 1) = 0
      · simp [hz]
      · have : ¬ (bt src (s.off + 1) = 65533) := by omega
        have : ¬ (bt src (s.off + 1) = 65279) := by omega
        simp [*]
    · unfold nx
      rw [if_neg (by omega)]
      rfl
  · omega
theorem stNew_ascii (src : List UInt8) (hn : 0 < src.length) (ha : bt src 0 < 128) : (stNew src 0).off = 0 ∧ (stNew src 0).ec ≤ 1 := by
  have hw := (rn_facts src 0 hn).2.2.2.2.2 ha
  have hr : (st0 0).rd < src.length := hn
  have e : nx src (st0 0) = { nl src.length (st0 0).rd (st0 0) with off := (st0 0).rd, rd := (st0 0).rd + (rn src (st0 0).rd).2, ch := ((rn src (st0 0).rd).1 : Int), ec := (st0 0).ec + (if badc src (st0 0).rd then 1 else 0) } := by
    unfold nx
    rw [if_pos hr]
  have hch : (nx src (st0 0)).ch = (bt src 0 : Int) := by
    rw [e]
    show ((rn src 0).1 : Int) = _
    rw [hw]
  have es : stNew src 0 = nx src (st0 0) := by
    unfold stNew
    rw [if_neg (by rw [hch]; omega)]
  rw [es, e]
  refine ⟨rfl, ?_⟩
  show 0 + (if badc src (st0 0).rd = true then 1 else 0) ≤ 1
  split <;> omega

/-- the bytes from j to k -/
def cut (src : List UInt8) (j k : Nat) : List UInt8 := (src.drop j).take (k - j)
theorem cut_len (src : List UInt8) (j k : Nat) (hk : k ≤ src.length) : (cut src j k).length = k - j := by
  unfold cut
  simp
  omega
theorem run_cut (src : List UInt8) (j k b o cap : Nat) (W : World) (hjk : j ≤ k) (hk : k ≤ src.length) (hc : ∀ i (h : i < src.length), W.cell? ⟨b, o + i, none⟩ = some (.int .u8 (src[i].toNat : Int))) :
    (convert 22 9 (.slice (some ⟨b, o + j, none⟩) (k - j) cap)).run Tryf.prog W = .ok (.string ⟨(cut src j k).toArray⟩) W := by
  have e := cut_len src j k hk
  rw [← e]
  refine run_convert_bytes_back W _ _ 5 ⟨b, o + j, none⟩ _ (cut src j k) Tryf.underlying22 Tryf.underlying5 Tryf.underlying9 (fun i hi => ?_)
  have ea : (⟨b, o + j, none⟩ : Addr).add i = ⟨b, o + (j + i), none⟩ := by unfold Addr.add; split <;> simp_all [Nat.add_assoc]
  rw [ea, hc (j + i) (by omega)]
  have ee : (cut src j k)[i] = src[j + i]'(by omega) := by simp [cut]
  rw [ee]

theorem el_u8 : Tryf.prog.elem 22 = 5 := by kernel_rfl
theorem run_sl (W : World) (b o n cap j k : Nat) (hjk : j ≤ k) (hk : k ≤ cap) (hne : ¬ cap = j) : (Instr.slice 22 (.slice (some ⟨b, o, none⟩) n cap) (some (.int .i64 (j : Int))) (some (.int .i64 (k : Int))) none).run Tryf.prog W = .ok (.slice (some ⟨b, o + j, none⟩) (k - j) (cap - j)) W := by
  rw [run_slice_lh W 22 _ n cap (by rw [el_u8]; exact Tryf.underlying22) .i64 .i64 _ _ (by omega) (by omega) (by omega), el_u8]
  have hs : (sizeOf 5).run Tryf.prog W = .ok 1 W := by kernel_rfl
  rw [hs]
  simp [Result.andThen, sliced, Addr.add]
  rw [if_neg hne]
  split
  · simp [*]
  · rfl
theorem run_slA (W : World) (b o n cap j k : Nat) (hjk : j ≤ k) (hk : k ≤ cap) (hne : ¬ cap = j) : (Instr.sliceAt 22 (.slice (some ⟨b, o, none⟩) n cap) (some (.int .i64 (j : Int))) (some (.int .i64 (k : Int))) none).run Tryf.prog W = .ok (.slice (some ⟨b, o + j, none⟩) (k - j) (cap - j)) W := by
  rw [run_sliceAt_slice W _ _ _ _ _ (by rw [el_u8]; exact Tryf.underlying22)]
  exact run_sl W b o n cap j k hjk hk hne

theorem decodeN_cont (n b0 b1 b2 b3 : Nat) : (1 < (Lib.decodeN n b0 b1 b2 b3).2 → 128 ≤ b1) ∧ (2 < (Lib.decodeN n b0 b1 b2 b3).2 → 128 ≤ b2) ∧ (3 < (Lib.decodeN n b0 b1 b2 b3).2 → 128 ≤ b3) := by
  unfold Lib.decodeN
  repeat' split
  all_goals refine ⟨?_, ?_, ?_⟩
  all_goals intro h
  all_goals first | omega | (exfalso; simp at h; done) | (exfalso; simp at h; omega)
/-- the later bytes of a rune are no ASCII -/
theorem rn_cont (src : List UInt8) (i : Nat) (h : i < src.length) (k : Nat) (h1 : i < k) (h2 : k < i + (rn src i).2) : 128 ≤ bt src k := by
  have hc := decodeN_cont (src.length - i) (bt src i) (bt src (i + 1)) (bt src (i + 2)) (bt src (i + 3))
  have hf := (rn_facts src i h).2.1
  unfold rn at h2 hf
  obtain ⟨d, rfl⟩ : ∃ d, k = i + d := ⟨k - i, by omega⟩
  rcases d with _ | _ | _ | _ | d
  · omega
  · exact hc.1 (by omega)
  · exact hc.2.1 (by omega)
  · exact hc.2.2 (by omega)
  · omega

/-- one step of next, as the comment loops see it -/
structure Step (src : List UInt8) (t : St) : Prop where
  lt : t.off < src.length
  far : t.off < (nx src t).off
  good : Good src (nx src t)
  rest : ∀ i, t.off < i → i < (nx src t).off → 128 ≤ bt src i
  one : bt src t.off < 128 → (nx src t).off = t.off + 1
  ec : (nx src t).ec ≤ t.ec + 1
theorem step_of {src : List UInt8} {t : St} (hg : Good src t) (hc : 0 ≤ t.ch) : Step src t := by
  rcases hg with ⟨h1, h2, h3⟩ | ⟨h1, h2, h3⟩
  · have f := rn_facts src t.off h1
    have ho : (nx src t).off = t.rd := by
      unfold nx
      split
      · rfl
      · show src.length = t.rd
        omega
    refine ⟨h1, by omega, nx_good src t (by omega), fun i i1 i2 => rn_cont src t.off h1 i i1 (by omega), fun hb => ?_, ?_⟩
    · have hw := f.2.2.2.2.2 hb
      rw [ho, h2, hw]
    · unfold nx
      split
      · show t.ec + (if badc src t.rd = true then 1 else 0) ≤ t.ec + 1
        split <;> omega
      · show t.ec ≤ t.ec + 1
        omega
  · omega
def err (s : St) : St := { s with ec := s.ec + 1 }
theorem err_good {src : List UInt8} {s : St} (h : Good src s) : Good src (err s) := h
def ErrPost (F : Fix) (src : List UInt8) (s : St) (w : World) (e : Ending) (w' : World) : Prop := e = .returned (.tuple #[]) ∧ SC F src s w' ∧ Below F.B w w'
theorem err_any (F : Fix) (src : List UInt8) (s : St) (o : Int) (msg : ByteArray) (w : World) (h : SC F src s w) (hec : s.ec ≤ 4611686018427387904) :
    Calls Tryf.prog 26 #[.pointer (some ⟨F.gS, 0, none⟩), .int .i64 o, .string msg] w (ErrPost F src (err s) w) := by
  refine (error_any F.gS _ s.ec w o msg h.blkS rfl rfl hec).mono ?_
  rintro e w' ⟨rfl, rfl⟩
  exact ⟨rfl, h.setEc (s.ec + 1), h.put_below 8 _⟩

/-- a state on the way from s, every step over a rune -/
structure OnWay (src : List UInt8) (s t : St) : Prop where
  good : Good src t
  lo : s.off ≤ t.off
  ec : t.ec + s.off ≤ s.ec + t.off
theorem OnWay.refl {src : List UInt8} {s : St} (h : Good src s) : OnWay src s s := ⟨h, Nat.le_refl _, Nat.le_refl _⟩
theorem OnWay.next {src : List UInt8} {s t : St} (h : OnWay src s t) (hc : 0 ≤ t.ch) : OnWay src s (nx src t) := by
  have st := step_of h.good hc
  have := st.ec
  have := st.far
  exact ⟨st.good, by have := h.lo; omega, by have := h.ec; omega⟩

end Go.Proofs.YtkhekeepadeldaaFmt
