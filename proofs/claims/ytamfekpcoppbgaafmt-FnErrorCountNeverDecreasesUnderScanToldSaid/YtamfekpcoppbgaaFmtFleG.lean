/-
  findLineEnd: what it answers and where it leaves the scanner. Conditions: as stated.
-/
import Derived.Test.YtamfekpcoppbgaaFmtSkKG
import Derived.Defers
import Derived.Outline
namespace Go.Proofs.YtamfekpcoppbgaaFmt
open Go.RowKit
set_option maxRecDepth 100000
set_option linter.unusedVariables false

def rst (p : Nat) (s : St) : St := { s with ch := 47, off := p, rd := p + 1 }
set_option maxHeartbeats 2000000 in
theorem fleD_any (F : Fix) (src : List UInt8) (s : St) (p bx : Nat) (u : FrameMode) (w : World) (h : SC F src s w) (hb : Blk w bx 25 #[.pointer (some ⟨F.gS, 0, none⟩)]) (hp : p + 1 ≤ src.length) (hec : s.ec ≤ 4611686018427387904) :
    CallsD Tryf.prog 59 #[.int .i64 (p : Int), .pointer (some ⟨bx, 0, none⟩)] u w fun e u' w' => u' = u ∧ (e = .returned (.tuple #[]) ∧ SC F src (nx src (rst p s)) w' ∧ Below F.B w w') := by
  have hlen := h.len
  have hne : ¬ bx = F.gS := fun e => (hb.tags h.blkS (by decide)) e
  have hne2 : (bx == F.gS) = false := by simpa using hne
  have cb : w.cell? ⟨bx, 0, none⟩ = some (.pointer (some ⟨F.gS, 0, none⟩)) := by rw [hb.cell]; rfl
  have c2 : w.cell? ⟨F.gS, 2, none⟩ = some (.int .i32 s.ch) := by rw [h.blkS.cell]; rfl
  have c3 : w.cell? ⟨F.gS, 3, none⟩ = some (.int .i64 (s.off : Int)) := by rw [h.blkS.cell]; rfl
  have c4 : w.cell? ⟨F.gS, 4, none⟩ = some (.int .i64 (s.rd : Int)) := by rw [h.blkS.cell]; rfl
  have f2 := h.blkS.free 2
  have f3 := h.blkS.free 3
  have f4 := h.blkS.free 4
  have H := Lib.hid (((h.setCh 47 (by omega)).setOff p (by omega)).setRd (p + 1) hp)
  have B := Lib.hid (((h.put_below 2 (.int .i32 47)).trans ((h.setCh 47 (by omega)).put_below 3 (.int .i64 (p : Int)))).trans (((h.setCh 47 (by omega)).setOff p (by omega)).put_below 4 (.int .i64 ((p + 1 : Nat) : Int))))
  simp only [Int.natCast_add, Int.cast_ofNat_Int] at H B
  clear h hb
  go_enter_d Tryf.func59, Tryf.ntmps59
  go_wp2_with (go_at_call 37; refine Hid.out ?_)
  refine Lib.hid ?_
  refine (next_any F src (rst p s) _ (by exact H.out) hec).mono ?_
  rintro e w2 ⟨rfl, hs2, hb2⟩
  have H2 := Lib.hid hs2
  have B2 := Lib.hid (B.out.trans hb2)
  clear hs2 hb2
  go_wp2
  go_end0
  exact ⟨rfl, H2.out, B2.out⟩
/-- what the inner loop finds: 0 a newline, 1 the comment's end, 2 the end of the file -/
inductive BlkN (src : List UInt8) : St → St → Nat → Prop
  | eof {s : St} : s.ch < 0 → BlkN src s s 2
  | nl {s : St} : s.ch = 10 → BlkN src s s 0
  | shut {s : St} : s.ch = 42 → (nx src s).ch = 47 → BlkN src s (nx src (nx src s)) 1
  | step {s u : St} {k : Nat} : 0 ≤ s.ch → s.ch ≠ 10 → ¬ (s.ch = 42 ∧ (nx src s).ch = 47) → BlkN src (nx src s) u k → BlkN src s u k
inductive FleR (src : List UInt8) : St → Bool → St → Prop
  | slash {s : St} : s.ch = 47 → FleR src s true s
  | other {s : St} : s.ch ≠ 47 → s.ch ≠ 42 → FleR src s false s
  | line {s u : St} : s.ch = 42 → BlkN src (nx src s) u 0 → FleR src s true u
  | endT {s u v : St} {k : Nat} : s.ch = 42 → BlkN src (nx src s) u k → k ≠ 0 → SkipR src u v → (v.ch < 0 ∨ v.ch = 10) → FleR src s true v
  | stopF {s u v : St} {k : Nat} : s.ch = 42 → BlkN src (nx src s) u k → k ≠ 0 → SkipR src u v → 0 ≤ v.ch → v.ch ≠ 10 → v.ch ≠ 47 → FleR src s false v
  | more {s u v z : St} {k : Nat} {b : Bool} : s.ch = 42 → BlkN src (nx src s) u k → k ≠ 0 → SkipR src u v → v.ch = 47 → FleR src (nx src v) b z → FleR src s b z
def FlePost (F : Fix) (src : List UInt8) (s : St) (w : World) (e : Ending) (w' : World) : Prop :=
  ∃ b u, e = .returned (.bool b) ∧ FleR src s b u ∧ SC F src (nx src (rst (s.off - 1) u)) w' ∧ Below F.B w w'
theorem SkWay.trans {src : List UInt8} {a b c : St} (h : SkWay src a b) (k : SkWay src b c) : SkWay src a c := ⟨k.good, Nat.le_trans h.off k.off, by have := h.ec; have := k.ec; omega, k.semi.trans h.semi⟩
set_option maxHeartbeats 4000000 in
theorem fle_any (F : Fix) (src : List UInt8) (s : St) (w : World) (h : SC F src s w) (hg : Good src s) (h1 : 1 ≤ s.off) (hec : s.ec ≤ 100000000000) :
    Calls Tryf.prog 43 #[.pointer (some ⟨F.gS, 0, none⟩)] w (FlePost F src s w) := by
  have hmf : ∀ (fn : Fn) (first cap : Array Value) (w : World), (Instr.makeFunc fn first cap).run Tryf.prog w = .ok (.func fn first cap) w := fun _ _ _ _ => rfl
  obtain ⟨p, hp⟩ : ∃ p, s.off = p + 1 := ⟨s.off - 1, by omega⟩
  have hlen := h.len
  have hpl : p + 1 ≤ src.length := by have := h.off; omega
  have hB0 := (Below.refl w.heap.size w).alloc (Nat.le_refl _) (.cells #[.pointer (some ⟨F.gS, 0, none⟩)] 25)
  have hs1 := h.below hB0
  have hbx := Blk.new w 25 #[.pointer (some ⟨F.gS, 0, none⟩)]
  have c3 : (w.alloc (.cells #[.pointer (some ⟨F.gS, 0, none⟩)] 25)).cell? ⟨F.gS, 3, none⟩ = some (.int .i64 ((p : Int) + 1)) := by
    rw [hs1.blkS.cell]
    show some (Value.int .i64 (s.off : Int)) = _
    rw [hp]
    rfl
  have hBs : F.B ≤ w.heap.size := by have := h.hS; have := h.blkS.lt; omega
  have HPO : Hid (s.off - 1 = p) := Lib.hid (by omega)
  have HP := Lib.hid hp
  have H1 := Lib.hid hs1
  have HX := Lib.hid hbx
  have HB := Lib.hid (hB0.mono hBs)
  have HG := Lib.hid (SkWay.refl hg)
  clear h hg hp hs1 hbx hB0
  go_enter_defers Tryf.func43, Tryf.ntmps43
  go_wp2_with fail
  generalize hw1 : w.alloc (.cells #[.pointer (some ⟨F.gS, 0, none⟩)] 25) = w1 at H1 HX HB c3 ⊢
  clear hw1
  go_loopw [] (fun wr => ∃ t : St, SkWay src s t ∧ (∀ b u, FleR src t b u → FleR src s b u) ∧ SC F src t wr ∧ BelowK F.B w1 wr) (fun wr => src.length + 1 - ((match wr.cell? ⟨F.gS, 3, none⟩ with | some (.int _ z) => z | _ => 0) : Int).toNat)
  case atStart => exact ⟨s, HG.out, fun b u h => h, H1.out, BelowK.refl _ _⟩
  case round =>
    obtain ⟨t, hway, hgo, hs, hbw⟩ := hrel
    have hxr := hbw.blk HX.out
    have cb : wr.cell? ⟨w.heap.size, 0, none⟩ = some (.pointer (some ⟨F.gS, 0, none⟩)) := by rw [hxr.cell]; rfl
    have d2 : wr.cell? ⟨F.gS, 2, none⟩ = some (.int .i32 t.ch) := by rw [hs.blkS.cell]; rfl
    have d3 : wr.cell? ⟨F.gS, 3, none⟩ = some (.int .i64 (t.off : Int)) := by rw [hs.blkS.cell]; rfl
    have htl := hs.off
    have hch := hs.ch
    have hte : t.ec ≤ 100001048576 := by have := hway.ec; omega
    have M1 := Lib.hid d3
    have HS := Lib.hid hs
    have HBW := Lib.hid hbw
    have HBB := Lib.hid (HB.out.trans hbw.bel)
    have HWAY := Lib.hid hway
    have HGO := Lib.hid hgo
    have HXR := Lib.hid hxr
    clear hs hbw hway hgo H1 HG d3 c3 hxr
    by_cases h47 : t.ch = 47
    · have t1 : (t.ch == 47) = true := by simpa using h47
      have HR := Lib.hid (HGO.out true t (FleR.slash h47))
      clear h47
      go_wp2_with fail
      refine leaves_cons (f := 59) (args := #[.int .i64 (p : Int), .pointer (some ⟨w.heap.size, 0, none⟩)]) (by simp) (by simp [go_sem]) ?_
      refine (fleD_any F src t p w.heap.size .returning _ HS.out HXR.out (by omega) (by omega)).mono ?_
      rintro e u' w9 ⟨rfl, rfl, hs9, hb9⟩
      exact ⟨_, results_tmp rfl _ _ _, _, t, rfl, HR.out, by rw [HPO.out]; exact hs9, HBB.out.trans hb9⟩
    · have t1 : (t.ch == 47) = false := by simpa using h47
      by_cases hc42 : t.ch = 42
      rotate_left
      · have t2 : (t.ch == 42) = false := by simpa using hc42
        have HR := Lib.hid (HGO.out false t (FleR.other h47 hc42))
        go_wp2_with fail
        refine leaves_cons (f := 59) (args := #[.int .i64 (p : Int), .pointer (some ⟨w.heap.size, 0, none⟩)]) (by simp) (by simp [go_sem]) ?_
        refine (fleD_any F src t p w.heap.size .returning _ HS.out HXR.out (by omega) (by omega)).mono ?_
        rintro e u' w9 ⟨rfl, rfl, hs9, hb9⟩
        exact ⟨_, results_tmp rfl _ _ _, _, t, rfl, HR.out, by rw [HPO.out]; exact hs9, HBB.out.trans hb9⟩

      have t2 : (t.ch == 42) = true := by simpa using hc42
      have h42 := Lib.hid hc42
      have st := step_of HWAY.out.good (by omega)
      have hfar := st.far
      have HNW := Lib.hid (HWAY.out.next (by omega))
      clear h47 hc42 st
      go_wp2_with (go_at_call 37; refine Hid.out ?_)
      refine Lib.hid ?_
      refine (next_anyK F src t _ HS.out (by omega)).mono ?_
      rintro e w2 ⟨rfl, hs2, hb2⟩
      have HI0 := Lib.hid hs2
      have BI0 := Lib.hid (HBW.out.trans hb2)
      have OI0 : Hid (t.off < (nx src t).off) := Lib.hid (by omega)
      clear hs2 hb2 HBB cb d2 hfar
      go_wp2_with fail
      go_loopw [] (fun wr => ∃ q : St, SkWay src s q ∧ t.off < q.off ∧ (∀ u k, BlkN src q u k → BlkN src (nx src t) u k) ∧ SC F src q wr ∧ BelowK F.B w1 wr) (fun wr => src.length + 1 - ((match wr.cell? ⟨F.gS, 3, none⟩ with | some (.int _ z) => z | _ => 0) : Int).toNat)
      case atStart => exact ⟨nx src t, HNW.out, OI0.out, fun u k h => h, HI0.out, BI0.out⟩
      case round =>
        obtain ⟨q, qway, qoff, qgo, qs, qb⟩ := hrel
        have qx := qb.blk HX.out
        have cq : wr.cell? ⟨w.heap.size, 0, none⟩ = some (.pointer (some ⟨F.gS, 0, none⟩)) := by rw [qx.cell]; rfl
        have q2 : wr.cell? ⟨F.gS, 2, none⟩ = some (.int .i32 q.ch) := by rw [qs.blkS.cell]; rfl
        have q3 : wr.cell? ⟨F.gS, 3, none⟩ = some (.int .i64 (q.off : Int)) := by rw [qs.blkS.cell]; rfl
        have qtl := qs.off
        have qch := qs.ch
        have qte : q.ec ≤ 100001048576 := by have := qway.ec; omega
        have MQ := Lib.hid q3
        have QS := Lib.hid qs
        have QB := Lib.hid qb
        have HBB := Lib.hid (HB.out.trans qb.bel)
        have QWAY := Lib.hid qway
        have QGO := Lib.hid qgo
        have QX := Lib.hid qx
        have QOFF := Lib.hid qoff
        clear qs qb qway qgo qx q3 HI0 BI0 OI0
        by_cases hq0 : q.ch < 0
        · have t3 : decide (q.ch ≥ 0) = false := by simp; omega
          have RB := Lib.hid (QGO.out q 2 (BlkN.eof hq0))
          clear hq0
          have cbx : wr.cell? ⟨w.heap.size, 0, none⟩ = some (.pointer (some ⟨F.gS, 0, none⟩)) := by rw [(QB.out.blk HX.out).cell]; rfl
          have hue : (q).ec ≤ 100001048576 := by have := QWAY.out.ec; have := QS.out.off; omega
          go_wp2_with (go_at_call 30; refine Hid.out ?_)
          refine Lib.hid ?_
          refine (skip_anyK F src q _ QS.out QWAY.out.good (by omega)).mono ?_
          rintro e w5 ⟨v, rfl, hsk, hwv, hs5, hb5⟩
          have hB5 := QB.out.trans hb5
          have hx5 := hB5.blk HX.out
          have cb5 : w5.cell? ⟨w.heap.size, 0, none⟩ = some (.pointer (some ⟨F.gS, 0, none⟩)) := by rw [hx5.cell]; rfl
          have e2 : w5.cell? ⟨F.gS, 2, none⟩ = some (.int .i32 v.ch) := by rw [hs5.blkS.cell]; rfl
          have hvo : t.off < v.off := by have := QOFF.out; have := hwv.off; omega
          have hvl := hs5.off
          have hve : v.ec ≤ 100002097152 := by have := hwv.ec; omega
          have hvc := hs5.ch
          have HSK := Lib.hid hsk
          have HWV := Lib.hid (QWAY.out.trans hwv)
          have H5 := Lib.hid hs5
          have HX5 := Lib.hid hx5
          have B5 := Lib.hid hB5
          clear HBB
          have HBB := Lib.hid (HB.out.trans hB5.bel)
          clear hsk hwv hs5 hb5 hB5 hx5 cbx
          by_cases hv0 : v.ch < 0
          · have t5 : decide (v.ch < 0) = true := by simpa using hv0
            have HR := Lib.hid (HGO.out true v (FleR.endT h42.out RB.out (by decide) HSK.out (Or.inl hv0)))
            go_wp2_with fail
            refine leaves_cons (f := 59) (args := #[.int .i64 (p : Int), .pointer (some ⟨w.heap.size, 0, none⟩)]) (by simp) (by simp [go_sem]) ?_
            refine (fleD_any F src v p w.heap.size .returning _ H5.out HX5.out (by omega) (by omega)).mono ?_
            rintro e u' w9 ⟨rfl, rfl, hs9, hb9⟩
            exact ⟨_, results_tmp rfl _ _ _, _, v, rfl, HR.out, by rw [HPO.out]; exact hs9, HBB.out.trans hb9⟩

          · have t5 : decide (v.ch < 0) = false := by simpa using hv0
            by_cases hv10 : v.ch = 10
            · have t6 : (v.ch == 10) = true := by simpa using hv10
              have HR := Lib.hid (HGO.out true v (FleR.endT h42.out RB.out (by decide) HSK.out (Or.inr hv10)))
              clear hv10
              go_wp2_with fail
              refine leaves_cons (f := 59) (args := #[.int .i64 (p : Int), .pointer (some ⟨w.heap.size, 0, none⟩)]) (by simp) (by simp [go_sem]) ?_
              refine (fleD_any F src v p w.heap.size .returning _ H5.out HX5.out (by omega) (by omega)).mono ?_
              rintro e u' w9 ⟨rfl, rfl, hs9, hb9⟩
              exact ⟨_, results_tmp rfl _ _ _, _, v, rfl, HR.out, by rw [HPO.out]; exact hs9, HBB.out.trans hb9⟩

            · have t6 : (v.ch == 10) = false := by simpa using hv10
              by_cases hv47 : v.ch = 47
              · have t7 : (v.ch != 47) = false := by simpa using hv47
                have t7b : (v.ch == 47) = true := by simpa using hv47
                have st5 := step_of HWV.out.good (by omega)
                have hfar5 := st5.far
                have HNW5 := Lib.hid (HWV.out.next (by omega))
                have HN5 := Lib.hid (fun b z (hz : FleR src (nx src v) b z) => HGO.out b z (FleR.more h42.out RB.out (by decide) HSK.out hv47 hz))
                clear hv47 st5
                go_wp2_with (go_at_call 37; refine Hid.out ?_)
                refine Lib.hid ?_
                refine (next_anyK F src v _ H5.out (by omega)).mono ?_
                rintro e w6 ⟨rfl, hs6, hb6⟩
                have H6 := Lib.hid hs6
                have B6 := Lib.hid (B5.out.trans hb6)
                have hm6 : w6.cell? ⟨F.gS, 3, none⟩ = some (.int .i64 ((nx src v).off : Int)) := by rw [hs6.blkS.cell]; rfl
                have M6 := Lib.hid hm6
                clear hs6 hb6 hm6
                go_wp2_with fail
                go_roundw
                case rel => exact ⟨nx src v, HNW5.out, HN5.out, H6.out, B6.out⟩
                case measure =>
                  rw [M6.out, M1.out]
                  simp only [Int.toNat_natCast]
                  omega
              · have t7 : (v.ch != 47) = true := by simpa using hv47
                have t7b : (v.ch == 47) = false := by simpa using hv47
                have HR := Lib.hid (HGO.out false v (FleR.stopF h42.out RB.out (by decide) HSK.out (by omega) hv10 hv47))
                go_wp2_with fail
                refine leaves_cons (f := 59) (args := #[.int .i64 (p : Int), .pointer (some ⟨w.heap.size, 0, none⟩)]) (by simp) (by simp [go_sem]) ?_
                refine (fleD_any F src v p w.heap.size .returning _ H5.out HX5.out (by omega) (by omega)).mono ?_
                rintro e u' w9 ⟨rfl, rfl, hs9, hb9⟩
                exact ⟨_, results_tmp rfl _ _ _, _, v, rfl, HR.out, by rw [HPO.out]; exact hs9, HBB.out.trans hb9⟩

        · have t3 : decide (q.ch ≥ 0) = true := by simp; omega
          by_cases hq10 : q.ch = 10
          · have t4 : (q.ch == 10) = true := by simpa using hq10
            have HR := Lib.hid (HGO.out true q (FleR.line h42.out (QGO.out q 0 (BlkN.nl hq10))))
            clear hq10
            go_wp2_with fail
            refine leaves_cons (f := 59) (args := #[.int .i64 (p : Int), .pointer (some ⟨w.heap.size, 0, none⟩)]) (by simp) (by simp [go_sem]) ?_
            refine (fleD_any F src q p w.heap.size .returning _ QS.out QX.out (by omega) (by omega)).mono ?_
            rintro e u' w9 ⟨rfl, rfl, hs9, hb9⟩
            exact ⟨_, results_tmp rfl _ _ _, _, q, rfl, HR.out, by rw [HPO.out]; exact hs9, HBB.out.trans hb9⟩

          · have t4 : (q.ch == 10) = false := by simpa using hq10
            have stq := step_of QWAY.out.good (by omega)
            have qfar := stq.far
            have QNW := Lib.hid (QWAY.out.next (by omega))
            clear stq
            go_wp2_with (go_at_call 37; refine Hid.out ?_)
            refine Lib.hid ?_
            refine (next_anyK F src q _ QS.out (by omega)).mono ?_
            rintro e w3 ⟨rfl, hs3, hb3⟩
            have hB3 := QB.out.trans hb3
            have c3b : w3.cell? ⟨w.heap.size, 0, none⟩ = some (.pointer (some ⟨F.gS, 0, none⟩)) := by rw [(hB3.blk HX.out).cell]; rfl
            have d3b : w3.cell? ⟨F.gS, 2, none⟩ = some (.int .i32 (nx src q).ch) := by rw [hs3.blkS.cell]; rfl
            have hm3 : w3.cell? ⟨F.gS, 3, none⟩ = some (.int .i64 ((nx src q).off : Int)) := by rw [hs3.blkS.cell]; rfl
            have M3 := Lib.hid hm3
            have H3 := Lib.hid hs3
            have B3 := Lib.hid hB3
            have hlq := hs3.off
            have hqe3 : (nx src q).ec ≤ 100001048576 := by have := QNW.out.ec; omega
            clear hs3 hb3 hB3 hm3
            by_cases hsh : q.ch = 42 ∧ (nx src q).ch = 47
            · have t8 : (q.ch == 42) = true := by simpa using hsh.1
              have t9 : ((nx src q).ch == 47) = true := by simpa using hsh.2
              have RB := Lib.hid (QGO.out _ 1 (BlkN.shut hsh.1 hsh.2))
              have stq2 := step_of QNW.out.good (by omega)
              have qfar2 := stq2.far
              have QNW2 := Lib.hid (QNW.out.next (by omega))
              have QO2 : Hid (t.off < (nx src (nx src q)).off) := Lib.hid (by have := QOFF.out; omega)
              clear hsh stq2
              go_wp2_with (go_at_call 37; refine Hid.out ?_)
              refine Lib.hid ?_
              refine (next_anyK F src (nx src q) _ H3.out (by omega)).mono ?_
              rintro e w4 ⟨rfl, hs4, hb4⟩
              have H4 := Lib.hid hs4
              have B4 := Lib.hid (B3.out.trans hb4)
              clear hs4 hb4 c3b d3b
              have cbx : w4.cell? ⟨w.heap.size, 0, none⟩ = some (.pointer (some ⟨F.gS, 0, none⟩)) := by rw [(B4.out.blk HX.out).cell]; rfl
              have hue : ((nx src (nx src q))).ec ≤ 100001048576 := by have := QNW2.out.ec; have := H4.out.off; omega
              go_wp2_with (go_at_call 30; refine Hid.out ?_)
              refine Lib.hid ?_
              refine (skip_anyK F src (nx src (nx src q)) _ H4.out QNW2.out.good (by omega)).mono ?_
              rintro e w5 ⟨v, rfl, hsk, hwv, hs5, hb5⟩
              have hB5 := B4.out.trans hb5
              have hx5 := hB5.blk HX.out
              have cb5 : w5.cell? ⟨w.heap.size, 0, none⟩ = some (.pointer (some ⟨F.gS, 0, none⟩)) := by rw [hx5.cell]; rfl
              have e2 : w5.cell? ⟨F.gS, 2, none⟩ = some (.int .i32 v.ch) := by rw [hs5.blkS.cell]; rfl
              have hvo : t.off < v.off := by have := QO2.out; have := hwv.off; omega
              have hvl := hs5.off
              have hve : v.ec ≤ 100002097152 := by have := hwv.ec; omega
              have hvc := hs5.ch
              have HSK := Lib.hid hsk
              have HWV := Lib.hid (QNW2.out.trans hwv)
              have H5 := Lib.hid hs5
              have HX5 := Lib.hid hx5
              have B5 := Lib.hid hB5
              clear HBB
              have HBB := Lib.hid (HB.out.trans hB5.bel)
              clear hsk hwv hs5 hb5 hB5 hx5 cbx
              by_cases hv0 : v.ch < 0
              · have t5 : decide (v.ch < 0) = true := by simpa using hv0
                have HR := Lib.hid (HGO.out true v (FleR.endT h42.out RB.out (by decide) HSK.out (Or.inl hv0)))
                go_wp2_with fail
                refine leaves_cons (f := 59) (args := #[.int .i64 (p : Int), .pointer (some ⟨w.heap.size, 0, none⟩)]) (by simp) (by simp [go_sem]) ?_
                refine (fleD_any F src v p w.heap.size .returning _ H5.out HX5.out (by omega) (by omega)).mono ?_
                rintro e u' w9 ⟨rfl, rfl, hs9, hb9⟩
                exact ⟨_, results_tmp rfl _ _ _, _, v, rfl, HR.out, by rw [HPO.out]; exact hs9, HBB.out.trans hb9⟩

              · have t5 : decide (v.ch < 0) = false := by simpa using hv0
                by_cases hv10 : v.ch = 10
                · have t6 : (v.ch == 10) = true := by simpa using hv10
                  have HR := Lib.hid (HGO.out true v (FleR.endT h42.out RB.out (by decide) HSK.out (Or.inr hv10)))
                  clear hv10
                  go_wp2_with fail
                  refine leaves_cons (f := 59) (args := #[.int .i64 (p : Int), .pointer (some ⟨w.heap.size, 0, none⟩)]) (by simp) (by simp [go_sem]) ?_
                  refine (fleD_any F src v p w.heap.size .returning _ H5.out HX5.out (by omega) (by omega)).mono ?_
                  rintro e u' w9 ⟨rfl, rfl, hs9, hb9⟩
                  exact ⟨_, results_tmp rfl _ _ _, _, v, rfl, HR.out, by rw [HPO.out]; exact hs9, HBB.out.trans hb9⟩

                · have t6 : (v.ch == 10) = false := by simpa using hv10
                  by_cases hv47 : v.ch = 47
                  · have t7 : (v.ch != 47) = false := by simpa using hv47
                    have t7b : (v.ch == 47) = true := by simpa using hv47
                    have st5 := step_of HWV.out.good (by omega)
                    have hfar5 := st5.far
                    have HNW5 := Lib.hid (HWV.out.next (by omega))
                    have HN5 := Lib.hid (fun b z (hz : FleR src (nx src v) b z) => HGO.out b z (FleR.more h42.out RB.out (by decide) HSK.out hv47 hz))
                    clear hv47 st5
                    go_wp2_with (go_at_call 37; refine Hid.out ?_)
                    refine Lib.hid ?_
                    refine (next_anyK F src v _ H5.out (by omega)).mono ?_
                    rintro e w6 ⟨rfl, hs6, hb6⟩
                    have H6 := Lib.hid hs6
                    have B6 := Lib.hid (B5.out.trans hb6)
                    have hm6 : w6.cell? ⟨F.gS, 3, none⟩ = some (.int .i64 ((nx src v).off : Int)) := by rw [hs6.blkS.cell]; rfl
                    have M6 := Lib.hid hm6
                    clear hs6 hb6 hm6
                    go_wp2_with fail
                    go_roundw
                    case rel => exact ⟨nx src v, HNW5.out, HN5.out, H6.out, B6.out⟩
                    case measure =>
                      rw [M6.out, M1.out]
                      simp only [Int.toNat_natCast]
                      omega
                  · have t7 : (v.ch != 47) = true := by simpa using hv47
                    have t7b : (v.ch == 47) = false := by simpa using hv47
                    have HR := Lib.hid (HGO.out false v (FleR.stopF h42.out RB.out (by decide) HSK.out (by omega) hv10 hv47))
                    go_wp2_with fail
                    refine leaves_cons (f := 59) (args := #[.int .i64 (p : Int), .pointer (some ⟨w.heap.size, 0, none⟩)]) (by simp) (by simp [go_sem]) ?_
                    refine (fleD_any F src v p w.heap.size .returning _ H5.out HX5.out (by omega) (by omega)).mono ?_
                    rintro e u' w9 ⟨rfl, rfl, hs9, hb9⟩
                    exact ⟨_, results_tmp rfl _ _ _, _, v, rfl, HR.out, by rw [HPO.out]; exact hs9, HBB.out.trans hb9⟩

            · have RQ := Lib.hid (fun u k (hu : BlkN src (nx src q) u k) => QGO.out u k (BlkN.step (by omega) hq10 hsh hu))
              have t8 : (q.ch == 42) = false ∨ ((q.ch == 42) = true ∧ ((nx src q).ch == 47) = false) := by
                by_cases h4 : q.ch = 42
                · exact Or.inr ⟨by simpa using h4, by have : (nx src q).ch ≠ 47 := fun h => hsh ⟨h4, h⟩; simpa using this⟩
                · exact Or.inl (by simpa using h4)
              clear hsh hq10
              rcases t8 with t8 | ⟨t8, t9⟩
              · go_wp2_with fail
                go_roundw
                case rel => exact ⟨nx src q, QNW.out, by have := QOFF.out; omega, RQ.out, H3.out, B3.out⟩
                case measure =>
                  rw [M3.out, MQ.out]
                  simp only [Int.toNat_natCast]
                  omega
              · go_wp2_with fail
                go_roundw
                case rel => exact ⟨nx src q, QNW.out, by have := QOFF.out; omega, RQ.out, H3.out, B3.out⟩
                case measure =>
                  rw [M3.out, MQ.out]
                  simp only [Int.toNat_natCast]
                  omega

end Go.Proofs.YtamfekpcoppbgaaFmt
