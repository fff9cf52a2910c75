/-
  The law's own zzPad and zzIntText. Conditions: as stated.
-/
import Derived.Test.YtohcajfgmgpoeaaDoorZd97
namespace Go.Proofs.YtohcajfgmgpoeaaDoor
open Go.RowKit
set_option maxRecDepth 100000
set_option linter.unusedVariables false

theorem zzcat_list (a b : List UInt8) : (⟨a.toArray⟩ : ByteArray) ++ ⟨b.toArray⟩ = ⟨(a ++ b).toArray⟩ := by
  apply ByteArray.ext
  simp
theorem zzpadT_len (wp mi : Bool) (wid : Nat) (l : List UInt8) : (padT wp wid mi l).length ≤ wid + l.length := by
  unfold padT
  split
  · split <;> simp [rep_len] <;> omega
  · omega
set_option maxHeartbeats 2000000 in
theorem zzpad_any (l : List UInt8) (wid : Nat) (wp mi : Bool) (w : World) (hw : wid ≤ 65536) (hl : l.length ≤ 262144) :
    Calls Tryd.prog 15 #[.string ⟨l.toArray⟩, .int .i64 (l.length : Int), .int .i64 (wid : Int), .bool wp, .bool mi, .int .u8 32] w fun e w' => e = .returned (.string ⟨(padT wp wid mi l).toArray⟩) ∧ Below w.heap.size w w' := by
  cases wp
  · go_enter Tryd.func15, Tryd.ntmps15
    go_wp2_with fail
    go_ret
    exact ⟨by simp [padT], Below.refl _ _⟩
  by_cases h0 : wid = 0
  · subst h0
    go_enter Tryd.func15, Tryd.ntmps15
    go_wp2_with fail
    go_ret
    exact ⟨by cases mi <;> simp [padT, rep], Below.refl _ _⟩
  by_cases hle : wid ≤ l.length
  · have hz : (wid : Int) - (l.length : Int) ≤ 0 := by omega
    go_enter Tryd.func15, Tryd.ntmps15
    go_wp2_with fail
    go_ret
    exact ⟨by cases mi <;> simp [padT, rep, show wid - l.length = 0 by omega], Below.refl _ _⟩
  have hz : ¬ (wid : Int) - (l.length : Int) ≤ 0 := by omega
  have HR := fun W => repeat_any 32 (by decide) ((wid : Int) - (l.length : Int)) W (by omega) (by omega)
  obtain ⟨R, hR⟩ : ∃ R, rep (wid - l.length) 32 = R := ⟨_, rfl⟩
  have hRl : R.length ≤ 65536 := by rw [← hR, rep_len]; omega
  have hT : padT true wid mi l = if mi = true then l ++ R else R ++ l := by
    simp [padT, hR]
  rw [show ((wid : Int) - (l.length : Int)).toNat = wid - l.length by omega, show rep (wid - l.length) (UInt8.ofNat 32) = R from hR] at HR
  rw [hT]
  clear hT hR
  have hcat := Lib.hid zzcat_list
  cases mi
  all_goals
    go_enter Tryd.func15, Tryd.ntmps15
    go_wp2_with (go_at_call 14; refine (HR _).mono ?_; rintro e w2 ⟨rfl, hb⟩; have HB := Lib.hid hb; clear hb HR)
    go_ret
    exact ⟨by simp [hcat.out], HB.out⟩
/-- what the law's zzIntText writes -/
def itx (D S : List UInt8) (iz : Bool) (wid : Nat) (wp : Bool) (prec : Nat) (pp mi ze : Bool) : List UInt8 :=
  if pp = true then (if prec = 0 ∧ iz = true then rep wid 32 else padT wp wid mi ((S ++ rep (prec - D.length) 48) ++ D))
  else if ze = true ∧ wp = true then (S ++ rep (wid - S.length - D.length) 48) ++ D else padT wp wid mi (S ++ D)
set_option maxHeartbeats 1000000 in
theorem zzitx_any (D S : List UInt8) (iz : Bool) (wid : Nat) (wp : Bool) (prec : Nat) (pp mi ze : Bool) (w : World) (hD : D.length ≤ 20) (hS : S.length ≤ 1) (hw : wid ≤ 65536) (hp : prec ≤ 65536) :
    Calls Tryd.prog 11 #[.string ⟨D.toArray⟩, .string ⟨S.toArray⟩, .bool iz, .int .i64 (wid : Int), .bool wp, .int .i64 (prec : Int), .bool pp, .bool mi, .bool ze] w fun e w' => e = .returned (.string ⟨(itx D S iz wid wp prec pp mi ze).toArray⟩) ∧ Below w.heap.size w w' := by
  have hcat := Lib.hid zzcat_list
  cases pp
  · by_cases hzw : ze = true ∧ wp = true
    · obtain ⟨rfl, rfl⟩ := hzw
      have HR := fun W => repeat_any 48 (by decide) ((wid : Int) - (S.length : Int) - (D.length : Int)) W (by omega) (by omega)
      obtain ⟨R, hR⟩ : ∃ R, rep (wid - S.length - D.length) 48 = R := ⟨_, rfl⟩
      have hRl : R.length ≤ 65536 := by rw [← hR, rep_len]; omega
      have hT : itx D S iz wid true prec false mi true = (S ++ R) ++ D := by simp [itx, hR]
      rw [show ((wid : Int) - (S.length : Int) - (D.length : Int)).toNat = wid - S.length - D.length by omega, show rep (wid - S.length - D.length) (UInt8.ofNat 48) = R from hR] at HR
      rw [hT]
      clear hT hR
      go_enter Tryd.func11, Tryd.ntmps11
      go_wp2_with (go_at_call 14; refine (HR _).mono ?_; rintro e w2 ⟨rfl, hb⟩; have HB := Lib.hid hb; clear hb HR)
      go_ret
      exact ⟨by simp [hcat.out], HB.out⟩
    · have hT : itx D S iz wid wp prec false mi ze = padT wp wid mi (S ++ D) := by simp [itx, hzw]
      rw [hT]
      obtain ⟨L, hL⟩ : ∃ L, S ++ D = L := ⟨_, rfl⟩
      have hLl : L.length = S.length + D.length := by rw [← hL, List.length_append]
      have HP := fun W => zzpad_any L wid wp mi W hw (by omega)
      have hcl : (⟨S.toArray⟩ : ByteArray) ++ ⟨D.toArray⟩ = ⟨L.toArray⟩ := by rw [zzcat_list, hL]
      rw [hL]
      clear hT hL
      have hzb : ze = false ∨ (ze = true ∧ wp = false) := by cases ze <;> cases wp <;> simp_all
      clear hzw
      have HZ := Lib.hid hLl
      clear hLl
      rcases hzb with rfl | ⟨rfl, rfl⟩
      all_goals
        go_enter Tryd.func11, Tryd.ntmps11
        go_wp2_with (go_at_call 15; refine (HP _).mono ?_; rintro e w3 ⟨rfl, hb⟩; have HB3 := Lib.hid hb; clear hb HP)
        go_ret
        exact ⟨rfl, HB3.out⟩
  · by_cases hzz : prec = 0 ∧ iz = true
    · obtain ⟨rfl, rfl⟩ := hzz
      have HR := fun W => repeat_any 32 (by decide) (wid : Int) W (by omega) (by omega)
      have hT : itx D S true wid wp 0 true mi ze = rep wid 32 := by simp [itx]
      rw [Int.toNat_natCast] at HR
      rw [hT]
      clear hT
      go_enter Tryd.func11, Tryd.ntmps11
      go_wp2_with (go_at_call 14; refine (HR _).mono ?_; rintro e w2 ⟨rfl, hb⟩; have HB := Lib.hid hb; clear hb HR)
      go_ret
      exact ⟨rfl, HB.out⟩
    · obtain ⟨R, hR⟩ : ∃ R, rep (prec - D.length) 48 = R := ⟨_, rfl⟩
      have hRl : R.length ≤ 65536 := by rw [← hR, rep_len]; omega
      have HR : ∀ (z : Int) (W : World), z = (prec : Int) - (D.length : Int) → Calls Tryd.prog 14 #[.int .u8 48, .int .i64 z] W fun e w' => e = .returned (.string ⟨R.toArray⟩) ∧ Below W.heap.size W w' := by
        rintro z W rfl
        have := repeat_any 48 (by decide) ((prec : Int) - (D.length : Int)) W (by omega) (by omega)
        rw [show ((prec : Int) - (D.length : Int)).toNat = prec - D.length by omega, show rep (prec - D.length) (UInt8.ofNat 48) = R from hR] at this
        exact this
      have hT : itx D S iz wid wp prec true mi ze = padT wp wid mi ((S ++ R) ++ D) := by
        unfold itx
        rw [if_pos rfl, if_neg hzz, hR]
      rw [hT]
      obtain ⟨M, hM⟩ : ∃ M, S ++ R = M := ⟨_, rfl⟩
      have hMl : M.length = S.length + R.length := by rw [← hM, List.length_append]
      have hcm : (⟨S.toArray⟩ : ByteArray) ++ ⟨R.toArray⟩ = ⟨M.toArray⟩ := by rw [zzcat_list, hM]
      rw [hM]
      obtain ⟨L, hL⟩ : ∃ L, M ++ D = L := ⟨_, rfl⟩
      have hLl : L.length = M.length + D.length := by rw [← hL, List.length_append]
      have HP := fun W => zzpad_any L wid wp mi W hw (by omega)
      have hcl : (⟨M.toArray⟩ : ByteArray) ++ ⟨D.toArray⟩ = ⟨L.toArray⟩ := by rw [zzcat_list, hL]
      rw [hL]
      have hMl2 : M.length ≤ 65537 := by omega
      have hLl2 : L.length ≤ 65557 := by omega
      clear hT hL hM hR hMl hLl
      have hzb : (prec = 0 ∧ iz = false) ∨ ¬ prec = 0 := by
        cases iz
        · by_cases h : prec = 0
          · exact Or.inl ⟨h, rfl⟩
          · exact Or.inr h
        · exact Or.inr (fun h => hzz ⟨h, rfl⟩)
      clear hzz hcat
      rcases hzb with ⟨rfl, rfl⟩ | hpz
      · go_enter Tryd.func11, Tryd.ntmps11
        go_wp2_with first | (go_at_call 14; refine (HR _ _ (by omega)).mono ?_; rintro e w2 ⟨rfl, hb⟩; have HB := Lib.hid hb; clear hb HR) | (go_at_call 15; refine (HP _).mono ?_; rintro e w3 ⟨rfl, hb⟩; have HB3 := Lib.hid (HB.out.trans (hb.mono HB.out.size)); clear hb HP)
        go_ret
        exact ⟨rfl, HB3.out⟩
      · go_enter Tryd.func11, Tryd.ntmps11
        go_wp2_with first | (go_at_call 14; refine (HR _ _ (by omega)).mono ?_; rintro e w2 ⟨rfl, hb⟩; have HB := Lib.hid hb; clear hb HR) | (go_at_call 15; refine (HP _).mono ?_; rintro e w3 ⟨rfl, hb⟩; have HB3 := Lib.hid (HB.out.trans (hb.mono HB.out.size)); clear hb HP)
        go_ret
        exact ⟨rfl, HB3.out⟩
/-- the law's model writes what fmt writes -/
theorem itx_eq (u : Nat) (pl iz wp pp mi ze : Bool) (wid prec : Nat) (hz : iz = decide (u = 0)) (h1 : wp = true ∨ wid = 0) (h2 : pp = true ∨ prec = 0) :
    itx (digI 10 u) (if pl = true then [43] else []) iz wid wp prec pp mi ze = intT 10 ⟨wp, pp, mi, pl, false, false, ze, wid, prec⟩ u := by
  subst hz
  have hd := digI_len 10 u
  generalize hD : digI 10 u = D at hd
  unfold itx intT signI sharpI precI
  simp only [hD]
  cases pp
  · simp only [Bool.false_eq_true, if_false, false_and, or_false]
    by_cases hzw : ze = true ∧ wp = true
    · obtain ⟨rfl, rfl⟩ := hzw
      simp only [and_self, if_true]
      have hlen : ∀ q : List UInt8, wid ≤ q.length → padT true wid mi q = q := by
        intro q hq
        unfold padT rep
        rw [show wid - q.length = 0 by omega]
        cases mi <;> simp
      cases pl
      · rw [if_neg (by simp), if_neg (by simp), if_neg (by simp)]
        simp [zfill]
        rw [hlen _ (by simp [rep_len]; omega)]
      · simp [zfill]
        rw [hlen _ (by simp [rep_len]; omega)]
    · rw [if_neg hzw, if_neg hzw]
      cases pl <;> simp [zfill, rep]
  · simp only [if_true, true_and]
    by_cases hzz : prec = 0 ∧ u = 0
    · simp [hzz]
    · have hzz2 : ¬ (prec = 0 ∧ decide (u = 0) = true) := by simpa using hzz
      rw [if_neg hzz2, if_neg hzz]
      cases pl <;> simp [zfill]
end Go.Proofs.YtohcajfgmgpoeaaDoor
