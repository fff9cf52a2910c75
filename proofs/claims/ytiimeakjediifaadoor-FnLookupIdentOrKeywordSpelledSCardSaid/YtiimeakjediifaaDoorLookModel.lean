/-
  What the law's own model of Lookup computes: the same function of the text. No conditions.
-/
import Derived.Test.YtiimeakjediifaaDoorLook
namespace Go.Proofs.YtiimeakjediifaaDoor
open Go.RowKit
set_option maxHeartbeats 4000000 in
theorem model_any (s : List UInt8) (w : World) : Calls Tryd.prog 8 #[.string ⟨s.toArray⟩] w (NumPost (lookup s) w) := by
  by_cases h60 : s = [98, 114, 101, 97, 107]
  · subst h60
    go_enter Tryd.func8, Tryd.ntmps8
    go_wp2
    go_ret
    exact ⟨rfl, rfl⟩
  have g60 : (s == [98, 114, 101, 97, 107]) = false := by simpa using h60
  have H60 := Lib.hid h60
  clear h60
  by_cases h61 : s = [99, 111, 110, 116, 105, 110, 117, 101]
  · subst h61
    clear g60 H60
    go_enter Tryd.func8, Tryd.ntmps8
    go_wp2
    go_ret
    exact ⟨rfl, rfl⟩
  have g61 : (s == [99, 111, 110, 116, 105, 110, 117, 101]) = false := by simpa using h61
  have H61 := Lib.hid h61
  clear h61
  by_cases h62 : s = [101, 108, 115, 101]
  · subst h62
    clear g60 H60 g61 H61
    go_enter Tryd.func8, Tryd.ntmps8
    go_wp2
    go_ret
    exact ⟨rfl, rfl⟩
  have g62 : (s == [101, 108, 115, 101]) = false := by simpa using h62
  have H62 := Lib.hid h62
  clear h62
  by_cases h63 : s = [102, 111, 114]
  · subst h63
    clear g60 H60 g61 H61 g62 H62
    go_enter Tryd.func8, Tryd.ntmps8
    go_wp2
    go_ret
    exact ⟨rfl, rfl⟩
  have g63 : (s == [102, 111, 114]) = false := by simpa using h63
  have H63 := Lib.hid h63
  clear h63
  by_cases h64 : s = [102, 117, 110, 99]
  · subst h64
    clear g60 H60 g61 H61 g62 H62 g63 H63
    go_enter Tryd.func8, Tryd.ntmps8
    go_wp2
    go_ret
    exact ⟨rfl, rfl⟩
  have g64 : (s == [102, 117, 110, 99]) = false := by simpa using h64
  have H64 := Lib.hid h64
  clear h64
  by_cases h65 : s = [101, 114, 114, 111, 114]
  · subst h65
    clear g60 H60 g61 H61 g62 H62 g63 H63 g64 H64
    go_enter Tryd.func8, Tryd.ntmps8
    go_wp2
    go_ret
    exact ⟨rfl, rfl⟩
  have g65 : (s == [101, 114, 114, 111, 114]) = false := by simpa using h65
  have H65 := Lib.hid h65
  clear h65
  by_cases h66 : s = [105, 109, 109, 117, 116, 97, 98, 108, 101]
  · subst h66
    clear g60 H60 g61 H61 g62 H62 g63 H63 g64 H64 g65 H65
    go_enter Tryd.func8, Tryd.ntmps8
    go_wp2
    go_ret
    exact ⟨rfl, rfl⟩
  have g66 : (s == [105, 109, 109, 117, 116, 97, 98, 108, 101]) = false := by simpa using h66
  have H66 := Lib.hid h66
  clear h66
  by_cases h67 : s = [105, 102]
  · subst h67
    clear g60 H60 g61 H61 g62 H62 g63 H63 g64 H64 g65 H65 g66 H66
    go_enter Tryd.func8, Tryd.ntmps8
    go_wp2
    go_ret
    exact ⟨rfl, rfl⟩
  have g67 : (s == [105, 102]) = false := by simpa using h67
  have H67 := Lib.hid h67
  clear h67
  by_cases h68 : s = [114, 101, 116, 117, 114, 110]
  · subst h68
    clear g60 H60 g61 H61 g62 H62 g63 H63 g64 H64 g65 H65 g66 H66 g67 H67
    go_enter Tryd.func8, Tryd.ntmps8
    go_wp2
    go_ret
    exact ⟨rfl, rfl⟩
  have g68 : (s == [114, 101, 116, 117, 114, 110]) = false := by simpa using h68
  have H68 := Lib.hid h68
  clear h68
  by_cases h69 : s = [101, 120, 112, 111, 114, 116]
  · subst h69
    clear g60 H60 g61 H61 g62 H62 g63 H63 g64 H64 g65 H65 g66 H66 g67 H67 g68 H68
    go_enter Tryd.func8, Tryd.ntmps8
    go_wp2
    go_ret
    exact ⟨rfl, rfl⟩
  have g69 : (s == [101, 120, 112, 111, 114, 116]) = false := by simpa using h69
  have H69 := Lib.hid h69
  clear h69
  by_cases h70 : s = [116, 114, 117, 101]
  · subst h70
    clear g60 H60 g61 H61 g62 H62 g63 H63 g64 H64 g65 H65 g66 H66 g67 H67 g68 H68 g69 H69
    go_enter Tryd.func8, Tryd.ntmps8
    go_wp2
    go_ret
    exact ⟨rfl, rfl⟩
  have g70 : (s == [116, 114, 117, 101]) = false := by simpa using h70
  have H70 := Lib.hid h70
  clear h70
  by_cases h71 : s = [102, 97, 108, 115, 101]
  · subst h71
    clear g60 H60 g61 H61 g62 H62 g63 H63 g64 H64 g65 H65 g66 H66 g67 H67 g68 H68 g69 H69 g70 H70
    go_enter Tryd.func8, Tryd.ntmps8
    go_wp2
    go_ret
    exact ⟨rfl, rfl⟩
  have g71 : (s == [102, 97, 108, 115, 101]) = false := by simpa using h71
  have H71 := Lib.hid h71
  clear h71
  by_cases h72 : s = [105, 110]
  · subst h72
    clear g60 H60 g61 H61 g62 H62 g63 H63 g64 H64 g65 H65 g66 H66 g67 H67 g68 H68 g69 H69 g70 H70 g71 H71
    go_enter Tryd.func8, Tryd.ntmps8
    go_wp2
    go_ret
    exact ⟨rfl, rfl⟩
  have g72 : (s == [105, 110]) = false := by simpa using h72
  have H72 := Lib.hid h72
  clear h72
  by_cases h73 : s = [117, 110, 100, 101, 102, 105, 110, 101, 100]
  · subst h73
    clear g60 H60 g61 H61 g62 H62 g63 H63 g64 H64 g65 H65 g66 H66 g67 H67 g68 H68 g69 H69 g70 H70 g71 H71 g72 H72
    go_enter Tryd.func8, Tryd.ntmps8
    go_wp2
    go_ret
    exact ⟨rfl, rfl⟩
  have g73 : (s == [117, 110, 100, 101, 102, 105, 110, 101, 100]) = false := by simpa using h73
  have H73 := Lib.hid h73
  clear h73
  by_cases h74 : s = [105, 109, 112, 111, 114, 116]
  · subst h74
    clear g60 H60 g61 H61 g62 H62 g63 H63 g64 H64 g65 H65 g66 H66 g67 H67 g68 H68 g69 H69 g70 H70 g71 H71 g72 H72 g73 H73
    go_enter Tryd.func8, Tryd.ntmps8
    go_wp2
    go_ret
    exact ⟨rfl, rfl⟩
  have g74 : (s == [105, 109, 112, 111, 114, 116]) = false := by simpa using h74
  have H74 := Lib.hid h74
  clear h74
  go_enter Tryd.func8, Tryd.ntmps8
  go_wp2
  go_ret
  refine ⟨?_, rfl⟩
  have hl : lookup s = 4 := by
    unfold lookup
    rw [lookFrom, if_neg (fun h => H60.out (h.symm.trans (by rfl)))]
    rw [lookFrom, if_neg (fun h => H61.out (h.symm.trans (by rfl)))]
    rw [lookFrom, if_neg (fun h => H62.out (h.symm.trans (by rfl)))]
    rw [lookFrom, if_neg (fun h => H63.out (h.symm.trans (by rfl)))]
    rw [lookFrom, if_neg (fun h => H64.out (h.symm.trans (by rfl)))]
    rw [lookFrom, if_neg (fun h => H65.out (h.symm.trans (by rfl)))]
    rw [lookFrom, if_neg (fun h => H66.out (h.symm.trans (by rfl)))]
    rw [lookFrom, if_neg (fun h => H67.out (h.symm.trans (by rfl)))]
    rw [lookFrom, if_neg (fun h => H68.out (h.symm.trans (by rfl)))]
    rw [lookFrom, if_neg (fun h => H69.out (h.symm.trans (by rfl)))]
    rw [lookFrom, if_neg (fun h => H70.out (h.symm.trans (by rfl)))]
    rw [lookFrom, if_neg (fun h => H71.out (h.symm.trans (by rfl)))]
    rw [lookFrom, if_neg (fun h => H72.out (h.symm.trans (by rfl)))]
    rw [lookFrom, if_neg (fun h => H73.out (h.symm.trans (by rfl)))]
    rw [lookFrom, if_neg (fun h => H74.out (h.symm.trans (by rfl)))]
    rfl
  rw [hl]
  rfl

end Go.Proofs.YtiimeakjediifaaDoor
