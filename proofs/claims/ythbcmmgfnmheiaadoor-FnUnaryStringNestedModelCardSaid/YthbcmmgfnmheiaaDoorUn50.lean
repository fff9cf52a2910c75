/-
  The unary chain's small functions and String of one node. Conditions: as stated.
-/
import Derived.Test.YthbcmmgfnmheiaaDoorSl
namespace Go.Proofs.YthbcmmgfnmheiaaDoor
open Go.RowKit
set_option maxRecDepth 100000
set_option linter.unusedVariables false

def opT (n : Nat) : Nat := if n % 4 = 0 then 11 else if n % 4 = 1 then 12 else if n % 4 = 2 then 41 else 18
def opS (n : Nat) : UInt8 := if n % 4 = 0 then 43 else if n % 4 = 1 then 45 else if n % 4 = 2 then 33 else 94
theorem mod4 (n : Nat) : n % 4 = 0 ∨ n % 4 = 1 ∨ n % 4 = 2 ∨ n % 4 = 3 := by omega
set_option maxHeartbeats 400000 in
theorem opTok_any (n : Nat) (w : World) (hn : n < 256) : Calls Tryd.prog 10 #[.int .u8 (n : Int)] w fun e w' => e = .returned (.int .i64 (opT n : Int)) ∧ w = w' := by
  rcases mod4 n with h | h | h | h
  all_goals
    have HT : Hid (opT n = opT n) := Lib.hid rfl
    unfold opT
    rw [h]
    have h2 : (n : Int) % 4 = ((n % 4 : Nat) : Int) := by omega
    rw [h] at h2
    have h3 := Lib.hid h
    clear h
    go_enter Tryd.func10, Tryd.ntmps10
    go_wp2
    go_ret
    exact ⟨rfl, rfl⟩
set_option maxHeartbeats 400000 in
theorem opSym_any (n : Nat) (w : World) (hn : n < 256) : Calls Tryd.prog 12 #[.int .u8 (n : Int)] w fun e w' => e = .returned (.string ⟨[opS n].toArray⟩) ∧ w = w' := by
  rcases mod4 n with h | h | h | h
  all_goals
    unfold opS
    rw [h]
    have h2 : (n : Int) % 4 = ((n % 4 : Nat) : Int) := by omega
    rw [h] at h2
    have h3 := Lib.hid h
    clear h
    go_enter Tryd.func12, Tryd.ntmps12
    go_wp2
    go_ret
    exact ⟨rfl, rfl⟩
def undefT : List UInt8 := [117, 110, 100, 101, 102, 105, 110, 101, 100]
def leafT (n : Nat) (s : List UInt8) : List UInt8 := if n % 4 = 3 then undefT else s
set_option maxHeartbeats 400000 in
theorem leafT_any (n : Nat) (s : List UInt8) (w : World) (hn : n < 256) : Calls Tryd.prog 9 #[.int .u8 (n : Int), .string ⟨s.toArray⟩] w fun e w' => e = .returned (.string ⟨(leafT n s).toArray⟩) ∧ w = w' := by
  rcases mod4 n with h | h | h | h
  all_goals
    unfold leafT undefT
    rw [h]
    have h2 : (n : Int) % 4 = ((n % 4 : Nat) : Int) := by omega
    rw [h] at h2
    have h3 := Lib.hid h
    clear h
    go_enter Tryd.func9, Tryd.ntmps9
    go_wp2
    go_ret
    exact ⟨rfl, rfl⟩
set_option maxHeartbeats 400000 in
theorem str_at (n : Int) (w : World) (s : ByteArray) (h0 : 0 ≤ n) (h1 : n < 75) (hc : w.cell? ⟨0, n.toNat, none⟩ = some (.string s)) (hs1 : s.toList.isEmpty = false) :
    Calls Tryd.prog 11 #[.int .i64 n] w fun e w' => e = .returned (.string s) ∧ w = w' := by
  go_enter Tryd.func11, Tryd.ntmps11
  go_wp2_with fail
  go_ret
  exact ⟨rfl, rfl⟩
set_option maxHeartbeats 400000 in
theorem idStr_any (p : Nat) (s : List UInt8) (w : World) (h : w.cell? ⟨p, 0, none⟩ = some (.string ⟨s.toArray⟩)) :
    Calls Tryd.prog 43 #[.pointer (some ⟨p, 0, none⟩)] w fun e w' => e = .returned (.string ⟨s.toArray⟩) ∧ ∃ n, w' = w.drewN n := by
  go_enter Tryd.func43, Tryd.ntmps43
  go_wp2_with fail
  go_ret
  exact ⟨rfl, 0, rfl⟩
set_option maxHeartbeats 400000 in
theorem ilStr_any (p : Nat) (s : List UInt8) (w : World) (h : w.cell? ⟨p, 2, none⟩ = some (.string ⟨s.toArray⟩)) :
    Calls Tryd.prog 49 #[.pointer (some ⟨p, 0, none⟩)] w fun e w' => e = .returned (.string ⟨s.toArray⟩) ∧ ∃ n, w' = w.drewN n := by
  go_enter Tryd.func49, Tryd.ntmps49
  go_wp2_with fail
  go_ret
  exact ⟨rfl, 0, rfl⟩
set_option maxHeartbeats 400000 in
theorem slStr_any (p : Nat) (s : List UInt8) (w : World) (h : w.cell? ⟨p, 2, none⟩ = some (.string ⟨s.toArray⟩)) :
    Calls Tryd.prog 53 #[.pointer (some ⟨p, 0, none⟩)] w fun e w' => e = .returned (.string ⟨s.toArray⟩) ∧ ∃ n, w' = w.drewN n := by
  go_enter Tryd.func53, Tryd.ntmps53
  go_wp2_with fail
  go_ret
  exact ⟨rfl, 0, rfl⟩
set_option maxHeartbeats 400000 in
theorem udStr_any (v : Value) (w : World) :
    Calls Tryd.prog 57 #[v] w fun e w' => e = .returned (.string ⟨undefT.toArray⟩) ∧ ∃ n, w' = w.drewN n := by
  go_enter Tryd.func57, Tryd.ntmps57
  go_wp2_with fail
  go_ret
  exact ⟨rfl, 0, rfl⟩
/-- what String says of the pointer p of type t, in every world that agrees below B -/
def Says (F : Nat) (w : World) (p : Nat) (s : List UInt8) : Prop :=
  ∀ W : World, (∀ k, k < w.heap.size → W.heap[k]? = w.heap[k]?) → Calls Tryd.prog F #[.pointer (some ⟨p, 0, none⟩)] W fun e w' => e = .returned (.string ⟨s.toArray⟩) ∧ ∃ n, w' = W.drewN n
theorem Says.later {F : Nat} {w w1 : World} {p : Nat} {s : List UInt8} (h : Says F w p s) (hb : Below w.heap.size w w1) : Says F w1 p s :=
  fun W hW => h W (fun k hk => (hW k (Nat.lt_of_lt_of_le hk hb.size)).trans (hb.block k hk))
theorem bapp (a b : List UInt8) : (ByteArray.mk a.toArray) ++ ⟨b.toArray⟩ = ⟨(a ++ b).toArray⟩ := by
  apply ByteArray.ext
  simp
def unT (n : Nat) (s : List UInt8) : List UInt8 := 40 :: opS n :: (s ++ [41])
theorem un_bytes (n : Nat) (s : List UInt8) : (⟨[40].toArray⟩ : ByteArray) ++ ⟨[opS n].toArray⟩ ++ ⟨s.toArray⟩ ++ ⟨[41].toArray⟩ = ⟨(unT n s).toArray⟩ := by
  rw [bapp, bapp, bapp]
  rfl
def TokAt (w : World) : Prop := 0 < w.heap.size ∧ ∀ n, n < 256 → w.cell? ⟨0, opT n, none⟩ = some (.string ⟨[opS n].toArray⟩)
theorem TokAt.later {w w1 : World} (h : TokAt w) (hb : ∀ k, k < w.heap.size → w1.heap[k]? = w.heap[k]?) (hz : w.heap.size ≤ w1.heap.size) : TokAt w1 :=
  ⟨Nat.lt_of_lt_of_le h.1 hz, fun n hn => (World.cell?_of_block (w := w) (hb _ h.1)).trans (h.2 n hn)⟩
theorem opT_lt (n : Nat) : opT n < 75 := by
  unfold opT
  split
  · omega
  · split
    · omega
    · split <;> omega
theorem nilA_id (a : Addr) (w : World) : (nilAhead 187 30 (.pointer (some a)) "String").run Tryd.prog w = .ok (some false) w := by kernel_rfl
theorem meth_id (a : Addr) (w : World) : (method 187 30 (.pointer (some a)) "String").run Tryd.prog w = .ok (43, .pointer (some a)) w := by kernel_rfl
set_option maxHeartbeats 1000000 in
theorem unary_id (p q n : Nat) (s : List UInt8) (w : World) (hn : n < 256) (hs : s.length ≤ 1048576) (hk : TokAt w) (h0 : w.cell? ⟨p, 0, none⟩ = some (.iface 30 (.pointer (some ⟨q, 0, none⟩)))) (h1 : w.cell? ⟨p, 1, none⟩ = some (.int .i64 (opT n : Int)))
    (hsay : Says 43 w q s) : Calls Tryd.prog 7 #[.pointer (some ⟨p, 0, none⟩)] w fun e w' => e = .returned (.string ⟨(unT n s).toArray⟩) ∧ ∃ n, w' = w.drewN n := by
  have HS := fun m => (str_at (opT n : Int) (w.drewN m) ⟨[opS n].toArray⟩ (by omega) (by have := opT_lt n; omega) (by simpa using hk.2 n hn) (by kernel_rfl)).mono (fun _ _ ⟨he, hw⟩ => (⟨he, hw.symm⟩ : _ ∧ _))
  have HL := fun m => hsay (w.drewN m) (fun k _ => rfl)
  have hna := nilA_id
  have hme := meth_id
  have hss : (ByteArray.mk s.toArray).size = s.length := by simp [ByteArray.size]
  clear hk hsay
  have HHL := Lib.hid HL
  have HHS := Lib.hid HS
  clear HL HS
  go_enter Tryd.func7, Tryd.ntmps7
  go_wp2_with fail
  go_quiet (first | (go_at_call 11; exact Calls.quiet_of_same (HHS.out _)) | (go_at_call 43; exact Calls.quiet_of (HHL.out _)))
  go_wp2_with fail
  go_ret
  exact ⟨congrArg (fun b => Ending.returned (.string b)) (un_bytes n s), _, rfl⟩
theorem nilA_il (a : Addr) (w : World) : (nilAhead 187 40 (.pointer (some a)) "String").run Tryd.prog w = .ok (some false) w := by kernel_rfl
theorem meth_il (a : Addr) (w : World) : (method 187 40 (.pointer (some a)) "String").run Tryd.prog w = .ok (49, .pointer (some a)) w := by kernel_rfl
set_option maxHeartbeats 1000000 in
theorem unary_il (p q n : Nat) (s : List UInt8) (w : World) (hn : n < 256) (hs : s.length ≤ 1048576) (hk : TokAt w) (h0 : w.cell? ⟨p, 0, none⟩ = some (.iface 40 (.pointer (some ⟨q, 0, none⟩)))) (h1 : w.cell? ⟨p, 1, none⟩ = some (.int .i64 (opT n : Int)))
    (hsay : Says 49 w q s) : Calls Tryd.prog 7 #[.pointer (some ⟨p, 0, none⟩)] w fun e w' => e = .returned (.string ⟨(unT n s).toArray⟩) ∧ ∃ n, w' = w.drewN n := by
  have HS := fun m => (str_at (opT n : Int) (w.drewN m) ⟨[opS n].toArray⟩ (by omega) (by have := opT_lt n; omega) (by simpa using hk.2 n hn) (by kernel_rfl)).mono (fun _ _ ⟨he, hw⟩ => (⟨he, hw.symm⟩ : _ ∧ _))
  have HL := fun m => hsay (w.drewN m) (fun k _ => rfl)
  have hna := nilA_il
  have hme := meth_il
  have hss : (ByteArray.mk s.toArray).size = s.length := by simp [ByteArray.size]
  clear hk hsay
  have HHL := Lib.hid HL
  have HHS := Lib.hid HS
  clear HL HS
  go_enter Tryd.func7, Tryd.ntmps7
  go_wp2_with fail
  go_quiet (first | (go_at_call 11; exact Calls.quiet_of_same (HHS.out _)) | (go_at_call 49; exact Calls.quiet_of (HHL.out _)))
  go_wp2_with fail
  go_ret
  exact ⟨congrArg (fun b => Ending.returned (.string b)) (un_bytes n s), _, rfl⟩
theorem nilA_sl (a : Addr) (w : World) : (nilAhead 187 43 (.pointer (some a)) "String").run Tryd.prog w = .ok (some false) w := by kernel_rfl
theorem meth_sl (a : Addr) (w : World) : (method 187 43 (.pointer (some a)) "String").run Tryd.prog w = .ok (53, .pointer (some a)) w := by kernel_rfl
set_option maxHeartbeats 1000000 in
theorem unary_sl (p q n : Nat) (s : List UInt8) (w : World) (hn : n < 256) (hs : s.length ≤ 1048576) (hk : TokAt w) (h0 : w.cell? ⟨p, 0, none⟩ = some (.iface 43 (.pointer (some ⟨q, 0, none⟩)))) (h1 : w.cell? ⟨p, 1, none⟩ = some (.int .i64 (opT n : Int)))
    (hsay : Says 53 w q s) : Calls Tryd.prog 7 #[.pointer (some ⟨p, 0, none⟩)] w fun e w' => e = .returned (.string ⟨(unT n s).toArray⟩) ∧ ∃ n, w' = w.drewN n := by
  have HS := fun m => (str_at (opT n : Int) (w.drewN m) ⟨[opS n].toArray⟩ (by omega) (by have := opT_lt n; omega) (by simpa using hk.2 n hn) (by kernel_rfl)).mono (fun _ _ ⟨he, hw⟩ => (⟨he, hw.symm⟩ : _ ∧ _))
  have HL := fun m => hsay (w.drewN m) (fun k _ => rfl)
  have hna := nilA_sl
  have hme := meth_sl
  have hss : (ByteArray.mk s.toArray).size = s.length := by simp [ByteArray.size]
  clear hk hsay
  have HHL := Lib.hid HL
  have HHS := Lib.hid HS
  clear HL HS
  go_enter Tryd.func7, Tryd.ntmps7
  go_wp2_with fail
  go_quiet (first | (go_at_call 11; exact Calls.quiet_of_same (HHS.out _)) | (go_at_call 53; exact Calls.quiet_of (HHL.out _)))
  go_wp2_with fail
  go_ret
  exact ⟨congrArg (fun b => Ending.returned (.string b)) (un_bytes n s), _, rfl⟩
theorem nilA_ud (a : Addr) (w : World) : (nilAhead 187 46 (.pointer (some a)) "String").run Tryd.prog w = .ok (some false) w := by kernel_rfl
theorem meth_ud (a : Addr) (w : World) : (method 187 46 (.pointer (some a)) "String").run Tryd.prog w = .ok (57, .pointer (some a)) w := by kernel_rfl
set_option maxHeartbeats 1000000 in
theorem unary_ud (p q n : Nat) (s : List UInt8) (w : World) (hn : n < 256) (hs : s.length ≤ 1048576) (hk : TokAt w) (h0 : w.cell? ⟨p, 0, none⟩ = some (.iface 46 (.pointer (some ⟨q, 0, none⟩)))) (h1 : w.cell? ⟨p, 1, none⟩ = some (.int .i64 (opT n : Int)))
    (hsay : Says 57 w q s) : Calls Tryd.prog 7 #[.pointer (some ⟨p, 0, none⟩)] w fun e w' => e = .returned (.string ⟨(unT n s).toArray⟩) ∧ ∃ n, w' = w.drewN n := by
  have HS := fun m => (str_at (opT n : Int) (w.drewN m) ⟨[opS n].toArray⟩ (by omega) (by have := opT_lt n; omega) (by simpa using hk.2 n hn) (by kernel_rfl)).mono (fun _ _ ⟨he, hw⟩ => (⟨he, hw.symm⟩ : _ ∧ _))
  have HL := fun m => hsay (w.drewN m) (fun k _ => rfl)
  have hna := nilA_ud
  have hme := meth_ud
  have hss : (ByteArray.mk s.toArray).size = s.length := by simp [ByteArray.size]
  clear hk hsay
  have HHL := Lib.hid HL
  have HHS := Lib.hid HS
  clear HL HS
  go_enter Tryd.func7, Tryd.ntmps7
  go_wp2_with fail
  go_quiet (first | (go_at_call 11; exact Calls.quiet_of_same (HHS.out _)) | (go_at_call 57; exact Calls.quiet_of (HHL.out _)))
  go_wp2_with fail
  go_ret
  exact ⟨congrArg (fun b => Ending.returned (.string b)) (un_bytes n s), _, rfl⟩
theorem nilA_un (a : Addr) (w : World) : (nilAhead 187 25 (.pointer (some a)) "String").run Tryd.prog w = .ok (some false) w := by kernel_rfl
theorem meth_un (a : Addr) (w : World) : (method 187 25 (.pointer (some a)) "String").run Tryd.prog w = .ok (7, .pointer (some a)) w := by kernel_rfl
set_option maxHeartbeats 1000000 in
theorem unary_un (p q n : Nat) (s : List UInt8) (w : World) (hn : n < 256) (hs : s.length ≤ 1048576) (hk : TokAt w) (h0 : w.cell? ⟨p, 0, none⟩ = some (.iface 25 (.pointer (some ⟨q, 0, none⟩)))) (h1 : w.cell? ⟨p, 1, none⟩ = some (.int .i64 (opT n : Int)))
    (hsay : Says 7 w q s) : Calls Tryd.prog 7 #[.pointer (some ⟨p, 0, none⟩)] w fun e w' => e = .returned (.string ⟨(unT n s).toArray⟩) ∧ ∃ n, w' = w.drewN n := by
  have HS := fun m => (str_at (opT n : Int) (w.drewN m) ⟨[opS n].toArray⟩ (by omega) (by have := opT_lt n; omega) (by simpa using hk.2 n hn) (by kernel_rfl)).mono (fun _ _ ⟨he, hw⟩ => (⟨he, hw.symm⟩ : _ ∧ _))
  have HL := fun m => hsay (w.drewN m) (fun k _ => rfl)
  have hna := nilA_un
  have hme := meth_un
  have hss : (ByteArray.mk s.toArray).size = s.length := by simp [ByteArray.size]
  clear hk hsay
  have HHL := Lib.hid HL
  have HHS := Lib.hid HS
  clear HL HS
  go_enter Tryd.func7, Tryd.ntmps7
  go_wp2_with fail
  go_quiet (first | (go_at_call 11; exact Calls.quiet_of_same (HHS.out _)) | (go_at_call 7; exact Calls.quiet_of (HHL.out _)))
  go_wp2_with fail
  go_ret
  exact ⟨congrArg (fun b => Ending.returned (.string b)) (un_bytes n s), _, rfl⟩
end Go.Proofs.YthbcmmgfnmheiaaDoor
