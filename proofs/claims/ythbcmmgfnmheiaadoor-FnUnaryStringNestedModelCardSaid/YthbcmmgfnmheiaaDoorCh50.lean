/-
  The unary chain built and printed. Conditions: as stated.
-/
import Derived.Test.YthbcmmgfnmheiaaDoorUn50
import Derived.Test.YthbcmmgfnmheiaaDoorAppW
import Derived.Test.YthbcmmgfnmheiaaDoorClone50
import Derived.Outline
namespace Go.Proofs.YthbcmmgfnmheiaaDoor
open Go.RowKit
set_option maxRecDepth 100000
set_option linter.unusedVariables false

theorem agree_lt {w W : World} (hW : ∀ k, k < w.heap.size → W.heap[k]? = w.heap[k]?) {k : Nat} (hk : k < w.heap.size) : k < W.heap.size := by
  rcases Nat.lt_or_ge k W.heap.size with h | h
  · exact h
  · have := hW k hk
    rw [Array.getElem?_eq_none h, Array.getElem?_eq_getElem hk] at this
    cases this
theorem TokAt.agree {w W : World} (h : TokAt w) (hW : ∀ k, k < w.heap.size → W.heap[k]? = w.heap[k]?) : TokAt W :=
  ⟨agree_lt hW h.1, fun n hn => (World.cell?_of_block (w := w) (hW _ h.1)).trans (h.2 n hn)⟩
theorem Says.agree {F : Nat} {w W : World} {p : Nat} {s : List UInt8} (h : Says F w p s) (hW : ∀ k, k < w.heap.size → W.heap[k]? = w.heap[k]?) : Says F W p s :=
  fun W' h' => h W' (fun k hk => (h' k (agree_lt hW hk)).trans (hW k hk))
theorem says_id (p q n : Nat) (s : List UInt8) (w : World) (hn : n < 256) (hs : s.length ≤ 1048576) (hk : TokAt w) (hb : Blk w p 39 #[.iface 30 (.pointer (some ⟨q, 0, none⟩)), .int .i64 (opT n : Int), .int .i64 0])
    (hsay : Says 43 w q s) : Says 7 w p (unT n s) := fun W hW =>
  have hb2 := hb.same (hW p hb.lt)
  unary_id p q n s W hn hs (hk.agree hW) (by rw [hb2.cell]; rfl) (by rw [hb2.cell]; rfl) (hsay.agree hW)
theorem says_il (p q n : Nat) (s : List UInt8) (w : World) (hn : n < 256) (hs : s.length ≤ 1048576) (hk : TokAt w) (hb : Blk w p 39 #[.iface 40 (.pointer (some ⟨q, 0, none⟩)), .int .i64 (opT n : Int), .int .i64 0])
    (hsay : Says 49 w q s) : Says 7 w p (unT n s) := fun W hW =>
  have hb2 := hb.same (hW p hb.lt)
  unary_il p q n s W hn hs (hk.agree hW) (by rw [hb2.cell]; rfl) (by rw [hb2.cell]; rfl) (hsay.agree hW)
theorem says_sl (p q n : Nat) (s : List UInt8) (w : World) (hn : n < 256) (hs : s.length ≤ 1048576) (hk : TokAt w) (hb : Blk w p 39 #[.iface 43 (.pointer (some ⟨q, 0, none⟩)), .int .i64 (opT n : Int), .int .i64 0])
    (hsay : Says 53 w q s) : Says 7 w p (unT n s) := fun W hW =>
  have hb2 := hb.same (hW p hb.lt)
  unary_sl p q n s W hn hs (hk.agree hW) (by rw [hb2.cell]; rfl) (by rw [hb2.cell]; rfl) (hsay.agree hW)
theorem says_ud (p q n : Nat) (s : List UInt8) (w : World) (hn : n < 256) (hs : s.length ≤ 1048576) (hk : TokAt w) (hb : Blk w p 39 #[.iface 46 (.pointer (some ⟨q, 0, none⟩)), .int .i64 (opT n : Int), .int .i64 0])
    (hsay : Says 57 w q s) : Says 7 w p (unT n s) := fun W hW =>
  have hb2 := hb.same (hW p hb.lt)
  unary_ud p q n s W hn hs (hk.agree hW) (by rw [hb2.cell]; rfl) (by rw [hb2.cell]; rfl) (hsay.agree hW)
theorem says_un (p q n : Nat) (s : List UInt8) (w : World) (hn : n < 256) (hs : s.length ≤ 1048576) (hk : TokAt w) (hb : Blk w p 39 #[.iface 25 (.pointer (some ⟨q, 0, none⟩)), .int .i64 (opT n : Int), .int .i64 0])
    (hsay : Says 7 w q s) : Says 7 w p (unT n s) := fun W hW =>
  have hb2 := hb.same (hW p hb.lt)
  unary_un p q n s W hn hs (hk.agree hW) (by rw [hb2.cell]; rfl) (by rw [hb2.cell]; rfl) (hsay.agree hW)
theorem start_id (n : Nat) (s : List UInt8) (w : World) (hn : n < 256) (hs : s.length ≤ 1048576) (hk : TokAt w) :
    Says 7 ((w.alloc (.cells #[.string ⟨s.toArray⟩, .int .i64 0] 33)).alloc (.cells #[.iface 30 (.pointer (some ⟨w.heap.size, 0, none⟩)), .int .i64 (opT n : Int), .int .i64 0] 39)) (w.heap.size + 1) (unT n s) := by
  have hb := Blk.new (w.alloc (.cells #[.string ⟨s.toArray⟩, .int .i64 0] 33)) 39 #[.iface 30 (.pointer (some ⟨w.heap.size, 0, none⟩)), .int .i64 (opT n : Int), .int .i64 0]
  have e : (w.alloc (.cells #[.string ⟨s.toArray⟩, .int .i64 0] 33)).heap.size = w.heap.size + 1 := by simp
  have hl := (Blk.new w 33 #[.string ⟨s.toArray⟩, .int .i64 0]).alloc (.cells #[.iface 30 (.pointer (some ⟨w.heap.size, 0, none⟩)), .int .i64 (opT n : Int), .int .i64 0] 39)
  have hB := ((Below.refl w.heap.size w).alloc (Nat.le_refl _) (.cells #[.string ⟨s.toArray⟩, .int .i64 0] 33)).alloc (by simp) (.cells #[.iface 30 (.pointer (some ⟨w.heap.size, 0, none⟩)), .int .i64 (opT n : Int), .int .i64 0] 39)
  rw [e] at hb
  refine says_id _ _ n _ _ hn hs (hk.agree hB.block) hb ?_
  intro W hW
  have hb2 := hl.same (hW _ hl.lt)
  exact idStr_any w.heap.size s W (by rw [hb2.cell]; rfl)
theorem start_il (n : Nat) (s : List UInt8) (w : World) (hn : n < 256) (hs : s.length ≤ 1048576) (hk : TokAt w) :
    Says 7 ((w.alloc (.cells #[.int .i64 0, .int .i64 0, .string ⟨s.toArray⟩] 42)).alloc (.cells #[.iface 40 (.pointer (some ⟨w.heap.size, 0, none⟩)), .int .i64 (opT n : Int), .int .i64 0] 39)) (w.heap.size + 1) (unT n s) := by
  have hb := Blk.new (w.alloc (.cells #[.int .i64 0, .int .i64 0, .string ⟨s.toArray⟩] 42)) 39 #[.iface 40 (.pointer (some ⟨w.heap.size, 0, none⟩)), .int .i64 (opT n : Int), .int .i64 0]
  have e : (w.alloc (.cells #[.int .i64 0, .int .i64 0, .string ⟨s.toArray⟩] 42)).heap.size = w.heap.size + 1 := by simp
  have hl := (Blk.new w 42 #[.int .i64 0, .int .i64 0, .string ⟨s.toArray⟩]).alloc (.cells #[.iface 40 (.pointer (some ⟨w.heap.size, 0, none⟩)), .int .i64 (opT n : Int), .int .i64 0] 39)
  have hB := ((Below.refl w.heap.size w).alloc (Nat.le_refl _) (.cells #[.int .i64 0, .int .i64 0, .string ⟨s.toArray⟩] 42)).alloc (by simp) (.cells #[.iface 40 (.pointer (some ⟨w.heap.size, 0, none⟩)), .int .i64 (opT n : Int), .int .i64 0] 39)
  rw [e] at hb
  refine says_il _ _ n _ _ hn hs (hk.agree hB.block) hb ?_
  intro W hW
  have hb2 := hl.same (hW _ hl.lt)
  exact ilStr_any w.heap.size s W (by rw [hb2.cell]; rfl)
theorem start_sl (n : Nat) (s : List UInt8) (w : World) (hn : n < 256) (hs : s.length ≤ 1048576) (hk : TokAt w) :
    Says 7 ((w.alloc (.cells #[.string ⟨#[]⟩, .int .i64 0, .string ⟨s.toArray⟩] 45)).alloc (.cells #[.iface 43 (.pointer (some ⟨w.heap.size, 0, none⟩)), .int .i64 (opT n : Int), .int .i64 0] 39)) (w.heap.size + 1) (unT n s) := by
  have hb := Blk.new (w.alloc (.cells #[.string ⟨#[]⟩, .int .i64 0, .string ⟨s.toArray⟩] 45)) 39 #[.iface 43 (.pointer (some ⟨w.heap.size, 0, none⟩)), .int .i64 (opT n : Int), .int .i64 0]
  have e : (w.alloc (.cells #[.string ⟨#[]⟩, .int .i64 0, .string ⟨s.toArray⟩] 45)).heap.size = w.heap.size + 1 := by simp
  have hl := (Blk.new w 45 #[.string ⟨#[]⟩, .int .i64 0, .string ⟨s.toArray⟩]).alloc (.cells #[.iface 43 (.pointer (some ⟨w.heap.size, 0, none⟩)), .int .i64 (opT n : Int), .int .i64 0] 39)
  have hB := ((Below.refl w.heap.size w).alloc (Nat.le_refl _) (.cells #[.string ⟨#[]⟩, .int .i64 0, .string ⟨s.toArray⟩] 45)).alloc (by simp) (.cells #[.iface 43 (.pointer (some ⟨w.heap.size, 0, none⟩)), .int .i64 (opT n : Int), .int .i64 0] 39)
  rw [e] at hb
  refine says_sl _ _ n _ _ hn hs (hk.agree hB.block) hb ?_
  intro W hW
  have hb2 := hl.same (hW _ hl.lt)
  exact slStr_any w.heap.size s W (by rw [hb2.cell]; rfl)
theorem start_ud (n : Nat) (s : List UInt8) (w : World) (hn : n < 256) (hs : s.length ≤ 1048576) (hk : TokAt w) :
    Says 7 ((w.alloc (.cells #[.int .i64 0] 48)).alloc (.cells #[.iface 46 (.pointer (some ⟨w.heap.size, 0, none⟩)), .int .i64 (opT n : Int), .int .i64 0] 39)) (w.heap.size + 1) (unT n undefT) := by
  have hb := Blk.new (w.alloc (.cells #[.int .i64 0] 48)) 39 #[.iface 46 (.pointer (some ⟨w.heap.size, 0, none⟩)), .int .i64 (opT n : Int), .int .i64 0]
  have e : (w.alloc (.cells #[.int .i64 0] 48)).heap.size = w.heap.size + 1 := by simp
  have hl := (Blk.new w 48 #[.int .i64 0]).alloc (.cells #[.iface 46 (.pointer (some ⟨w.heap.size, 0, none⟩)), .int .i64 (opT n : Int), .int .i64 0] 39)
  have hB := ((Below.refl w.heap.size w).alloc (Nat.le_refl _) (.cells #[.int .i64 0] 48)).alloc (by simp) (.cells #[.iface 46 (.pointer (some ⟨w.heap.size, 0, none⟩)), .int .i64 (opT n : Int), .int .i64 0] 39)
  rw [e] at hb
  refine says_ud _ _ n _ _ hn (by decide) (hk.agree hB.block) hb ?_
  intro W hW
  have hb2 := hl.same (hW _ hl.lt)
  exact udStr_any _ W

def chainT : List UInt8 → List UInt8 → List UInt8
  | [], t => t
  | b :: r, t => unT b.toNat (chainT r t)
theorem chainT_len (l t : List UInt8) : (chainT l t).length = t.length + 3 * l.length := by
  induction l with
  | nil => simp [chainT]
  | cons b r ih => simp [chainT, unT, ih]; omega
theorem leafT_len (n : Nat) (s : List UInt8) : (leafT n s).length ≤ s.length + 9 := by
  unfold leafT undefT
  split
  · simp
  · omega
def BuildPost (l t : List UInt8) (w : World) (e : Ending) (w' : World) : Prop :=
  ∃ p, e = .returned (.pointer (some ⟨p, 0, none⟩)) ∧ p < w'.heap.size ∧ Says 7 w' p (chainT l t) ∧ Below w.heap.size w w'
theorem cell_alloc {w : World} {b o : Nat} {x : Option Value} (h : w.cell? ⟨b, o, none⟩ = x) (hb : b < w.heap.size) (ob : Obj) : (w.alloc ob).cell? ⟨b, o, none⟩ = x :=
  (((Below.refl w.heap.size w).alloc (Nat.le_refl _) ob).cell (p := ⟨b, o, none⟩) hb).trans h

set_option maxHeartbeats 2000000 in
theorem build_id (oA : Option Addr) (cap m kd : Nat) (l s : List UInt8) (w : World) (hl : l.length = m + 1) (hm : m ≤ 4096) (hs : s.length ≤ 4096) (hkd : kd < 256) (hk4 : kd % 4 = 0) (hk : TokAt w) (hsrc : SrcAt w w.heap.size oA l) :
    Calls Tryd.prog 6 #[.slice oA (m + 1) cap, .int .u8 (kd : Int), .string ⟨s.toArray⟩, .int .i64 0] w (BuildPost l (leafT kd s) w) := by
  obtain ⟨b, o, rfl, hbB, hc⟩ := hsrc.at_ (by omega)
  have hB : ∀ i (h : i < l.length), l[i].toNat < 256 := fun i h => UInt8.toNat_lt _
  have HL : Hid (leafT kd s = s) := Lib.hid (by unfold leafT; rw [hk4]; rfl)
  have h2 : (kd : Int) % 4 = 0 := by omega
  have hml : m < l.length := by omega
  have hcl := hc m hml
  obtain ⟨z, hz⟩ : ∃ z, l[m]'hml = z := ⟨_, rfl⟩
  rw [hz] at hcl
  have hcl1 := (cell_alloc hcl hbB (.cells #[.string ⟨s.toArray⟩, .int .i64 0] 33))
  have HST := Lib.hid (start_id z.toNat s w (UInt8.toNat_lt _) (by omega) hk)
  have HB0 := Lib.hid (((Below.refl w.heap.size w).alloc (Nat.le_refl _) (.cells #[.string ⟨s.toArray⟩, .int .i64 0] 33)).alloc (by simp) (.cells #[.iface 30 (.pointer (some ⟨w.heap.size, 0, none⟩)), .int .i64 (opT z.toNat : Int), .int .i64 0] 39))
  have HC := Lib.hid hc
  have HLN := Lib.hid hl
  have HZ := Lib.hid hz
  have HK := Lib.hid hk
  have hzb := UInt8.toNat_lt z
  have HOT := Lib.hid (fun W => opTok_any z.toNat W hzb)
  have HK4 := Lib.hid hk4
  clear hc hl hz hk hk4 hsrc hB hcl
  go_enter Tryd.func6, Tryd.ntmps6
  go_wp2_with (go_at_call 10; refine (HOT.out _).mono ?_; rintro e w2 ⟨rfl, rfl⟩)
  go_loopw [10, 11] (fun u i wr => ∃ (j : Int) (p : Nat), -1 ≤ j ∧ j < m ∧ i = .int .i64 j ∧ u = .pointer (some ⟨p, 0, none⟩) ∧ p < wr.heap.size ∧ Says 7 wr p (chainT (l.drop (j + 1).toNat) (leafT kd s)) ∧ Below w.heap.size w wr) (fun _ i _ => (intOf i + 1).toNat)
  case atStart =>
    refine ⟨_, _, ?_, ?_, rfl, rfl, ?_, ?_, HB0.out⟩
    · omega
    · omega
    · simp
    · have e : l.drop ((m : Int) - 1 + 1).toNat = [z] := by
        rw [show ((m : Int) - 1 + 1).toNat = m by omega, List.drop_eq_getElem_cons (by have := HLN.out; omega), HZ.out, List.drop_eq_nil_of_le (by have := HLN.out; omega)]
      rw [e, HL.out]
      exact HST.out
  case round =>
    obtain ⟨j, p, hj0, hj1, rfl, rfl, hp, hsay, hbel⟩ := hrel
    clear hcl1 HOT HST HB0
    by_cases hlt : 0 ≤ j
    · obtain ⟨k, rfl⟩ : ∃ k : Nat, j = k := ⟨j.toNat, by omega⟩
      have hkl : k < l.length := by have := HLN.out; omega
      have c1 := (hbel.cell (p := ⟨b, o + k, none⟩) hbB).trans (HC.out k hkl)
      obtain ⟨y, hy⟩ : ∃ y, l[k] = y := ⟨_, rfl⟩
      rw [hy] at c1
      have hyb := UInt8.toNat_lt y
      have HOT := Lib.hid (fun W => opTok_any y.toNat W hyb)
      have hcv : ((k : Int) + 1).toNat = k + 1 := by omega
      rw [hcv] at hsay
      have hlen := chainT_len (l.drop (k + 1)) (leafT kd s)
      have hll := leafT_len kd s
      have hld : (l.drop (k + 1)).length ≤ m := by have := HLN.out; simp; omega
      have hbn := Blk.new wr 39 #[.iface 25 (.pointer (some ⟨p, 0, none⟩)), .int .i64 (opT y.toNat : Int), .int .i64 0]
      have hB1 := (Below.refl wr.heap.size wr).alloc (Nat.le_refl _) (.cells #[.iface 25 (.pointer (some ⟨p, 0, none⟩)), .int .i64 (opT y.toNat : Int), .int .i64 0] 39)
      have hkr : TokAt wr := HK.out.agree hbel.block
      have hnew := says_un wr.heap.size p y.toNat _ _ hyb (by omega) (hkr.agree hB1.block) hbn (hsay.later hB1)
      have HN : Hid (Says 7 (wr.alloc (.cells #[.iface 25 (.pointer (some ⟨p, 0, none⟩)), .int .i64 (opT y.toNat : Int), .int .i64 0] 39)) wr.heap.size (chainT (l.drop k) (leafT kd s))) := Lib.hid (by
        rw [List.drop_eq_getElem_cons hkl, hy]
        exact hnew)
      have HBN := Lib.hid (hbel.alloc hbel.size (.cells #[.iface 25 (.pointer (some ⟨p, 0, none⟩)), .int .i64 (opT y.toNat : Int), .int .i64 0] 39))
      clear hnew hkr hB1 hbn hld hll hlen hsay hcv hy hbel
      go_wp2_with (go_at_call 10; refine (HOT.out _).mono ?_; rintro e w2 ⟨rfl, rfl⟩)
      go_roundw
      case rel =>
        refine ⟨_, _, ?_, ?_, rfl, rfl, ?_, ?_, HBN.out⟩
        · omega
        · omega
        · simp
        · rw [show ((k : Int) - 1 + 1).toNat = k by omega]
          exact HN.out
      case measure => first | (simp [intOf]; done) | (simp [intOf]; omega)
    · obtain rfl : j = -1 := by omega
      have HS := Lib.hid hsay
      have HBL := Lib.hid hbel
      clear hsay hbel
      go_wp2_with fail
      go_ret
      exact ⟨p, rfl, hp, HS.out, HBL.out⟩

set_option maxHeartbeats 2000000 in
theorem build_il (oA : Option Addr) (cap m kd : Nat) (l s : List UInt8) (w : World) (hl : l.length = m + 1) (hm : m ≤ 4096) (hs : s.length ≤ 4096) (hkd : kd < 256) (hk4 : kd % 4 = 1) (hk : TokAt w) (hsrc : SrcAt w w.heap.size oA l) :
    Calls Tryd.prog 6 #[.slice oA (m + 1) cap, .int .u8 (kd : Int), .string ⟨s.toArray⟩, .int .i64 0] w (BuildPost l (leafT kd s) w) := by
  obtain ⟨b, o, rfl, hbB, hc⟩ := hsrc.at_ (by omega)
  have hB : ∀ i (h : i < l.length), l[i].toNat < 256 := fun i h => UInt8.toNat_lt _
  have HL : Hid (leafT kd s = s) := Lib.hid (by unfold leafT; rw [hk4]; rfl)
  have h2 : (kd : Int) % 4 = 1 := by omega
  have hml : m < l.length := by omega
  have hcl := hc m hml
  obtain ⟨z, hz⟩ : ∃ z, l[m]'hml = z := ⟨_, rfl⟩
  rw [hz] at hcl
  have hcl1 := (cell_alloc hcl hbB (.cells #[.int .i64 0, .int .i64 0, .string ⟨s.toArray⟩] 42))
  have HST := Lib.hid (start_il z.toNat s w (UInt8.toNat_lt _) (by omega) hk)
  have HB0 := Lib.hid (((Below.refl w.heap.size w).alloc (Nat.le_refl _) (.cells #[.int .i64 0, .int .i64 0, .string ⟨s.toArray⟩] 42)).alloc (by simp) (.cells #[.iface 40 (.pointer (some ⟨w.heap.size, 0, none⟩)), .int .i64 (opT z.toNat : Int), .int .i64 0] 39))
  have HC := Lib.hid hc
  have HLN := Lib.hid hl
  have HZ := Lib.hid hz
  have HK := Lib.hid hk
  have hzb := UInt8.toNat_lt z
  have HOT := Lib.hid (fun W => opTok_any z.toNat W hzb)
  have HK4 := Lib.hid hk4
  clear hc hl hz hk hk4 hsrc hB hcl
  go_enter Tryd.func6, Tryd.ntmps6
  go_wp2_with (go_at_call 10; refine (HOT.out _).mono ?_; rintro e w2 ⟨rfl, rfl⟩)
  go_loopw [10, 11] (fun u i wr => ∃ (j : Int) (p : Nat), -1 ≤ j ∧ j < m ∧ i = .int .i64 j ∧ u = .pointer (some ⟨p, 0, none⟩) ∧ p < wr.heap.size ∧ Says 7 wr p (chainT (l.drop (j + 1).toNat) (leafT kd s)) ∧ Below w.heap.size w wr) (fun _ i _ => (intOf i + 1).toNat)
  case atStart =>
    refine ⟨_, _, ?_, ?_, rfl, rfl, ?_, ?_, HB0.out⟩
    · omega
    · omega
    · simp
    · have e : l.drop ((m : Int) - 1 + 1).toNat = [z] := by
        rw [show ((m : Int) - 1 + 1).toNat = m by omega, List.drop_eq_getElem_cons (by have := HLN.out; omega), HZ.out, List.drop_eq_nil_of_le (by have := HLN.out; omega)]
      rw [e, HL.out]
      exact HST.out
  case round =>
    obtain ⟨j, p, hj0, hj1, rfl, rfl, hp, hsay, hbel⟩ := hrel
    clear hcl1 HOT HST HB0
    by_cases hlt : 0 ≤ j
    · obtain ⟨k, rfl⟩ : ∃ k : Nat, j = k := ⟨j.toNat, by omega⟩
      have hkl : k < l.length := by have := HLN.out; omega
      have c1 := (hbel.cell (p := ⟨b, o + k, none⟩) hbB).trans (HC.out k hkl)
      obtain ⟨y, hy⟩ : ∃ y, l[k] = y := ⟨_, rfl⟩
      rw [hy] at c1
      have hyb := UInt8.toNat_lt y
      have HOT := Lib.hid (fun W => opTok_any y.toNat W hyb)
      have hcv : ((k : Int) + 1).toNat = k + 1 := by omega
      rw [hcv] at hsay
      have hlen := chainT_len (l.drop (k + 1)) (leafT kd s)
      have hll := leafT_len kd s
      have hld : (l.drop (k + 1)).length ≤ m := by have := HLN.out; simp; omega
      have hbn := Blk.new wr 39 #[.iface 25 (.pointer (some ⟨p, 0, none⟩)), .int .i64 (opT y.toNat : Int), .int .i64 0]
      have hB1 := (Below.refl wr.heap.size wr).alloc (Nat.le_refl _) (.cells #[.iface 25 (.pointer (some ⟨p, 0, none⟩)), .int .i64 (opT y.toNat : Int), .int .i64 0] 39)
      have hkr : TokAt wr := HK.out.agree hbel.block
      have hnew := says_un wr.heap.size p y.toNat _ _ hyb (by omega) (hkr.agree hB1.block) hbn (hsay.later hB1)
      have HN : Hid (Says 7 (wr.alloc (.cells #[.iface 25 (.pointer (some ⟨p, 0, none⟩)), .int .i64 (opT y.toNat : Int), .int .i64 0] 39)) wr.heap.size (chainT (l.drop k) (leafT kd s))) := Lib.hid (by
        rw [List.drop_eq_getElem_cons hkl, hy]
        exact hnew)
      have HBN := Lib.hid (hbel.alloc hbel.size (.cells #[.iface 25 (.pointer (some ⟨p, 0, none⟩)), .int .i64 (opT y.toNat : Int), .int .i64 0] 39))
      clear hnew hkr hB1 hbn hld hll hlen hsay hcv hy hbel
      go_wp2_with (go_at_call 10; refine (HOT.out _).mono ?_; rintro e w2 ⟨rfl, rfl⟩)
      go_roundw
      case rel =>
        refine ⟨_, _, ?_, ?_, rfl, rfl, ?_, ?_, HBN.out⟩
        · omega
        · omega
        · simp
        · rw [show ((k : Int) - 1 + 1).toNat = k by omega]
          exact HN.out
      case measure => first | (simp [intOf]; done) | (simp [intOf]; omega)
    · obtain rfl : j = -1 := by omega
      have HS := Lib.hid hsay
      have HBL := Lib.hid hbel
      clear hsay hbel
      go_wp2_with fail
      go_ret
      exact ⟨p, rfl, hp, HS.out, HBL.out⟩

set_option maxHeartbeats 2000000 in
theorem build_sl (oA : Option Addr) (cap m kd : Nat) (l s : List UInt8) (w : World) (hl : l.length = m + 1) (hm : m ≤ 4096) (hs : s.length ≤ 4096) (hkd : kd < 256) (hk4 : kd % 4 = 2) (hk : TokAt w) (hsrc : SrcAt w w.heap.size oA l) :
    Calls Tryd.prog 6 #[.slice oA (m + 1) cap, .int .u8 (kd : Int), .string ⟨s.toArray⟩, .int .i64 0] w (BuildPost l (leafT kd s) w) := by
  obtain ⟨b, o, rfl, hbB, hc⟩ := hsrc.at_ (by omega)
  have hB : ∀ i (h : i < l.length), l[i].toNat < 256 := fun i h => UInt8.toNat_lt _
  have HL : Hid (leafT kd s = s) := Lib.hid (by unfold leafT; rw [hk4]; rfl)
  have h2 : (kd : Int) % 4 = 2 := by omega
  have hml : m < l.length := by omega
  have hcl := hc m hml
  obtain ⟨z, hz⟩ : ∃ z, l[m]'hml = z := ⟨_, rfl⟩
  rw [hz] at hcl
  have hcl1 := (cell_alloc hcl hbB (.cells #[.string ⟨#[]⟩, .int .i64 0, .string ⟨s.toArray⟩] 45))
  have HST := Lib.hid (start_sl z.toNat s w (UInt8.toNat_lt _) (by omega) hk)
  have HB0 := Lib.hid (((Below.refl w.heap.size w).alloc (Nat.le_refl _) (.cells #[.string ⟨#[]⟩, .int .i64 0, .string ⟨s.toArray⟩] 45)).alloc (by simp) (.cells #[.iface 43 (.pointer (some ⟨w.heap.size, 0, none⟩)), .int .i64 (opT z.toNat : Int), .int .i64 0] 39))
  have HC := Lib.hid hc
  have HLN := Lib.hid hl
  have HZ := Lib.hid hz
  have HK := Lib.hid hk
  have hzb := UInt8.toNat_lt z
  have HOT := Lib.hid (fun W => opTok_any z.toNat W hzb)
  have HK4 := Lib.hid hk4
  clear hc hl hz hk hk4 hsrc hB hcl
  go_enter Tryd.func6, Tryd.ntmps6
  go_wp2_with (go_at_call 10; refine (HOT.out _).mono ?_; rintro e w2 ⟨rfl, rfl⟩)
  go_loopw [10, 11] (fun u i wr => ∃ (j : Int) (p : Nat), -1 ≤ j ∧ j < m ∧ i = .int .i64 j ∧ u = .pointer (some ⟨p, 0, none⟩) ∧ p < wr.heap.size ∧ Says 7 wr p (chainT (l.drop (j + 1).toNat) (leafT kd s)) ∧ Below w.heap.size w wr) (fun _ i _ => (intOf i + 1).toNat)
  case atStart =>
    refine ⟨_, _, ?_, ?_, rfl, rfl, ?_, ?_, HB0.out⟩
    · omega
    · omega
    · simp
    · have e : l.drop ((m : Int) - 1 + 1).toNat = [z] := by
        rw [show ((m : Int) - 1 + 1).toNat = m by omega, List.drop_eq_getElem_cons (by have := HLN.out; omega), HZ.out, List.drop_eq_nil_of_le (by have := HLN.out; omega)]
      rw [e, HL.out]
      exact HST.out
  case round =>
    obtain ⟨j, p, hj0, hj1, rfl, rfl, hp, hsay, hbel⟩ := hrel
    clear hcl1 HOT HST HB0
    by_cases hlt : 0 ≤ j
    · obtain ⟨k, rfl⟩ : ∃ k : Nat, j = k := ⟨j.toNat, by omega⟩
      have hkl : k < l.length := by have := HLN.out; omega
      have c1 := (hbel.cell (p := ⟨b, o + k, none⟩) hbB).trans (HC.out k hkl)
      obtain ⟨y, hy⟩ : ∃ y, l[k] = y := ⟨_, rfl⟩
      rw [hy] at c1
      have hyb := UInt8.toNat_lt y
      have HOT := Lib.hid (fun W => opTok_any y.toNat W hyb)
      have hcv : ((k : Int) + 1).toNat = k + 1 := by omega
      rw [hcv] at hsay
      have hlen := chainT_len (l.drop (k + 1)) (leafT kd s)
      have hll := leafT_len kd s
      have hld : (l.drop (k + 1)).length ≤ m := by have := HLN.out; simp; omega
      have hbn := Blk.new wr 39 #[.iface 25 (.pointer (some ⟨p, 0, none⟩)), .int .i64 (opT y.toNat : Int), .int .i64 0]
      have hB1 := (Below.refl wr.heap.size wr).alloc (Nat.le_refl _) (.cells #[.iface 25 (.pointer (some ⟨p, 0, none⟩)), .int .i64 (opT y.toNat : Int), .int .i64 0] 39)
      have hkr : TokAt wr := HK.out.agree hbel.block
      have hnew := says_un wr.heap.size p y.toNat _ _ hyb (by omega) (hkr.agree hB1.block) hbn (hsay.later hB1)
      have HN : Hid (Says 7 (wr.alloc (.cells #[.iface 25 (.pointer (some ⟨p, 0, none⟩)), .int .i64 (opT y.toNat : Int), .int .i64 0] 39)) wr.heap.size (chainT (l.drop k) (leafT kd s))) := Lib.hid (by
        rw [List.drop_eq_getElem_cons hkl, hy]
        exact hnew)
      have HBN := Lib.hid (hbel.alloc hbel.size (.cells #[.iface 25 (.pointer (some ⟨p, 0, none⟩)), .int .i64 (opT y.toNat : Int), .int .i64 0] 39))
      clear hnew hkr hB1 hbn hld hll hlen hsay hcv hy hbel
      go_wp2_with (go_at_call 10; refine (HOT.out _).mono ?_; rintro e w2 ⟨rfl, rfl⟩)
      go_roundw
      case rel =>
        refine ⟨_, _, ?_, ?_, rfl, rfl, ?_, ?_, HBN.out⟩
        · omega
        · omega
        · simp
        · rw [show ((k : Int) - 1 + 1).toNat = k by omega]
          exact HN.out
      case measure => first | (simp [intOf]; done) | (simp [intOf]; omega)
    · obtain rfl : j = -1 := by omega
      have HS := Lib.hid hsay
      have HBL := Lib.hid hbel
      clear hsay hbel
      go_wp2_with fail
      go_ret
      exact ⟨p, rfl, hp, HS.out, HBL.out⟩

set_option maxHeartbeats 2000000 in
theorem build_ud (oA : Option Addr) (cap m kd : Nat) (l s : List UInt8) (w : World) (hl : l.length = m + 1) (hm : m ≤ 4096) (hs : s.length ≤ 4096) (hkd : kd < 256) (hk4 : kd % 4 = 3) (hk : TokAt w) (hsrc : SrcAt w w.heap.size oA l) :
    Calls Tryd.prog 6 #[.slice oA (m + 1) cap, .int .u8 (kd : Int), .string ⟨s.toArray⟩, .int .i64 0] w (BuildPost l (leafT kd s) w) := by
  obtain ⟨b, o, rfl, hbB, hc⟩ := hsrc.at_ (by omega)
  have hB : ∀ i (h : i < l.length), l[i].toNat < 256 := fun i h => UInt8.toNat_lt _
  have HL : Hid (leafT kd s = undefT) := Lib.hid (by unfold leafT; rw [hk4]; rfl)
  have h2 : (kd : Int) % 4 = 3 := by omega
  have hml : m < l.length := by omega
  have hcl := hc m hml
  obtain ⟨z, hz⟩ : ∃ z, l[m]'hml = z := ⟨_, rfl⟩
  rw [hz] at hcl
  have hcl1 := (cell_alloc hcl hbB (.cells #[.int .i64 0] 48))
  have HST := Lib.hid (start_ud z.toNat s w (UInt8.toNat_lt _) (by omega) hk)
  have HB0 := Lib.hid (((Below.refl w.heap.size w).alloc (Nat.le_refl _) (.cells #[.int .i64 0] 48)).alloc (by simp) (.cells #[.iface 46 (.pointer (some ⟨w.heap.size, 0, none⟩)), .int .i64 (opT z.toNat : Int), .int .i64 0] 39))
  have HC := Lib.hid hc
  have HLN := Lib.hid hl
  have HZ := Lib.hid hz
  have HK := Lib.hid hk
  have hzb := UInt8.toNat_lt z
  have HOT := Lib.hid (fun W => opTok_any z.toNat W hzb)
  have HK4 := Lib.hid hk4
  clear hc hl hz hk hk4 hsrc hB hcl
  go_enter Tryd.func6, Tryd.ntmps6
  go_wp2_with (go_at_call 10; refine (HOT.out _).mono ?_; rintro e w2 ⟨rfl, rfl⟩)
  go_loopw [10, 11] (fun u i wr => ∃ (j : Int) (p : Nat), -1 ≤ j ∧ j < m ∧ i = .int .i64 j ∧ u = .pointer (some ⟨p, 0, none⟩) ∧ p < wr.heap.size ∧ Says 7 wr p (chainT (l.drop (j + 1).toNat) (leafT kd s)) ∧ Below w.heap.size w wr) (fun _ i _ => (intOf i + 1).toNat)
  case atStart =>
    refine ⟨_, _, ?_, ?_, rfl, rfl, ?_, ?_, HB0.out⟩
    · omega
    · omega
    · simp
    · have e : l.drop ((m : Int) - 1 + 1).toNat = [z] := by
        rw [show ((m : Int) - 1 + 1).toNat = m by omega, List.drop_eq_getElem_cons (by have := HLN.out; omega), HZ.out, List.drop_eq_nil_of_le (by have := HLN.out; omega)]
      rw [e, HL.out]
      exact HST.out
  case round =>
    obtain ⟨j, p, hj0, hj1, rfl, rfl, hp, hsay, hbel⟩ := hrel
    clear hcl1 HOT HST HB0
    by_cases hlt : 0 ≤ j
    · obtain ⟨k, rfl⟩ : ∃ k : Nat, j = k := ⟨j.toNat, by omega⟩
      have hkl : k < l.length := by have := HLN.out; omega
      have c1 := (hbel.cell (p := ⟨b, o + k, none⟩) hbB).trans (HC.out k hkl)
      obtain ⟨y, hy⟩ : ∃ y, l[k] = y := ⟨_, rfl⟩
      rw [hy] at c1
      have hyb := UInt8.toNat_lt y
      have HOT := Lib.hid (fun W => opTok_any y.toNat W hyb)
      have hcv : ((k : Int) + 1).toNat = k + 1 := by omega
      rw [hcv] at hsay
      have hlen := chainT_len (l.drop (k + 1)) (leafT kd s)
      have hll := leafT_len kd s
      have hld : (l.drop (k + 1)).length ≤ m := by have := HLN.out; simp; omega
      have hbn := Blk.new wr 39 #[.iface 25 (.pointer (some ⟨p, 0, none⟩)), .int .i64 (opT y.toNat : Int), .int .i64 0]
      have hB1 := (Below.refl wr.heap.size wr).alloc (Nat.le_refl _) (.cells #[.iface 25 (.pointer (some ⟨p, 0, none⟩)), .int .i64 (opT y.toNat : Int), .int .i64 0] 39)
      have hkr : TokAt wr := HK.out.agree hbel.block
      have hnew := says_un wr.heap.size p y.toNat _ _ hyb (by omega) (hkr.agree hB1.block) hbn (hsay.later hB1)
      have HN : Hid (Says 7 (wr.alloc (.cells #[.iface 25 (.pointer (some ⟨p, 0, none⟩)), .int .i64 (opT y.toNat : Int), .int .i64 0] 39)) wr.heap.size (chainT (l.drop k) (leafT kd s))) := Lib.hid (by
        rw [List.drop_eq_getElem_cons hkl, hy]
        exact hnew)
      have HBN := Lib.hid (hbel.alloc hbel.size (.cells #[.iface 25 (.pointer (some ⟨p, 0, none⟩)), .int .i64 (opT y.toNat : Int), .int .i64 0] 39))
      clear hnew hkr hB1 hbn hld hll hlen hsay hcv hy hbel
      go_wp2_with (go_at_call 10; refine (HOT.out _).mono ?_; rintro e w2 ⟨rfl, rfl⟩)
      go_roundw
      case rel =>
        refine ⟨_, _, ?_, ?_, rfl, rfl, ?_, ?_, HBN.out⟩
        · omega
        · omega
        · simp
        · rw [show ((k : Int) - 1 + 1).toNat = k by omega]
          exact HN.out
      case measure => first | (simp [intOf]; done) | (simp [intOf]; omega)
    · obtain rfl : j = -1 := by omega
      have HS := Lib.hid hsay
      have HBL := Lib.hid hbel
      clear hsay hbel
      go_wp2_with fail
      go_ret
      exact ⟨p, rfl, hp, HS.out, HBL.out⟩
end Go.Proofs.YthbcmmgfnmheiaaDoor
