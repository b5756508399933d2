/- LawS5722BWhole (3): whatever the lengths. -/
import Derived.Test.YbulkdnmcFmtLw
namespace Go.Proofs.YbulkdnmcFmt
open Go.RowKit Go.Extern.Stop Go.Stop Go.Extern
set_option linter.unusedSimpArgs false
set_option linter.unusedVariables false

set_option maxRecDepth 100000 in
set_option maxHeartbeats 4000000 in
theorem law_any (I : Interp) (n t r id sel mode held : Nat) (rA rB rW rV : Ref) (sa : Option Addr) (sn sc sb so : Nat) (xs : Nat → Nat) (w : World)
    (hn : n < 256) (ht : t < 256) (hr : r < 256) (hid : id < 256) (hsel : sel < 256) (hmode : mode < 256) (hheld : held < 65536)
    (hA : rA.ok w) (hB : rB.ok w) (hW : rW.ok w) (hV : rV.ok w) (hAb : rA.b < w.heap.size) (hBb : rB.b < w.heap.size) (hWb : rW.b < w.heap.size) (hVb : rV.b < w.heap.size)
    (hA0 : rA.a = none → rA.n = 0 ∧ rA.c = 0) (hB0 : rB.a = none → rB.n = 0 ∧ rB.c = 0) (hW0 : rW.a = none → rW.n = 0 ∧ rW.c = 0) (hV0 : rV.a = none → rV.n = 0 ∧ rV.c = 0)
    (hAm : rA.n ≤ maxLen) (hBm : rB.n ≤ maxLen) (hWm : rW.n ≤ maxLen) (hVm : rV.n ≤ maxLen) (hsm : sn ≤ maxLen)
    (hsc : sn ≤ sc) (hsa : 0 < sn → sa = some ⟨sb, so, none⟩) (hsx : ∀ j, j < sn → w.cell? ⟨sb, so + j, none⟩ = some (.int .u16 (xs j)) ∧ xs j < 65536) (hsb : sb < w.heap.size)
    (hI : I.answers w.tape) (hS : Sen w) :
    Calls Ybaf.prog 3 #[.int .u8 n, .int .u8 t, .int .u8 r, .int .u8 id, .int .u8 sel, .int .u8 mode, .int .u16 held, .slice rA.a rA.n rA.c, .slice rB.a rB.n rB.c, .slice rW.a rW.n rW.c, .slice rV.a rV.n rV.c, .slice sa sn sc] w fun e w' => e = .returned (.bool true) ∧ Hid (Fr [] w w') := by
  unfold maxLen at hAm hBm hWm hVm hsm
  by_cases h1 : rW.n ≤ 1048576
  · have l1 : decide ((1048576 : Int) < (rW.n : Int)) = false := by simp; omega
    by_cases h2 : rV.n ≤ 1048576
    · have l2 : decide ((1048576 : Int) < (rV.n : Int)) = false := by simp; omega
      by_cases h3 : rA.n ≤ 1048576
      · have l3 : decide ((1048576 : Int) < (rA.n : Int)) = false := by simp; omega
        by_cases h4 : rB.n ≤ 1048576
        · have l4 : decide ((1048576 : Int) < (rB.n : Int)) = false := by simp; omega
          by_cases h5 : sn ≤ 4096
          · exact law3 I n t r id sel mode held rA rB rW rV sa sn sc sb so xs w hn ht hr hid hsel hmode hheld hA hB hW hV hAb hBb hWb hVb hA0 hB0 hW0 hV0 h3 h4 h1 h2 h5 hsc hsa hsx hsb hI hS
          · have l5 : decide ((4096 : Int) < (sn : Int)) = true := by simp; omega
            clear hA hB hW hV hA0 hB0 hW0 hV0 hsa hsx hS hI
            go_enter Ybaf.func3, Ybaf.ntmps3
            go_wp2
            go_ret
            exact ⟨rfl, Fr.refl _ _⟩
        · have l4 : decide ((1048576 : Int) < (rB.n : Int)) = true := by simp; omega
          clear hA hB hW hV hA0 hB0 hW0 hV0 hsa hsx hS hI
          go_enter Ybaf.func3, Ybaf.ntmps3
          go_wp2
          go_ret
          exact ⟨rfl, Fr.refl _ _⟩
      · have l3 : decide ((1048576 : Int) < (rA.n : Int)) = true := by simp; omega
        clear hA hB hW hV hA0 hB0 hW0 hV0 hsa hsx hS hI
        go_enter Ybaf.func3, Ybaf.ntmps3
        go_wp2
        go_ret
        exact ⟨rfl, Fr.refl _ _⟩
    · have l2 : decide ((1048576 : Int) < (rV.n : Int)) = true := by simp; omega
      clear hA hB hW hV hA0 hB0 hW0 hV0 hsa hsx hS hI
      go_enter Ybaf.func3, Ybaf.ntmps3
      go_wp2
      go_ret
      exact ⟨rfl, Fr.refl _ _⟩
  · have l1 : decide ((1048576 : Int) < (rW.n : Int)) = true := by simp; omega
    clear hA hB hW hV hA0 hB0 hW0 hV0 hsa hsx hS hI
    go_enter Ybaf.func3, Ybaf.ntmps3
    go_wp2
    go_ret
    exact ⟨rfl, Fr.refl _ _⟩
end Go.Proofs.YbulkdnmcFmt
