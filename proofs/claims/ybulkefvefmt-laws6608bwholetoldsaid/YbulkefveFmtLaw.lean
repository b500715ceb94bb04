/-
  The law's walk, one theorem a mode.
-/
import Derived.Test.YbulkefveFmtRead
import Derived.Laws.StructEq
namespace Go.Proofs.YbulkefveFmt
open Go.RowKit Go.Extern.Stop Go.Stop Go.Extern

set_option maxHeartbeats 2000000 in
theorem law0 (file msg op path op2 path2 : ByteArray) (mode : Int) (w : World) (hg : w.cell? ⟨0, 0, none⟩ = some (.iface 97 (.agg #[.pointer (some ⟨16, 26, none⟩)])))
    (h0 : 0 ≤ mode) (h1 : mode ≤ 255) (hk : mode % 5 = 0) (hm : msg.size < 140737488355328) :
    Calls Ybaf.prog 3 #[.string file, .string msg, .string op, .string path, .string op2, .string path2, .int .u8 mode] w fun e w' => e = .returned (.bool true) ∧ Below w.heap.size w w' := by
  have hlt : 0 < w.heap.size := lt_of_cell hg
  have hg1 : (w.alloc (.cells #[.string msg] 24)).cell? ⟨0, 0, none⟩ = some (.iface 97 (.agg #[.pointer (some ⟨16, 26, none⟩)])) := by
    rw [World.cell?_alloc_lt _ _ _ (hlt)]; exact hg
  have hi1 : (w.alloc (.cells #[.string msg] 24)).cell? ⟨w.heap.size, 0, none⟩ = some (.string msg) := by rw [World.cell?_alloc_at _ _ _ _ (by simp)]; rfl
  have hB1 : Below w.heap.size w (w.alloc (.cells #[.string msg] 24)) := ((Below.refl _ w).alloc (Nat.le_refl _) _)
  have s13 := cat13 msg (by omega)
  go_enter Ybaf.func3, Ybaf.ntmps3
  go_wp2_with (go_at_call 5; refine (read_plain (w.heap.size) msg hm _ _ hg1 hi1).mono ?_; rintro e w2 ⟨r, rfl, c0, c1, c2, c3, hB⟩; have hi2 : w2.cell? ⟨w.heap.size, 0, none⟩ = some (.string msg) := (by rw [hB.cell (lt_of_cell hi1)]; exact hi1); replace hB := hB1.trans (hB.mono hB1.size))
  go_ret
  exact ⟨by simp, hB⟩

set_option maxHeartbeats 2000000 in
theorem law1 (file msg op path op2 path2 : ByteArray) (mode : Int) (w : World) (hg : w.cell? ⟨0, 0, none⟩ = some (.iface 97 (.agg #[.pointer (some ⟨16, 26, none⟩)])))
    (h0 : 0 ≤ mode) (h1 : mode ≤ 255) (hk : mode % 5 = 1) (hm : msg.size < 140737488355328) :
    Calls Ybaf.prog 3 #[.string file, .string msg, .string op, .string path, .string op2, .string path2, .int .u8 mode] w fun e w' => e = .returned (.bool true) ∧ Below w.heap.size w w' := by
  have hlt : 0 < w.heap.size := lt_of_cell hg
  have hg1 : ((w.alloc (.cells #[.string msg] 24)).alloc (.cells #[.string op, .string path, .iface 22 (.pointer (some ⟨w.heap.size, 0, none⟩))] 29)).cell? ⟨0, 0, none⟩ = some (.iface 97 (.agg #[.pointer (some ⟨16, 26, none⟩)])) := by
    rw [World.cell?_alloc_lt _ _ _ (by simp <;> omega), World.cell?_alloc_lt _ _ _ (hlt)]; exact hg
  have hq1 : ((w.alloc (.cells #[.string msg] 24)).alloc (.cells #[.string op, .string path, .iface 22 (.pointer (some ⟨w.heap.size, 0, none⟩))] 29)).cell? ⟨w.heap.size + 1, 2, none⟩ = some (.iface 22 (.pointer (some ⟨w.heap.size, 0, none⟩))) := by rw [World.cell?_alloc_at _ _ _ _ (by simp)]; rfl
  have hi1 : ((w.alloc (.cells #[.string msg] 24)).alloc (.cells #[.string op, .string path, .iface 22 (.pointer (some ⟨w.heap.size, 0, none⟩))] 29)).cell? ⟨w.heap.size, 0, none⟩ = some (.string msg) := by rw [World.cell?_alloc_lt _ _ _ (by simp <;> omega)]; rw [World.cell?_alloc_at _ _ _ _ (by simp)]; rfl
  have hB1 : Below w.heap.size w ((w.alloc (.cells #[.string msg] 24)).alloc (.cells #[.string op, .string path, .iface 22 (.pointer (some ⟨w.heap.size, 0, none⟩))] 29)) := (((Below.refl _ w).alloc (Nat.le_refl _) _).alloc (by simp <;> omega) _)
  have s13 := cat13 msg (by omega)
  have n0 : ¬ mode % 5 = 0 := by omega
  go_enter Ybaf.func3, Ybaf.ntmps3
  go_wp2_with (go_at_call 5; refine (read_peel (w.heap.size + 1) (w.heap.size) msg hm _ _ hg1 hq1 hi1).mono ?_; rintro e w2 ⟨r, rfl, c0, c1, c2, c3, hB⟩; have hi2 : w2.cell? ⟨w.heap.size, 0, none⟩ = some (.string msg) := (by rw [hB.cell (lt_of_cell hi1)]; exact hi1); replace hB := hB1.trans (hB.mono hB1.size))
  go_ret
  exact ⟨by simp, hB⟩

set_option maxHeartbeats 2000000 in
theorem law2 (file msg op path op2 path2 : ByteArray) (mode : Int) (w : World) (hg : w.cell? ⟨0, 0, none⟩ = some (.iface 97 (.agg #[.pointer (some ⟨16, 26, none⟩)])))
    (h0 : 0 ≤ mode) (h1 : mode ≤ 255) (hk : mode % 5 = 2) (hm : msg.size < 140737488355328) :
    Calls Ybaf.prog 3 #[.string file, .string msg, .string op, .string path, .string op2, .string path2, .int .u8 mode] w fun e w' => e = .returned (.bool true) ∧ Below w.heap.size w w' := by
  have hlt : 0 < w.heap.size := lt_of_cell hg
  have hg1 : (((w.alloc (.cells #[.string msg] 24)).alloc (.cells #[.string op, .string path, .iface 22 (.pointer (some ⟨w.heap.size, 0, none⟩))] 29)).alloc (.cells #[.string op2, .iface 27 (.pointer (some ⟨w.heap.size + 1, 0, none⟩))] 32)).cell? ⟨0, 0, none⟩ = some (.iface 97 (.agg #[.pointer (some ⟨16, 26, none⟩)])) := by
    rw [World.cell?_alloc_lt _ _ _ (by simp <;> omega), World.cell?_alloc_lt _ _ _ (by simp <;> omega), World.cell?_alloc_lt _ _ _ (hlt)]; exact hg
  have hv1 : (((w.alloc (.cells #[.string msg] 24)).alloc (.cells #[.string op, .string path, .iface 22 (.pointer (some ⟨w.heap.size, 0, none⟩))] 29)).alloc (.cells #[.string op2, .iface 27 (.pointer (some ⟨w.heap.size + 1, 0, none⟩))] 32)).cell? ⟨w.heap.size + 1 + 1, 1, none⟩ = some (.iface 27 (.pointer (some ⟨w.heap.size + 1, 0, none⟩))) := by rw [World.cell?_alloc_at _ _ _ _ (by simp)]; rfl
  have hq1 : (((w.alloc (.cells #[.string msg] 24)).alloc (.cells #[.string op, .string path, .iface 22 (.pointer (some ⟨w.heap.size, 0, none⟩))] 29)).alloc (.cells #[.string op2, .iface 27 (.pointer (some ⟨w.heap.size + 1, 0, none⟩))] 32)).cell? ⟨w.heap.size + 1, 2, none⟩ = some (.iface 22 (.pointer (some ⟨w.heap.size, 0, none⟩))) := by rw [World.cell?_alloc_lt _ _ _ (by simp <;> omega)]; rw [World.cell?_alloc_at _ _ _ _ (by simp)]; rfl
  have hi1 : (((w.alloc (.cells #[.string msg] 24)).alloc (.cells #[.string op, .string path, .iface 22 (.pointer (some ⟨w.heap.size, 0, none⟩))] 29)).alloc (.cells #[.string op2, .iface 27 (.pointer (some ⟨w.heap.size + 1, 0, none⟩))] 32)).cell? ⟨w.heap.size, 0, none⟩ = some (.string msg) := by rw [World.cell?_alloc_lt _ _ _ (by simp <;> omega), World.cell?_alloc_lt _ _ _ (by simp <;> omega)]; rw [World.cell?_alloc_at _ _ _ _ (by simp)]; rfl
  have hB1 : Below w.heap.size w (((w.alloc (.cells #[.string msg] 24)).alloc (.cells #[.string op, .string path, .iface 22 (.pointer (some ⟨w.heap.size, 0, none⟩))] 29)).alloc (.cells #[.string op2, .iface 27 (.pointer (some ⟨w.heap.size + 1, 0, none⟩))] 32)) := ((((Below.refl _ w).alloc (Nat.le_refl _) _).alloc (by simp <;> omega) _).alloc (by simp <;> omega) _)
  have s13 := cat13 msg (by omega)
  have n0 : ¬ mode % 5 = 0 := by omega
  have n1 : ¬ mode % 5 = 1 := by omega
  go_enter Ybaf.func3, Ybaf.ntmps3
  go_wp2_with (go_at_call 5; refine (read_under (w.heap.size + 1 + 1) (w.heap.size + 1) (w.heap.size) msg hm _ _ hg1 hv1 hq1 hi1).mono ?_; rintro e w2 ⟨r, rfl, c0, c1, c2, c3, hB⟩; have hi2 : w2.cell? ⟨w.heap.size, 0, none⟩ = some (.string msg) := (by rw [hB.cell (lt_of_cell hi1)]; exact hi1); replace hB := hB1.trans (hB.mono hB1.size))
  go_ret
  exact ⟨by simp, hB⟩

set_option maxHeartbeats 2000000 in
theorem law3 (file msg op path op2 path2 : ByteArray) (mode : Int) (w : World) (hg : w.cell? ⟨0, 0, none⟩ = some (.iface 97 (.agg #[.pointer (some ⟨16, 26, none⟩)])))
    (h0 : 0 ≤ mode) (h1 : mode ≤ 255) (hk : mode % 5 = 3) (ho : op2.size < 140737488355328) :
    Calls Ybaf.prog 3 #[.string file, .string msg, .string op, .string path, .string op2, .string path2, .int .u8 mode] w fun e w' => e = .returned (.bool true) ∧ Below w.heap.size w w' := by
  have hlt : 0 < w.heap.size := lt_of_cell hg
  have hg1 : ((w.alloc (.cells #[.string msg] 24)).alloc (.cells #[.string op2, .iface 22 (.pointer (some ⟨w.heap.size, 0, none⟩))] 32)).cell? ⟨0, 0, none⟩ = some (.iface 97 (.agg #[.pointer (some ⟨16, 26, none⟩)])) := by
    rw [World.cell?_alloc_lt _ _ _ (by simp <;> omega), World.cell?_alloc_lt _ _ _ (hlt)]; exact hg
  have hx1 : ((w.alloc (.cells #[.string msg] 24)).alloc (.cells #[.string op2, .iface 22 (.pointer (some ⟨w.heap.size, 0, none⟩))] 32)).cell? ⟨w.heap.size + 1, 0, none⟩ = some (.string op2) := by rw [World.cell?_alloc_at _ _ _ _ (by simp)]; rfl
  have hv1 : ((w.alloc (.cells #[.string msg] 24)).alloc (.cells #[.string op2, .iface 22 (.pointer (some ⟨w.heap.size, 0, none⟩))] 32)).cell? ⟨w.heap.size + 1, 1, none⟩ = some (.iface 22 (.pointer (some ⟨w.heap.size, 0, none⟩))) := by rw [World.cell?_alloc_at _ _ _ _ (by simp)]; rfl
  have hi1 : ((w.alloc (.cells #[.string msg] 24)).alloc (.cells #[.string op2, .iface 22 (.pointer (some ⟨w.heap.size, 0, none⟩))] 32)).cell? ⟨w.heap.size, 0, none⟩ = some (.string msg) := by rw [World.cell?_alloc_lt _ _ _ (by simp <;> omega)]; rw [World.cell?_alloc_at _ _ _ _ (by simp)]; rfl
  have hB1 : Below w.heap.size w ((w.alloc (.cells #[.string msg] 24)).alloc (.cells #[.string op2, .iface 22 (.pointer (some ⟨w.heap.size, 0, none⟩))] 32)) := (((Below.refl _ w).alloc (Nat.le_refl _) _).alloc (by simp <;> omega) _)
  have s13 := cat13 op2 (by omega)
  have n0 : ¬ mode % 5 = 0 := by omega
  have n1 : ¬ mode % 5 = 1 := by omega
  have n2 : ¬ mode % 5 = 2 := by omega
  go_enter Ybaf.func3, Ybaf.ntmps3
  go_wp2_with (go_at_call 5; refine (read_over (w.heap.size + 1) (w.heap.size) op2 ho _ _ hg1 hx1 hv1).mono ?_; rintro e w2 ⟨r, rfl, c0, c1, c2, c3, hB⟩; have hi2 : w2.cell? ⟨w.heap.size, 0, none⟩ = some (.string msg) := (by rw [hB.cell (lt_of_cell hi1)]; exact hi1); replace hB := hB1.trans (hB.mono hB1.size))
  go_ret
  exact ⟨by simp, hB⟩

set_option maxHeartbeats 2000000 in
theorem law4 (file msg op path op2 path2 : ByteArray) (mode : Int) (w : World) (hg : w.cell? ⟨0, 0, none⟩ = some (.iface 97 (.agg #[.pointer (some ⟨16, 26, none⟩)])))
    (h0 : 0 ≤ mode) (h1 : mode ≤ 255) (hk : mode % 5 = 4) (hm : msg.size < 140737488355328) (ho : op2.size < 140737488355328) (hp : path2.size < 140737488355328) :
    Calls Ybaf.prog 3 #[.string file, .string msg, .string op, .string path, .string op2, .string path2, .int .u8 mode] w fun e w' => e = .returned (.bool true) ∧ Below w.heap.size w w' := by
  have hlt : 0 < w.heap.size := lt_of_cell hg
  have hg1 : (((w.alloc (.cells #[.string msg] 24)).alloc (.cells #[.string op2, .string path2, .iface 22 (.pointer (some ⟨w.heap.size, 0, none⟩))] 29)).alloc (.cells #[.string op, .string path, .iface 27 (.pointer (some ⟨w.heap.size + 1, 0, none⟩))] 29)).cell? ⟨0, 0, none⟩ = some (.iface 97 (.agg #[.pointer (some ⟨16, 26, none⟩)])) := by
    rw [World.cell?_alloc_lt _ _ _ (by simp <;> omega), World.cell?_alloc_lt _ _ _ (by simp <;> omega), World.cell?_alloc_lt _ _ _ (hlt)]; exact hg
  have hq1 : (((w.alloc (.cells #[.string msg] 24)).alloc (.cells #[.string op2, .string path2, .iface 22 (.pointer (some ⟨w.heap.size, 0, none⟩))] 29)).alloc (.cells #[.string op, .string path, .iface 27 (.pointer (some ⟨w.heap.size + 1, 0, none⟩))] 29)).cell? ⟨w.heap.size + 1 + 1, 2, none⟩ = some (.iface 27 (.pointer (some ⟨w.heap.size + 1, 0, none⟩))) := by rw [World.cell?_alloc_at _ _ _ _ (by simp)]; rfl
  have hx1 : (((w.alloc (.cells #[.string msg] 24)).alloc (.cells #[.string op2, .string path2, .iface 22 (.pointer (some ⟨w.heap.size, 0, none⟩))] 29)).alloc (.cells #[.string op, .string path, .iface 27 (.pointer (some ⟨w.heap.size + 1, 0, none⟩))] 29)).cell? ⟨w.heap.size + 1, 0, none⟩ = some (.string op2) := by rw [World.cell?_alloc_lt _ _ _ (by simp <;> omega)]; rw [World.cell?_alloc_at _ _ _ _ (by simp)]; rfl
  have hy1 : (((w.alloc (.cells #[.string msg] 24)).alloc (.cells #[.string op2, .string path2, .iface 22 (.pointer (some ⟨w.heap.size, 0, none⟩))] 29)).alloc (.cells #[.string op, .string path, .iface 27 (.pointer (some ⟨w.heap.size + 1, 0, none⟩))] 29)).cell? ⟨w.heap.size + 1, 1, none⟩ = some (.string path2) := by rw [World.cell?_alloc_lt _ _ _ (by simp <;> omega)]; rw [World.cell?_alloc_at _ _ _ _ (by simp)]; rfl
  have hz1 : (((w.alloc (.cells #[.string msg] 24)).alloc (.cells #[.string op2, .string path2, .iface 22 (.pointer (some ⟨w.heap.size, 0, none⟩))] 29)).alloc (.cells #[.string op, .string path, .iface 27 (.pointer (some ⟨w.heap.size + 1, 0, none⟩))] 29)).cell? ⟨w.heap.size + 1, 2, none⟩ = some (.iface 22 (.pointer (some ⟨w.heap.size, 0, none⟩))) := by rw [World.cell?_alloc_lt _ _ _ (by simp <;> omega)]; rw [World.cell?_alloc_at _ _ _ _ (by simp)]; rfl
  have hi1 : (((w.alloc (.cells #[.string msg] 24)).alloc (.cells #[.string op2, .string path2, .iface 22 (.pointer (some ⟨w.heap.size, 0, none⟩))] 29)).alloc (.cells #[.string op, .string path, .iface 27 (.pointer (some ⟨w.heap.size + 1, 0, none⟩))] 29)).cell? ⟨w.heap.size, 0, none⟩ = some (.string msg) := by rw [World.cell?_alloc_lt _ _ _ (by simp <;> omega), World.cell?_alloc_lt _ _ _ (by simp <;> omega)]; rw [World.cell?_alloc_at _ _ _ _ (by simp)]; rfl
  have hB1 : Below w.heap.size w (((w.alloc (.cells #[.string msg] 24)).alloc (.cells #[.string op2, .string path2, .iface 22 (.pointer (some ⟨w.heap.size, 0, none⟩))] 29)).alloc (.cells #[.string op, .string path, .iface 27 (.pointer (some ⟨w.heap.size + 1, 0, none⟩))] 29)) := ((((Below.refl _ w).alloc (Nat.le_refl _) _).alloc (by simp <;> omega) _).alloc (by simp <;> omega) _)
  have z1 : (op2 ++ { data := #[32] }).size = op2.size + 1 := by rw [ByteArray.size_append]; rfl
  have z2 : (op2 ++ { data := #[32] } ++ path2).size = op2.size + 1 + path2.size := by rw [ByteArray.size_append, z1]
  have z3 : (op2 ++ { data := #[32] } ++ path2 ++ { data := #[58, 32] }).size = op2.size + 1 + path2.size + 2 := by rw [ByteArray.size_append, z2]; rfl
  have z4 : (op2 ++ { data := #[32] } ++ path2 ++ { data := #[58, 32] } ++ msg).size = op2.size + 1 + path2.size + 2 + msg.size := by rw [ByteArray.size_append, z3]
  have s1 := cat_run (a := op2) (b := { data := #[32] }) (by rw [← ByteArray.size_append, z1]; omega)
  have s2 := cat_run (a := op2 ++ { data := #[32] }) (b := path2) (by rw [z1]; omega)
  have s3 := cat_run (a := op2 ++ { data := #[32] } ++ path2) (b := { data := #[58, 32] }) (by rw [← ByteArray.size_append, z3]; omega)
  have s4 := cat_run (a := op2 ++ { data := #[32] } ++ path2 ++ { data := #[58, 32] }) (b := msg) (by rw [z3]; omega)
  have s13 := cat13 (op2 ++ { data := #[32] } ++ path2 ++ { data := #[58, 32] } ++ msg) (by rw [z4]; omega)
  clear z1 z2 z3 z4
  have n0 : ¬ mode % 5 = 0 := by omega
  have n1 : ¬ mode % 5 = 1 := by omega
  have n2 : ¬ mode % 5 = 2 := by omega
  have n3 : ¬ mode % 5 = 3 := by omega
  go_enter Ybaf.func3, Ybaf.ntmps3
  go_wp2_with (go_at_call 5; refine (read_peel2 (w.heap.size + 1 + 1) (w.heap.size + 1) (w.heap.size) op2 path2 msg ho hp hm _ _ hg1 hq1 hx1 hy1 hz1 hi1).mono ?_; rintro e w2 ⟨r, rfl, c0, c1, c2, c3, hB⟩; have hi2 : w2.cell? ⟨w.heap.size, 0, none⟩ = some (.string msg) := (by rw [hB.cell (lt_of_cell hi1)]; exact hi1); replace hB := hB1.trans (hB.mono hB1.size))
  go_ret
  exact ⟨by simp, hB⟩
end Go.Proofs.YbulkefveFmt
