/-
  The Error methods on the road, and cannotRead by five contracts.
-/
import Derived.Test.YbulkefveFmtFind
import Derived.Below
import Derived.BigQuiet
import Derived.Deep.QuietTactic
namespace Go.Proofs.YbulkefveFmt
open Go.RowKit Go.Extern.Stop Go.Stop Go.Extern
theorem Ybaf.methodError22 (p : Addr) (w : World) : (Go.method 295 22 (.pointer (some p)) "Error").run Ybaf.prog w = .ok (89, .pointer (some p)) w := by kernel_rfl
theorem Ybaf.methodError27 (p : Addr) (w : World) : (Go.method 295 27 (.pointer (some p)) "Error").run Ybaf.prog w = .ok (90, .pointer (some p)) w := by kernel_rfl
theorem Ybaf.methodError30 (p : Addr) (w : World) : (Go.method 295 30 (.pointer (some p)) "Error").run Ybaf.prog w = .ok (92, .pointer (some p)) w := by kernel_rfl
theorem error22 (b : Nat) (x : Value) (w : World) (h1 : w.cell? ⟨b, 0, none⟩ = some x) : Calls Ybaf.prog 89 #[.pointer (some ⟨b, 0, none⟩)] w fun e w' => e = .returned x ∧ w' = w := by
  go_enter Ybaf.func89, Ybaf.ntmps89
  go_wp2
  go_ret
  exact ⟨rfl, rfl⟩
theorem error30 (b : Nat) (x : Value) (w : World) (h1 : w.cell? ⟨b, 0, none⟩ = some x) : Calls Ybaf.prog 92 #[.pointer (some ⟨b, 0, none⟩)] w fun e w' => e = .returned x ∧ w' = w := by
  go_enter Ybaf.func92, Ybaf.ntmps92
  go_wp2
  go_ret
  exact ⟨rfl, rfl⟩
theorem cat_run {a b : ByteArray} (h : a.size + b.size ≤ 9223372036854775807) (w : World) : (Op.stringOp .add a b).run Ybaf.prog w = .ok (.string (a ++ b)) w := run_string_add_sum w a b h
set_option maxHeartbeats 1000000 in
theorem error27 (b bi : Nat) (o p m : ByteArray) (w : World) (h0 : w.cell? ⟨b, 0, none⟩ = some (.string o)) (h1 : w.cell? ⟨b, 1, none⟩ = some (.string p))
    (h2 : w.cell? ⟨b, 2, none⟩ = some (.iface 22 (.pointer (some ⟨bi, 0, none⟩)))) (h3 : w.cell? ⟨bi, 0, none⟩ = some (.string m))
    (ho : o.size < 140737488355328) (hp : p.size < 140737488355328) (hm : m.size < 140737488355328) :
    Calls Ybaf.prog 90 #[.pointer (some ⟨b, 0, none⟩)] w fun e w' => e = .returned (.string (o ++ { data := #[32] } ++ p ++ { data := #[58, 32] } ++ m)) ∧ ∃ n, w' = w.drewN n := by
  have mE := Ybaf.methodError22
  have z1 : (o ++ { data := #[32] }).size = o.size + 1 := by rw [ByteArray.size_append]; rfl
  have z2 : (o ++ { data := #[32] } ++ p).size = o.size + 1 + p.size := by rw [ByteArray.size_append, z1]
  have z3 : (o ++ { data := #[32] } ++ p ++ { data := #[58, 32] }).size = o.size + 1 + p.size + 2 := by rw [ByteArray.size_append, z2]; rfl
  have s1 := cat_run (a := o) (b := { data := #[32] }) (by rw [← ByteArray.size_append, z1]; omega)
  have s2 := cat_run (a := o ++ { data := #[32] }) (b := p) (by rw [z1]; omega)
  have s3 := cat_run (a := o ++ { data := #[32] } ++ p) (b := { data := #[58, 32] }) (by rw [← ByteArray.size_append, z3]; omega)
  have s4 := cat_run (a := o ++ { data := #[32] } ++ p ++ { data := #[58, 32] }) (b := m) (by rw [z3]; omega)
  clear z1 z2 z3 ho hp hm
  go_enter Ybaf.func90, Ybaf.ntmps90
  go_wp2
  go_quiet ((go_at_call 89; exact Calls.quiet_of_same (error22 bi _ _ (by simpa using h3))))
  go_wp2
  go_ret
  exact ⟨rfl, _, rfl⟩

/-- What cannotRead leaves: a new Error of this file, at no place, with this text; nothing that was there has turned. -/
def Told (file txt : ByteArray) (w : World) (e : Ending) (w' : World) : Prop :=
  ∃ r, e = .returned (.pointer (some ⟨r, 0, none⟩)) ∧ w'.cell? ⟨r, 0, none⟩ = some (.string file) ∧ w'.cell? ⟨r, 1, none⟩ = some (.int .i32 0) ∧ w'.cell? ⟨r, 2, none⟩ = some (.int .i32 0)
    ∧ w'.cell? ⟨r, 3, none⟩ = some (.string ({ data := #[99, 97, 110, 110, 111, 116, 32, 114, 101, 97, 100, 58, 32] } ++ txt)) ∧ Below w.heap.size w w'
theorem told_mk (file txt : ByteArray) {w w2 : World} (h : Below w.heap.size w w2) :
    Told file txt w (.returned (.pointer (some ⟨w2.heap.size, 0, none⟩))) (w2.alloc (.cells #[.string file, .int .i32 0, .int .i32 0, .string ({ data := #[99, 97, 110, 110, 111, 116, 32, 114, 101, 97, 100, 58, 32] } ++ txt)] 38)) := by
  refine ⟨_, rfl, by simp, by simp, by simp, by simp, h.alloc h.size _⟩
theorem below_draw {B : Nat} {a w : World} (h : Below B a w) (n : Nat) : Below B a (w.drewN n) := h.trans ⟨rfl, rfl, rfl, Nat.le_refl _, fun _ _ => rfl⟩
theorem below_miss (w : World) (o : Obj) (t : Addr) : Below w.heap.size w (w3 (w.alloc o) t) :=
  ((((Below.refl _ w).alloc (Nat.le_refl _) _).alloc (by simp) _).alloc (by simp; omega) _).alloc (by simp; omega) _
theorem below_hit (w : World) (o x : Obj) (v : Value) : Below w.heap.size w (((w3 (w.alloc o) ⟨w.heap.size, 0, none⟩).alloc x).setCell ⟨w.heap.size, 0, none⟩ v) :=
  ((below_miss w o _).alloc (below_miss w o _).size _).setCell (Nat.le_refl _) _
theorem cell_hit (w : World) (x : Obj) (v : Value) : (((w3 (w.alloc (.cells #[.pointer none] 27)) ⟨w.heap.size, 0, none⟩).alloc x).setCell ⟨w.heap.size, 0, none⟩ v).cell? ⟨w.heap.size, 0, none⟩ = some v := by
  refine World.cell?_setCell_same _ _ _ (u := .pointer none) ?_
  unfold w3
  rw [World.cell?_alloc_lt _ _ _ (by simp; omega), World.cell?_alloc_lt _ _ _ (by simp; omega), World.cell?_alloc_lt _ _ _ (by simp; omega), World.cell?_alloc_lt _ _ _ (by simp)]
  simp
theorem cat13 (m : ByteArray) (h : m.size < 1125899906842624) : ∀ w, (Op.stringOp .add { data := #[99, 97, 110, 110, 111, 116, 32, 114, 101, 97, 100, 58, 32] } m).run Ybaf.prog w = .ok (.string ({ data := #[99, 97, 110, 110, 111, 116, 32, 114, 101, 97, 100, 58, 32] } ++ m)) w :=
  cat_run (by
    have z : ({ data := #[99, 97, 110, 110, 111, 116, 32, 114, 101, 97, 100, 58, 32] } : ByteArray).size = 13 := rfl
    rw [z]; omega)

set_option maxHeartbeats 2000000 in
theorem read_plain (bi : Nat) (m : ByteArray) (hm : m.size < 140737488355328) (file : ByteArray) (w : World) (hg : w.cell? ⟨0, 0, none⟩ = some (.iface 97 (.agg #[.pointer (some ⟨16, 26, none⟩)]))) (hi : w.cell? ⟨bi, 0, none⟩ = some (.string m)) : Calls Ybaf.prog 5 #[.string file, .iface 22 (.pointer (some ⟨bi, 0, none⟩))] w (Told file (m) w) := by
  have mE := Ybaf.methodError22
  have mF := Ybaf.methodError30
  have mG := Ybaf.methodError27
  have s13 := cat13 m (by omega)
  have hg1 : (w.alloc (.cells #[.pointer none] 27)).cell? ⟨0, 0, none⟩ = some (.iface 97 (.agg #[.pointer (some ⟨16, 26, none⟩)])) := by (rw [World.cell?_alloc_lt _ _ _ (lt_of_cell hg)]; exact hg)
  have hi1 : (w.alloc (.cells #[.pointer none] 27)).cell? ⟨bi, 0, none⟩ = some (.string m) := by (rw [World.cell?_alloc_lt _ _ _ (lt_of_cell hi)]; exact hi)
  go_enter Ybaf.func5, Ybaf.ntmps5
  go_wp2_with (first | (go_at_call 11; refine (as_miss _ _ _ hg1).mono ?_; rintro e w2 ⟨rfl, hw⟩; have hB2 : Below w.heap.size w w2 := (by rw [hw]; exact below_miss _ _ _); have hi2 : w2.cell? ⟨bi, 0, none⟩ = some (.string m) := (by rw [hB2.cell (lt_of_cell hi)]; exact hi); clear hw) | (go_at_call 89; refine (error22 bi _ _ hi2).mono ?_; rintro e w3 ⟨rfl, rfl⟩))
  go_ret
  exact told_mk _ _ hB2

set_option maxHeartbeats 2000000 in
theorem read_peel (bp bi : Nat) (m : ByteArray) (hm : m.size < 140737488355328) (file : ByteArray) (w : World) (hg : w.cell? ⟨0, 0, none⟩ = some (.iface 97 (.agg #[.pointer (some ⟨16, 26, none⟩)]))) (hq : w.cell? ⟨bp, 2, none⟩ = some (.iface 22 (.pointer (some ⟨bi, 0, none⟩)))) (hi : w.cell? ⟨bi, 0, none⟩ = some (.string m)) : Calls Ybaf.prog 5 #[.string file, .iface 27 (.pointer (some ⟨bp, 0, none⟩))] w (Told file (m) w) := by
  have mE := Ybaf.methodError22
  have mF := Ybaf.methodError30
  have mG := Ybaf.methodError27
  have s13 := cat13 m (by omega)
  have hg1 : (w.alloc (.cells #[.pointer none] 27)).cell? ⟨0, 0, none⟩ = some (.iface 97 (.agg #[.pointer (some ⟨16, 26, none⟩)])) := by (rw [World.cell?_alloc_lt _ _ _ (lt_of_cell hg)]; exact hg)
  have hq1 : (w.alloc (.cells #[.pointer none] 27)).cell? ⟨bp, 2, none⟩ = some (.iface 22 (.pointer (some ⟨bi, 0, none⟩))) := by (rw [World.cell?_alloc_lt _ _ _ (lt_of_cell hq)]; exact hq)
  have hi1 : (w.alloc (.cells #[.pointer none] 27)).cell? ⟨bi, 0, none⟩ = some (.string m) := by (rw [World.cell?_alloc_lt _ _ _ (lt_of_cell hi)]; exact hi)
  have ht1 : (w.alloc (.cells #[.pointer none] 27)).cell? ⟨w.heap.size, 0, none⟩ = some (.pointer none) := by simp
  have hf1 : (w.alloc (.cells #[.pointer none] 27)).frozen? ⟨w.heap.size, 0, none⟩ = false := by simp
  go_enter Ybaf.func5, Ybaf.ntmps5
  go_wp2_with (first | (go_at_call 11; refine (as_hit _ _ _ _ hg1 ht1 hf1).mono ?_; rintro e w2 ⟨rfl, hw⟩; have hB2 : Below w.heap.size w w2 := (by rw [hw]; exact below_hit _ _ _ _); have hp2 := cell_hit w (.cells #[.pointer (some ⟨bp, 0, none⟩)] 27) (.pointer (some ⟨bp, 0, none⟩)); rw [← hw] at hp2; have hq2 : w2.cell? ⟨bp, 2, none⟩ = some (.iface 22 (.pointer (some ⟨bi, 0, none⟩))) := (by rw [hB2.cell (lt_of_cell hq)]; exact hq); have hi2 : w2.cell? ⟨bi, 0, none⟩ = some (.string m) := (by rw [hB2.cell (lt_of_cell hi)]; exact hi); clear hw) | (go_at_call 89; refine (error22 bi _ _ hi2).mono ?_; rintro e w3 ⟨rfl, rfl⟩))
  go_ret
  exact told_mk _ _ hB2

set_option maxHeartbeats 2000000 in
theorem read_under (bw bp bi : Nat) (m : ByteArray) (hm : m.size < 140737488355328) (file : ByteArray) (w : World) (hg : w.cell? ⟨0, 0, none⟩ = some (.iface 97 (.agg #[.pointer (some ⟨16, 26, none⟩)]))) (hv : w.cell? ⟨bw, 1, none⟩ = some (.iface 27 (.pointer (some ⟨bp, 0, none⟩)))) (hq : w.cell? ⟨bp, 2, none⟩ = some (.iface 22 (.pointer (some ⟨bi, 0, none⟩)))) (hi : w.cell? ⟨bi, 0, none⟩ = some (.string m)) : Calls Ybaf.prog 5 #[.string file, .iface 30 (.pointer (some ⟨bw, 0, none⟩))] w (Told file (m) w) := by
  have mE := Ybaf.methodError22
  have mF := Ybaf.methodError30
  have mG := Ybaf.methodError27
  have s13 := cat13 m (by omega)
  have hg1 : (w.alloc (.cells #[.pointer none] 27)).cell? ⟨0, 0, none⟩ = some (.iface 97 (.agg #[.pointer (some ⟨16, 26, none⟩)])) := by (rw [World.cell?_alloc_lt _ _ _ (lt_of_cell hg)]; exact hg)
  have hv1 : (w.alloc (.cells #[.pointer none] 27)).cell? ⟨bw, 1, none⟩ = some (.iface 27 (.pointer (some ⟨bp, 0, none⟩))) := by (rw [World.cell?_alloc_lt _ _ _ (lt_of_cell hv)]; exact hv)
  have hq1 : (w.alloc (.cells #[.pointer none] 27)).cell? ⟨bp, 2, none⟩ = some (.iface 22 (.pointer (some ⟨bi, 0, none⟩))) := by (rw [World.cell?_alloc_lt _ _ _ (lt_of_cell hq)]; exact hq)
  have hi1 : (w.alloc (.cells #[.pointer none] 27)).cell? ⟨bi, 0, none⟩ = some (.string m) := by (rw [World.cell?_alloc_lt _ _ _ (lt_of_cell hi)]; exact hi)
  have ht1 : (w.alloc (.cells #[.pointer none] 27)).cell? ⟨w.heap.size, 0, none⟩ = some (.pointer none) := by simp
  have hf1 : (w.alloc (.cells #[.pointer none] 27)).frozen? ⟨w.heap.size, 0, none⟩ = false := by simp
  go_enter Ybaf.func5, Ybaf.ntmps5
  go_wp2_with (first | (go_at_call 11; refine (as_wrap_hit _ _ _ _ _ hv1 hg1 ht1 hf1).mono ?_; rintro e w2 ⟨rfl, hw⟩; have hB2 : Below w.heap.size w w2 := (by rw [hw]; exact below_hit _ _ _ _); have hp2 := cell_hit w (.cells #[.pointer (some ⟨bp, 0, none⟩)] 27) (.pointer (some ⟨bp, 0, none⟩)); rw [← hw] at hp2; have hv2 : w2.cell? ⟨bw, 1, none⟩ = some (.iface 27 (.pointer (some ⟨bp, 0, none⟩))) := (by rw [hB2.cell (lt_of_cell hv)]; exact hv); have hq2 : w2.cell? ⟨bp, 2, none⟩ = some (.iface 22 (.pointer (some ⟨bi, 0, none⟩))) := (by rw [hB2.cell (lt_of_cell hq)]; exact hq); have hi2 : w2.cell? ⟨bi, 0, none⟩ = some (.string m) := (by rw [hB2.cell (lt_of_cell hi)]; exact hi); clear hw) | (go_at_call 89; refine (error22 bi _ _ hi2).mono ?_; rintro e w3 ⟨rfl, rfl⟩))
  go_ret
  exact told_mk _ _ hB2

set_option maxHeartbeats 2000000 in
theorem read_over (bw bi : Nat) (m : ByteArray) (hm : m.size < 140737488355328) (file : ByteArray) (w : World) (hg : w.cell? ⟨0, 0, none⟩ = some (.iface 97 (.agg #[.pointer (some ⟨16, 26, none⟩)]))) (ho : w.cell? ⟨bw, 0, none⟩ = some (.string m)) (hv : w.cell? ⟨bw, 1, none⟩ = some (.iface 22 (.pointer (some ⟨bi, 0, none⟩)))) : Calls Ybaf.prog 5 #[.string file, .iface 30 (.pointer (some ⟨bw, 0, none⟩))] w (Told file (m) w) := by
  have mE := Ybaf.methodError22
  have mF := Ybaf.methodError30
  have mG := Ybaf.methodError27
  have s13 := cat13 m (by omega)
  have hg1 : (w.alloc (.cells #[.pointer none] 27)).cell? ⟨0, 0, none⟩ = some (.iface 97 (.agg #[.pointer (some ⟨16, 26, none⟩)])) := by (rw [World.cell?_alloc_lt _ _ _ (lt_of_cell hg)]; exact hg)
  have ho1 : (w.alloc (.cells #[.pointer none] 27)).cell? ⟨bw, 0, none⟩ = some (.string m) := by (rw [World.cell?_alloc_lt _ _ _ (lt_of_cell ho)]; exact ho)
  have hv1 : (w.alloc (.cells #[.pointer none] 27)).cell? ⟨bw, 1, none⟩ = some (.iface 22 (.pointer (some ⟨bi, 0, none⟩))) := by (rw [World.cell?_alloc_lt _ _ _ (lt_of_cell hv)]; exact hv)
  go_enter Ybaf.func5, Ybaf.ntmps5
  go_wp2_with (first | (go_at_call 11; refine (as_wrap_miss _ _ _ _ hv1 hg1).mono ?_; rintro e w2 ⟨rfl, hw⟩; have hB2 : Below w.heap.size w w2 := (by rw [hw]; exact below_miss _ _ _); have ho2 : w2.cell? ⟨bw, 0, none⟩ = some (.string m) := (by rw [hB2.cell (lt_of_cell ho)]; exact ho); have hv2 : w2.cell? ⟨bw, 1, none⟩ = some (.iface 22 (.pointer (some ⟨bi, 0, none⟩))) := (by rw [hB2.cell (lt_of_cell hv)]; exact hv); clear hw) | (go_at_call 92; refine (error30 bw _ _ ho2).mono ?_; rintro e w3 ⟨rfl, rfl⟩))
  go_ret
  exact told_mk _ _ hB2

set_option maxHeartbeats 2000000 in
theorem read_peel2 (bp bq bi : Nat) (o p m : ByteArray) (hos : o.size < 140737488355328) (hps : p.size < 140737488355328) (hms : m.size < 140737488355328) (file : ByteArray) (w : World) (hg : w.cell? ⟨0, 0, none⟩ = some (.iface 97 (.agg #[.pointer (some ⟨16, 26, none⟩)]))) (hq : w.cell? ⟨bp, 2, none⟩ = some (.iface 27 (.pointer (some ⟨bq, 0, none⟩)))) (hx : w.cell? ⟨bq, 0, none⟩ = some (.string o)) (hy : w.cell? ⟨bq, 1, none⟩ = some (.string p)) (hz : w.cell? ⟨bq, 2, none⟩ = some (.iface 22 (.pointer (some ⟨bi, 0, none⟩)))) (hi : w.cell? ⟨bi, 0, none⟩ = some (.string m)) : Calls Ybaf.prog 5 #[.string file, .iface 27 (.pointer (some ⟨bp, 0, none⟩))] w (Told file (o ++ { data := #[32] } ++ p ++ { data := #[58, 32] } ++ m) w) := by
  have mE := Ybaf.methodError22
  have mF := Ybaf.methodError30
  have mG := Ybaf.methodError27
  have z0 : (o ++ { data := #[32] } ++ p ++ { data := #[58, 32] } ++ m).size < 1125899906842624 := by
    have z1 : (o ++ { data := #[32] }).size = o.size + 1 := by rw [ByteArray.size_append]; rfl
    have z3 : (o ++ { data := #[32] } ++ p ++ { data := #[58, 32] }).size = o.size + 1 + p.size + 2 := by rw [ByteArray.size_append, ByteArray.size_append, z1]; rfl
    rw [ByteArray.size_append, z3]; omega
  have s13 := cat13 (o ++ { data := #[32] } ++ p ++ { data := #[58, 32] } ++ m) z0
  clear z0
  have hg1 : (w.alloc (.cells #[.pointer none] 27)).cell? ⟨0, 0, none⟩ = some (.iface 97 (.agg #[.pointer (some ⟨16, 26, none⟩)])) := by (rw [World.cell?_alloc_lt _ _ _ (lt_of_cell hg)]; exact hg)
  have hq1 : (w.alloc (.cells #[.pointer none] 27)).cell? ⟨bp, 2, none⟩ = some (.iface 27 (.pointer (some ⟨bq, 0, none⟩))) := by (rw [World.cell?_alloc_lt _ _ _ (lt_of_cell hq)]; exact hq)
  have hx1 : (w.alloc (.cells #[.pointer none] 27)).cell? ⟨bq, 0, none⟩ = some (.string o) := by (rw [World.cell?_alloc_lt _ _ _ (lt_of_cell hx)]; exact hx)
  have hy1 : (w.alloc (.cells #[.pointer none] 27)).cell? ⟨bq, 1, none⟩ = some (.string p) := by (rw [World.cell?_alloc_lt _ _ _ (lt_of_cell hy)]; exact hy)
  have hz1 : (w.alloc (.cells #[.pointer none] 27)).cell? ⟨bq, 2, none⟩ = some (.iface 22 (.pointer (some ⟨bi, 0, none⟩))) := by (rw [World.cell?_alloc_lt _ _ _ (lt_of_cell hz)]; exact hz)
  have hi1 : (w.alloc (.cells #[.pointer none] 27)).cell? ⟨bi, 0, none⟩ = some (.string m) := by (rw [World.cell?_alloc_lt _ _ _ (lt_of_cell hi)]; exact hi)
  have ht1 : (w.alloc (.cells #[.pointer none] 27)).cell? ⟨w.heap.size, 0, none⟩ = some (.pointer none) := by simp
  have hf1 : (w.alloc (.cells #[.pointer none] 27)).frozen? ⟨w.heap.size, 0, none⟩ = false := by simp
  go_enter Ybaf.func5, Ybaf.ntmps5
  go_wp2_with (first | (go_at_call 11; refine (as_hit _ _ _ _ hg1 ht1 hf1).mono ?_; rintro e w2 ⟨rfl, hw⟩; have hB2 : Below w.heap.size w w2 := (by rw [hw]; exact below_hit _ _ _ _); have hp2 := cell_hit w (.cells #[.pointer (some ⟨bp, 0, none⟩)] 27) (.pointer (some ⟨bp, 0, none⟩)); rw [← hw] at hp2; have hq2 : w2.cell? ⟨bp, 2, none⟩ = some (.iface 27 (.pointer (some ⟨bq, 0, none⟩))) := (by rw [hB2.cell (lt_of_cell hq)]; exact hq); have hx2 : w2.cell? ⟨bq, 0, none⟩ = some (.string o) := (by rw [hB2.cell (lt_of_cell hx)]; exact hx); have hy2 : w2.cell? ⟨bq, 1, none⟩ = some (.string p) := (by rw [hB2.cell (lt_of_cell hy)]; exact hy); have hz2 : w2.cell? ⟨bq, 2, none⟩ = some (.iface 22 (.pointer (some ⟨bi, 0, none⟩))) := (by rw [hB2.cell (lt_of_cell hz)]; exact hz); have hi2 : w2.cell? ⟨bi, 0, none⟩ = some (.string m) := (by rw [hB2.cell (lt_of_cell hi)]; exact hi); clear hw) | (go_at_call 90; refine (error27 bq bi o p m _ hx2 hy2 hz2 hi2 hos hps hms).mono ?_; rintro e w3 ⟨rfl, n, rfl⟩))
  go_ret
  exact told_mk _ _ (below_draw hB2 _)
end Go.Proofs.YbulkefveFmt
