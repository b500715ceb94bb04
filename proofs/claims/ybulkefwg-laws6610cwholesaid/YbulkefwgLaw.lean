/-
  The law's walk.
-/
import Derived.Test.YbulkefwgLay
import Derived.WalkLawsBesides
import Derived.Deep.DeepCutAuto
import Derived.Deep.CutBlock
namespace Go.Proofs.Ybulkefwg
open Go.RowKit

/-- An append of which it is known what it gives. -/
theorem wpList_append_eq {P : Program} {w : World} {ops : Array Oper} {rest : List Oper} {o : Oper} {a : Act} {Q : Exit → Act → World → Prop} (hgd : o.guard = none) (s x : Operand) (t u : TypeId)
    (ho : o.op = .call { callee := .builtin .append, args := #[s, x], argTypes := #[t, u] }) (v : Value) (w2 : World) (vs vx : Value) (hs : a.eval s = vs) (hx : a.eval x = vx)
    (hrun : ∀ ty, (Builtin.append_ #[t, u] ty #[vs, vx]).run P w = .ok v w2) (h : wpList P ops Q rest (a.put o.dst v) w2) : wpList P ops Q (o :: rest) a w := by
  refine wpList_plain hgd fun K hK => ?_
  have hr := hrun o.type
  unfold Oper.wp
  simp [execOp, ho, resolve, invoke, builtin, hs, hx, hr, Result.andThen]
  exact hK _ _ h

theorem size_ext (s : ByteArray) (a b : Nat) (hb : b ≤ s.size) : (s.extract a b).size = b - a := by
  rw [ByteArray.size_extract]
  omega
theorem bt_ext (s : ByteArray) (a b t : Nat) (h : a + t < b) (hb : b ≤ s.size) : bt (s.extract a b) t = bt s (a + t) := by
  have h1 : t < (s.extract a b).size := by rw [size_ext s a b hb]; omega
  have h2 : a + t < s.size := by omega
  simp only [bt, h1, h2, dif_pos]
  rw [ByteArray.getElem_extract]

def maxText : ByteArray := { data := #[57, 50, 50, 51, 51, 55, 50, 48, 51, 54, 56, 53, 52, 55, 55, 53, 56, 48, 55] }
theorem gtr_run (x : ByteArray) (w : World) : (binOp BinOp.gtr 9 (.string x) (.string { data := #[57, 50, 50, 51, 51, 55, 50, 48, 51, 54, 56, 53, 52, 55, 55, 53, 56, 48, 55] })).run Yba.prog w = .ok (.bool (!(Op.bytesLess x.toList maxText.toList || x.toList == maxText.toList))) w := by
  simp [binOp, Op.stringOp, maxText]
theorem maxText_list : maxText.toList = [57, 50, 50, 51, 51, 55, 50, 48, 51, 54, 56, 53, 52, 55, 55, 53, 56, 48, 55] := by rw [ByteArray.toList_eq]; rfl
theorem max_digs : Digs maxText.toList := by rw [maxText_list]; intro c hc; simp at hc; rcases hc with rfl | rfl | rfl | rfl | rfl | rfl | rfl | rfl | rfl | rfl | rfl | rfl | rfl | rfl | rfl | rfl | rfl | rfl | rfl <;> decide
theorem max_val : vl maxText.toList = 9223372036854775807 := by rw [maxText_list]; rfl
theorem digs_of {x : ByteArray} (h : ∀ t, t < x.size → 48 ≤ bt x t ∧ bt x t ≤ 57) : Digs x.toList := by
  intro c hc
  obtain ⟨m, hm, e⟩ := List.getElem_of_mem hc
  have hm' : m < x.size := by rw [ByteArray.toList_eq] at hm; simpa using hm
  have h1 := bt_list hm'
  rw [List.getElem?_eq_getElem hm, e] at h1
  have h2 := bt_lt x m
  rw [Option.some.inj h1, UInt8.toNat_ofNat_of_lt' h2]
  exact h m hm'
theorem len_list (x : ByteArray) : x.toList.length = x.size := by rw [ByteArray.toList_eq]; simp
theorem vl_all (x : ByteArray) : vl x.toList = val x 0 x.size := by
  have := vl_val x x.size (Nat.le_refl _)
  rw [List.take_of_length_le (by rw [len_list]; exact Nat.le_refl _)] at this
  exact this
theorem less_total : ∀ (x y : List UInt8), x.length = y.length → Op.bytesLess x y = true ∨ Op.bytesLess y x = true ∨ x = y
  | [], [], _ => .inr (.inr rfl)
  | [], _ :: _, h => by simp at h
  | _ :: _, [], h => by simp at h
  | a :: x, b :: y, h => by
    have ih := less_total x y (by simpa using h)
    simp only [Op.bytesLess, Bool.or_eq_true, Bool.and_eq_true, decide_eq_true_eq, beq_iff_eq]
    rcases Nat.lt_trichotomy a.toNat b.toNat with c | c | c
    · exact .inl (.inl c)
    · have e : a = b := UInt8.toNat_inj.1 c
      subst e
      rcases ih with k | k | k
      · exact .inl (.inr ⟨rfl, k⟩)
      · exact .inr (.inl (.inr ⟨rfl, k⟩))
      · exact .inr (.inr (by rw [k]))
    · exact .inr (.inl (.inl c))
/-- The text is greater than the greatest int's: so is its value. -/
theorem gtr_iff {x : ByteArray} (hs : x.size = 19) (h : ∀ t, t < x.size → 48 ≤ bt x t ∧ bt x t ≤ 57) :
    (!(Op.bytesLess x.toList maxText.toList || x.toList == maxText.toList)) = decide (9223372036854775807 < val x 0 19) := by
  have hl : x.toList.length = maxText.toList.length := by rw [len_list, hs, maxText_list]; rfl
  have h1 := less_iff x.toList maxText.toList hl (digs_of h) max_digs
  have h2 := less_iff maxText.toList x.toList hl.symm max_digs (digs_of h)
  have hv : vl x.toList = val x 0 19 := by rw [vl_all, hs]
  rw [max_val, hv] at h1
  rw [max_val, hv] at h2
  by_cases e : x.toList = maxText.toList
  · have : val x 0 19 = 9223372036854775807 := by rw [← hv, e, max_val]
    simp [e, this]
  · have e' : (x.toList == maxText.toList) = false := by simpa using e
    rw [e', Bool.or_false]
    by_cases hlt : val x 0 19 < 9223372036854775807
    · rw [h1.2 hlt]
      simp
      omega
    · have hnl : Op.bytesLess x.toList maxText.toList = false := by
        cases hb : Op.bytesLess x.toList maxText.toList with
        | false => rfl
        | true => exact absurd (h1.1 hb) hlt
      rw [hnl]
      rcases less_total x.toList maxText.toList hl with k | k | k
      · rw [hnl] at k; cases k
      · have := h2.1 k
        simp [this]
      · exact absurd k e

set_option maxHeartbeats 4000000 in
set_option maxRecDepth 100000 in
theorem law (a0 : Option Addr) (len cap : Nat) (t : ByteArray) (w : World) (hl : len ≤ 1048576) (ht : t.size ≤ 1048576) (g : Nat → Nat)
    (H : len = 0 ∨ ∃ b o, a0 = some ⟨b, o, none⟩ ∧ (∀ i, i < len → w.cell? ⟨b, o + i, none⟩ = some (.int .u8 (g i))) ∧ ∀ i, i < len → g i < 256) :
    Calls Yba.prog 3 #[.slice a0 len cap, .string t] w fun e w' => e = .returned (.bool true) ∧ Below w.heap.size w w' := by
  have d1 : decide ((1048576 : Int) < (len : Int)) = false := by simp; omega
  have d2 : decide ((1048576 : Int) < (t.size : Int)) = false := by simp; omega
  obtain ⟨w1, hmk, hU1, hB1⟩ := make22 len t.size hl ht w
  go_enter Yba.func3, Yba.ntmps3
  go_upto_block 0 with fail
  go_cut [5, 7] from 34 to 44 (fun s5 _ w2 => s5 = .slice (some ⟨w.heap.size, 0, none⟩) len (len + t.size) ∧ U8 w2 w.heap.size (len + t.size) ∧ Below w.heap.size w w2)
  case first =>
    as_aux_lemma =>
      go_wp2_with fail
      go_loopw [5, 34] (fun s5 s34 wr => ∃ k : Nat, k ≤ len ∧ s5 = .slice (some ⟨w.heap.size, 0, none⟩) k (len + t.size) ∧ s34 = .int .i64 k ∧ U8 wr w.heap.size (len + t.size) ∧ Below w.heap.size w wr) (fun _ s34 _ => len - (intOf s34).toNat)
      case atStart => exact ⟨0, Nat.zero_le _, rfl, rfl, hU1, hB1⟩
      case round =>
        obtain ⟨k, hk, rfl, rfl, hU, hB⟩ := hrel
        by_cases hlt : k < len
        · rcases H with h0 | ⟨b, o, rfl, hcell, hg⟩
          · omega
          have hk0 : (0 : Int) ≤ (k : Int) := by omega
          have hkm : (k : Int) < (len : Int) := by omega
          have hc0 := hcell k hlt
          have hck : wr.cell? ⟨b, o + k, none⟩ = some (.int .u8 (g k)) := by
            rw [hB.cell]
            · exact hc0
            · rcases Nat.lt_or_ge b w.heap.size with h | h
              · exact h
              · simp [World.cell?, Array.getElem?_eq_none h] at hc0
          have hgk := hg k hlt
          obtain ⟨w3, happ, hU3, hB3⟩ := hU.push (k := k) (by omega) (48 + (g k : Int) % 10) (by omega) (by omega)
          have HAPP := (show Hid _ from happ)
          clear hc0 hcell hg hmk happ
          go_wp2_with (at_builtin; refine wpList_append_eq rfl (.tmp 38) (.tmp 42) 22 22 rfl _ w3 _ _ rfl rfl HAPP.out ?_)
          go_roundw
          case rel => exact ⟨k + 1, by omega, by go_num, by go_num, hU3, hB.trans hB3⟩
          case measure => simp [intOf]; omega
        · have hkm : k = len := by omega
          subst hkm
          clear hmk H
          go_wp2
          go_meet
          exact ⟨rfl, hU, hB⟩
  case rest =>
    obtain ⟨w2, hw2⟩ : ∃ w2, w2 = wc := ⟨_, rfl⟩
    subst hw2
    obtain ⟨rfl, hU2, hB2⟩ := hcut
    obtain ⟨w3, happ, hU3, hB3⟩ := U8.more t hU2
    obtain ⟨s, hs, hconv⟩ := hU3.text
    have hBel3 : Below w.heap.size w w3 := hB2.trans hB3
    have hsz : s.size ≤ 2097152 := by omega
    have HS := (show Hid _ from hs)
    have HAPP := (show Hid _ from happ)
    clear happ
    clear hmk H hU1 hB1 hU2 hB2 hU3 hB3 hs d1 d2
    go_upto_block 2 with (first | (at_builtin; refine wpList_append_eq rfl (.tmp 45) (.tmp 46) 22 9 rfl _ w3 _ _ rfl rfl HAPP.out ?_) | (go_at_call 4; refine (number w3.heap.size s _ hsz (by simp) (by simp)).mono ?_; rintro e w4 ⟨i0, hR0, rfl, hw4⟩))
    obtain ⟨n0, hn0⟩ : ∃ n0 : Int, n0 = ((min (val s 0 i0) 9223372036854775807 : Nat) : Int) := ⟨_, rfl⟩
    have HN := (show Hid (n0 = ((min (val s 0 i0) 9223372036854775807 : Nat) : Int)) from hn0)
    have HR := (show Hid (Run s i0) from hR0)
    have hi0 : i0 ≤ s.size := hR0.le
    rw [← hn0]
    clear hn0 hR0 HAPP hconv
    go_cut [12] from 58 to 75 (fun s12 w' => s12 = .int .i64 i0 ∧ w3.alloc (.cells #[.string (s.extract i0 s.size)] 25) = w')
    case first =>
      as_aux_lemma =>
        go_wp2_with fail
        go_loop [12] (fun s12 => ∃ i, i ≤ s.size ∧ (∀ j, j < i → 48 ≤ bt s j ∧ bt s j ≤ 57) ∧ s12 = .int .i64 i) (fun s12 => s.size - (intOf s12).toNat)
        case atStart => exact ⟨0, by omega, fun j hj => by omega, rfl⟩
        case round =>
          obtain ⟨i, hi, hall, rfl⟩ := hrel
          have hi1 : (0 : Int) ≤ (i : Int) := by omega
          by_cases hlt : i < s.size
          · have hlt' : (i : Int) < (s.size : Int) := by omega
            obtain ⟨c, hcb⟩ : ∃ c, (s[i]'hlt).toNat = c := ⟨_, rfl⟩
            have hbc : bt s i = c := by rw [← bt_eq hlt, hcb]
            have HA := (show Hid (∀ j, j < i → 48 ≤ bt s j ∧ bt s j ≤ 57) from hall)
            have HD := (show Hid (bt s i = c) from hbc)
            by_cases hdig : 48 ≤ c ∧ c ≤ 57
            · have HC := (show Hid (48 ≤ c ∧ c ≤ 57) from hdig)
              have q1 : (48 : Int) ≤ (c : Int) := by omega
              have q2 : (c : Int) ≤ 57 := by omega
              clear hall hbc hdig
              go_wp2
              go_round
              case rel =>
                refine ⟨i + 1, by omega, fun j hj => ?_, by go_num⟩
                by_cases e : j = i
                · subst e
                  have := HC.out
                  have := HD.out
                  omega
                · exact HA.out j (by omega)
              case measure => simp [intOf]; omega
            · have HE : Hid (i = i0) := (show Hid (i = i0) from Run.uniq ⟨hi, hall, fun _ => by rw [hbc]; exact hdig⟩ HR.out)
              clear hall hbc
              by_cases q1 : (48 : Int) ≤ (c : Int)
              · have q2 : ¬ (c : Int) ≤ 57 := by omega
                clear hdig
                go_wp2
                go_meet
                exact ⟨by rw [HE.out], rfl⟩
              · clear hdig
                go_wp2
                go_meet
                exact ⟨by rw [HE.out], rfl⟩
          · have HE : Hid (i = i0) := (show Hid (i = i0) from Run.uniq ⟨hi, hall, fun h => absurd h hlt⟩ HR.out)
            have q1 : ¬ (i : Int) < (s.size : Int) := by omega
            clear hall
            go_wp2
            go_meet
            exact ⟨by rw [HE.out], rfl⟩
    case rest =>
      obtain ⟨rfl, rfl⟩ := hcut
      go_upto_block 4 with fail
      obtain ⟨r, hr⟩ : ∃ r, r = s.extract 0 i0 := ⟨_, rfl⟩
      rw [← hr]
      have hrs : r.size = i0 := by rw [hr, size_ext _ _ _ hi0]; omega
      have HRB : Hid (∀ t, t < i0 → bt r t = bt s t) := (show Hid (∀ t, t < i0 → bt r t = bt s t) from fun t ht => by rw [hr, bt_ext _ _ _ _ (by omega) hi0, Nat.zero_add])
      clear hr
      go_cut [14] from 79 to 90 (fun s14 w' => (∃ j, s14 = .int .i64 (j : Nat) ∧ j ≤ i0 ∧ (∀ t, t < j → bt s t = 48) ∧ (j < i0 → bt s j ≠ 48)) ∧ w3.alloc (.cells #[.string (s.extract i0 s.size)] 25) = w')
      case first =>
        as_aux_lemma =>
          go_wp2_with fail
          go_loop [14] (fun s14 => ∃ j, j ≤ i0 ∧ (∀ t, t < j → bt s t = 48) ∧ s14 = .int .i64 (j : Nat)) (fun s14 => i0 - (intOf s14).toNat)
          case atStart => exact ⟨0, by omega, fun j hj => by omega, rfl⟩
          case round =>
            obtain ⟨j, hj, hall, rfl⟩ := hrel
            have hj1 : (0 : Int) ≤ (j : Int) := by omega
            by_cases hlt : j < i0
            · have hlt' : (j : Int) < (i0 : Int) := by omega
              have hjr : j < r.size := by omega
              obtain ⟨c, hcb⟩ : ∃ c, (r[j]'hjr).toNat = c := ⟨_, rfl⟩
              have hbc : bt s j = c := by rw [← HRB.out j hlt, ← bt_eq hjr, hcb]
              have HA := (show Hid (∀ t, t < j → bt s t = 48) from hall)
              have HD := (show Hid (bt s j = c) from hbc)
              by_cases hdig : c = 48
              · subst hdig
                clear hall hbc
                go_wp2
                go_round
                case rel =>
                  refine ⟨j + 1, by omega, fun t ht => ?_, by go_num⟩
                  by_cases e : t = j
                  · subst e; exact HD.out
                  · exact HA.out t (by omega)
                case measure => simp [intOf]; omega
              · have HE := (show Hid (c ≠ 48) from hdig)
                have q1 : ¬ (c : Int) = 48 := by omega
                clear hall hbc
                go_wp2
                go_meet
                exact ⟨⟨j, rfl, hj, HA.out, fun _ => by rw [HD.out]; exact HE.out⟩, rfl⟩
            · have q1 : ¬ (j : Int) < (i0 : Int) := by omega
              have HA := (show Hid (∀ t, t < j → bt s t = 48) from hall)
              clear hall
              go_wp2
              go_meet
              exact ⟨⟨j, rfl, hj, HA.out, fun h => absurd h hlt⟩, rfl⟩
      case rest =>
        obtain ⟨⟨j, rfl, hj, hz, hnz⟩, rfl⟩ := hcut
        have HZ := (show Hid (∀ t, t < j → bt s t = 48) from hz)
        have HNZ := (show Hid (j < i0 → bt s j ≠ 48) from hnz)
        have hj' : (j : Int) ≤ (i0 : Int) := by omega
        clear hz hnz
        go_upto_region 21 with fail
        obtain ⟨sg, hsg⟩ : ∃ sg, sg = r.extract j i0 := ⟨_, rfl⟩
        rw [← hsg]
        obtain ⟨L, hL⟩ : ∃ L, L = i0 - j := ⟨_, rfl⟩
        have hsgs : sg.size = L := by rw [hsg, size_ext _ _ _ (by omega), hL]
        have hsb : ∀ t, t < L → bt sg t = bt s (j + t) := fun t ht => by rw [hsg, bt_ext _ _ _ _ (by omega) (by omega), HRB.out _ (by omega)]
        have hdg : ∀ t, t < L → 48 ≤ bt sg t ∧ bt sg t ≤ 57 := fun t ht => by rw [hsb t ht]; exact HR.out.all _ (by omega)
        have hv : val s 0 i0 = val sg 0 L := by
          rw [show i0 = j + L by omega, val_shift HZ.out]
          exact val_congr L (fun t ht => by rw [Nat.zero_add, hsb t ht])
        have hn1 : n0 = ((min (val sg 0 L) 9223372036854775807 : Nat) : Int) := by rw [← hv]; exact HN.out
        have h49 : 0 < L → 49 ≤ bt sg 0 := fun h => by
          have e1 := hsb 0 h
          have e2 := HNZ.out (by omega)
          have e3 := (hdg 0 h).1
          rw [Nat.add_zero] at e1
          omega
        have HN1 := (show Hid (n0 = ((min (val sg 0 L) 9223372036854775807 : Nat) : Int)) from hn1)
        have HDG := (show Hid (∀ t, t < L → 48 ≤ bt sg t ∧ bt sg t ≤ 57) from hdg)
        have H49 := (show Hid (0 < L → 49 ≤ bt sg 0) from h49)
        have hLb : L ≤ 2097152 := by omega
        clear hsg hL hsb hdg hv hn1 h49
        have hgt := gtr_run sg
        by_cases hA : 19 < L
        · have hM : n0 = 9223372036854775807 := by
            have h1 := val_ge (s := sg) (a := 0) (H49.out (by omega)) (L - 1)
            rw [show L - 1 + 1 = L by omega] at h1
            have h2 : 10 ^ 19 ≤ 10 ^ (L - 1) := Nat.pow_le_pow_right (by omega) (by omega)
            have h3 := HN1.out
            omega
          subst hM
          have q1 : (19 : Int) < (L : Int) := by omega
          go_wp2_with fail
          go_quiet (fail)
          go_wp2
          go_ret
          exact ⟨by simp, (hBel3.alloc hBel3.size _).trans ⟨rfl, rfl, rfl, Nat.le_refl _, fun _ _ => rfl⟩⟩
        · have q0 : ¬ (19 : Int) < (L : Int) := by omega
          by_cases h19 : L = 19
          · have hG := gtr_iff (x := sg) (by omega) (fun t ht => HDG.out t (by omega))
            subst h19
            by_cases hbig : 9223372036854775807 < val sg 0 19
            · have hM : n0 = 9223372036854775807 := by
                have h3 := HN1.out
                omega
              subst hM
              rw [decide_eq_true hbig, maxText_list] at hG
              simp only [Bool.not_eq_true', Bool.or_eq_false_iff] at hG
              have hb1 : Op.bytesLess sg.toList [57, 50, 50, 51, 51, 55, 50, 48, 51, 54, 56, 53, 52, 55, 55, 53, 56, 48, 55] = false := hG.1
              have hb2 : (sg.toList == [57, 50, 50, 51, 51, 55, 50, 48, 51, 54, 56, 53, 52, 55, 55, 53, 56, 48, 55]) = false := hG.2
              clear hG hgt
              go_wp2_with fail
              go_quiet (fail)
              go_wp2
              go_ret
              exact ⟨by simp, (hBel3.alloc hBel3.size _).trans ⟨rfl, rfl, rfl, Nat.le_refl _, fun _ _ => rfl⟩⟩
            · rw [decide_eq_false hbig, maxText_list] at hG
              have hval : val sg 0 19 ≤ 9223372036854775807 := by omega
              have HVAL := (show Hid (val sg 0 19 ≤ 9223372036854775807) from hval)
              clear hval
              have hself : Op.bytesLess [57, 50, 50, 51, 51, 55, 50, 48, 51, 54, 56, 53, 52, 55, 55, 53, 56, 48, 55] [57, 50, 50, 51, 51, 55, 50, 48, 51, 54, 56, 53, 52, 55, 55, 53, 56, 48, 55] = false := by decide
              cases hb1 : Op.bytesLess sg.toList [57, 50, 50, 51, 51, 55, 50, 48, 51, 54, 56, 53, 52, 55, 55, 53, 56, 48, 55] with
              | true =>
                clear hG hbig hgt hself
                go_wp2_with fail
                go_loop [16, 17] (fun s16 s17 => ∃ k, k ≤ 19 ∧ s16 = .int .i64 ((val sg 0 k : Nat) : Int) ∧ s17 = .int .i64 (k : Nat)) (fun _ s17 => 19 - (intOf s17).toNat)
                case atStart => exact ⟨0, by omega, rfl, rfl⟩
                case round =>
                  obtain ⟨k, hk, rfl, rfl⟩ := hrel
                  have hk1 : (0 : Int) ≤ (k : Int) := by omega
                  by_cases hlt : k < 19
                  · have hlt' : (k : Int) < 19 := by omega
                    have hks : k < sg.size := by omega
                    obtain ⟨c, hcb⟩ : ∃ c, (sg[k]'hks).toNat = c := ⟨_, rfl⟩
                    have hd := HDG.out k hlt
                    rw [← bt_eq hks, hcb] at hd
                    have HD := (show Hid (48 ≤ c ∧ c ≤ 57) from hd)
                    have hv0 : val sg 0 (k + 1) = val sg 0 k * 10 + (c - 48) := by rw [val, Nat.zero_add, ← bt_eq hks, hcb]
                    have HV := (show Hid (val sg 0 (k + 1) = val sg 0 k * 10 + (c - 48)) from hv0)
                    clear hv0
                    have HM : Hid (val sg 0 (k + 1) ≤ 9223372036854775807) := (show Hid (val sg 0 (k + 1) ≤ 9223372036854775807) from Nat.le_trans (val_mono sg 0 (by omega)) HVAL.out)
                    have q1 : (48 : Int) ≤ (c : Int) := by omega
                    have q2 : (c : Int) ≤ 57 := by omega
                    obtain ⟨v, hv⟩ : ∃ v : Int, v = ((val sg 0 k : Nat) : Int) := ⟨_, rfl⟩
                    have HVV := (show Hid (v = ((val sg 0 k : Nat) : Int)) from hv)
                    rw [← hv]
                    clear hv hd
                    go_wp2
                    go_round
                    case rel =>
                      refine ⟨k + 1, by omega, ?_, by go_num⟩
                      have h1 := HVV.out
                      have h2 := HV.out
                      have h3 := HM.out
                      have h4 := HD.out
                      congr 1
                      simp only [wrap64]
                      omega
                    case measure => simp [intOf]; omega
                  · have hkL : k = 19 := by omega
                    subst hkL
                    have hM : n0 = ((val sg 0 19 : Nat) : Int) := by
                      have h1 := HN1.out
                      have h2 := HVAL.out
                      omega
                    subst hM
                    have q1 : ¬ (19 : Int) < (19 : Int) := by omega
                    go_wp2_with fail
                    go_quiet (fail)
                    go_wp2
                    go_ret
                    exact ⟨by simp, (hBel3.alloc hBel3.size _).trans ⟨rfl, rfl, rfl, Nat.le_refl _, fun _ _ => rfl⟩⟩
              | false =>
                have hb2 : sg.toList = [57, 50, 50, 51, 51, 55, 50, 48, 51, 54, 56, 53, 52, 55, 55, 53, 56, 48, 55] := by
                  rw [hb1] at hG
                  simpa using hG
                clear hG hbig hgt hb1
                go_wp2_with fail
                go_loop [16, 17] (fun s16 s17 => ∃ k, k ≤ 19 ∧ s16 = .int .i64 ((val sg 0 k : Nat) : Int) ∧ s17 = .int .i64 (k : Nat)) (fun _ s17 => 19 - (intOf s17).toNat)
                case atStart => exact ⟨0, by omega, rfl, rfl⟩
                case round =>
                  obtain ⟨k, hk, rfl, rfl⟩ := hrel
                  have hk1 : (0 : Int) ≤ (k : Int) := by omega
                  by_cases hlt : k < 19
                  · have hlt' : (k : Int) < 19 := by omega
                    have hks : k < sg.size := by omega
                    obtain ⟨c, hcb⟩ : ∃ c, (sg[k]'hks).toNat = c := ⟨_, rfl⟩
                    have hd := HDG.out k hlt
                    rw [← bt_eq hks, hcb] at hd
                    have HD := (show Hid (48 ≤ c ∧ c ≤ 57) from hd)
                    have hv0 : val sg 0 (k + 1) = val sg 0 k * 10 + (c - 48) := by rw [val, Nat.zero_add, ← bt_eq hks, hcb]
                    have HV := (show Hid (val sg 0 (k + 1) = val sg 0 k * 10 + (c - 48)) from hv0)
                    clear hv0
                    have HM : Hid (val sg 0 (k + 1) ≤ 9223372036854775807) := (show Hid (val sg 0 (k + 1) ≤ 9223372036854775807) from Nat.le_trans (val_mono sg 0 (by omega)) HVAL.out)
                    have q1 : (48 : Int) ≤ (c : Int) := by omega
                    have q2 : (c : Int) ≤ 57 := by omega
                    obtain ⟨v, hv⟩ : ∃ v : Int, v = ((val sg 0 k : Nat) : Int) := ⟨_, rfl⟩
                    have HVV := (show Hid (v = ((val sg 0 k : Nat) : Int)) from hv)
                    rw [← hv]
                    clear hv hd
                    go_wp2
                    go_round
                    case rel =>
                      refine ⟨k + 1, by omega, ?_, by go_num⟩
                      have h1 := HVV.out
                      have h2 := HV.out
                      have h3 := HM.out
                      have h4 := HD.out
                      congr 1
                      simp only [wrap64]
                      omega
                    case measure => simp [intOf]; omega
                  · have hkL : k = 19 := by omega
                    subst hkL
                    have hM : n0 = ((val sg 0 19 : Nat) : Int) := by
                      have h1 := HN1.out
                      have h2 := HVAL.out
                      omega
                    subst hM
                    have q1 : ¬ (19 : Int) < (19 : Int) := by omega
                    go_wp2_with fail
                    go_quiet (fail)
                    go_wp2
                    go_ret
                    exact ⟨by simp, (hBel3.alloc hBel3.size _).trans ⟨rfl, rfl, rfl, Nat.le_refl _, fun _ _ => rfl⟩⟩
          · have q2 : ¬ (L : Int) = 19 := by omega
            have hval : val sg 0 L ≤ 9223372036854775807 := by
              have h1 := vl_lt sg.toList (digs_of (fun t ht => HDG.out t (by omega)))
              rw [vl_all, len_list, hsgs] at h1
              have h2 : 10 ^ L ≤ 10 ^ 18 := Nat.pow_le_pow_right (by omega) (by omega)
              omega
            have HVAL := (show Hid (val sg 0 L ≤ 9223372036854775807) from hval)
            clear hval
            go_wp2_with fail
            go_loop [16, 17] (fun s16 s17 => ∃ k, k ≤ L ∧ s16 = .int .i64 ((val sg 0 k : Nat) : Int) ∧ s17 = .int .i64 (k : Nat)) (fun _ s17 => L - (intOf s17).toNat)
            case atStart => exact ⟨0, by omega, rfl, rfl⟩
            case round =>
              obtain ⟨k, hk, rfl, rfl⟩ := hrel
              have hk1 : (0 : Int) ≤ (k : Int) := by omega
              by_cases hlt : k < L
              · have hlt' : (k : Int) < (L : Int) := by omega
                have hks : k < sg.size := by omega
                obtain ⟨c, hcb⟩ : ∃ c, (sg[k]'hks).toNat = c := ⟨_, rfl⟩
                have hd := HDG.out k hlt
                rw [← bt_eq hks, hcb] at hd
                have HD := (show Hid (48 ≤ c ∧ c ≤ 57) from hd)
                have hv0 : val sg 0 (k + 1) = val sg 0 k * 10 + (c - 48) := by rw [val, Nat.zero_add, ← bt_eq hks, hcb]
                have HV := (show Hid (val sg 0 (k + 1) = val sg 0 k * 10 + (c - 48)) from hv0)
                clear hv0
                have HM : Hid (val sg 0 (k + 1) ≤ 9223372036854775807) := (show Hid (val sg 0 (k + 1) ≤ 9223372036854775807) from Nat.le_trans (val_mono sg 0 (by omega)) HVAL.out)
                have q1 : (48 : Int) ≤ (c : Int) := by omega
                have q2 : (c : Int) ≤ 57 := by omega
                obtain ⟨v, hv⟩ : ∃ v : Int, v = ((val sg 0 k : Nat) : Int) := ⟨_, rfl⟩
                have HVV := (show Hid (v = ((val sg 0 k : Nat) : Int)) from hv)
                rw [← hv]
                clear hv hd
                go_wp2
                go_round
                case rel =>
                  refine ⟨k + 1, by omega, ?_, by go_num⟩
                  have h1 := HVV.out
                  have h2 := HV.out
                  have h3 := HM.out
                  have h4 := HD.out
                  congr 1
                  simp only [wrap64]
                  omega
                case measure => simp [intOf]; omega
              · have hkL : k = L := by omega
                subst hkL
                have hM : n0 = ((val sg 0 k : Nat) : Int) := by
                  have h1 := HN1.out
                  have h2 := HVAL.out
                  omega
                subst hM
                have q1 : ¬ (k : Int) < (k : Int) := by omega
                go_wp2_with fail
                go_quiet (fail)
                go_wp2
                go_ret
                exact ⟨by simp, (hBel3.alloc hBel3.size _).trans ⟨rfl, rfl, rfl, Nat.le_refl _, fun _ _ => rfl⟩⟩
end Go.Proofs.Ybulkefwg
