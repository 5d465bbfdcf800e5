import Derived.Test.YbulkanimDigits
import Derived.Deep.DeepCutAuto
import Derived.Deep.CutBlock
namespace Go.Proofs.Ybulkanim
open Go.RowKit

/-- The world inside 'scanNumber': two new variables, the text's slice and the place. -/
structure Ex (w wx : World) (sv : Value) (i : Nat) : Prop where
  os : wx.os = w.os
  tape : wx.tape = w.tape
  output : wx.output = w.output
  size : wx.heap.size = w.heap.size + 2
  old : ∀ k, k < w.heap.size → wx.heap[k]? = w.heap[k]?
  var : wx.heap[w.heap.size]? = some (.cells #[sv] 22 (0, 0))
  idx : wx.heap[w.heap.size + 1]? = some (.cells #[.int .i64 i] 3 (0, 0))

theorem ex_start (w : World) (sv : Value) (i : Nat) : Ex w ((w.alloc (.cells #[sv] 22)).alloc (.cells #[.int .i64 i] 3)) sv i := by
  refine ⟨rfl, rfl, rfl, by simp, fun k hk => ?_, ?_, ?_⟩
  · rw [Below.heap_alloc _ _ _ (by simp; omega), Below.heap_alloc _ _ _ hk]
  · rw [Below.heap_alloc _ _ _ (by simp)]
    exact heap_alloc_new _ _
  · have := heap_alloc_new (w.alloc (.cells #[sv] 22)) (.cells #[.int .i64 i] 3)
    simpa using this

theorem Ex.set {w wx : World} {sv : Value} {i : Nat} (h : Ex w wx sv i) (j : Nat) : Ex w (wx.setCell ⟨w.heap.size + 1, 0, none⟩ (.int .i64 j)) sv j :=
  ⟨h.os, h.tape, h.output, by simp [World.setCell, h.size], fun k hk => by rw [Below.heap_setCell _ _ _ _ (by show k ≠ w.heap.size + 1; omega)]; exact h.old k hk,
    by rw [Below.heap_setCell _ _ _ _ (by show w.heap.size ≠ w.heap.size + 1; omega)]; exact h.var, one_setCell h.idx⟩

theorem Ex.set' {w wx : World} {sv : Value} {i : Nat} (h : Ex w wx sv i) (j : Nat) (z : Int) (hz : z = j) : Ex w (wx.setCell ⟨w.heap.size + 1, 0, none⟩ (.int .i64 z)) sv j := by
  subst hz
  exact h.set j

theorem Ex.but {w wx w' : World} {sv : Value} {i k : Nat} (h : Ex w wx sv i) (hb : But (w.heap.size + 1) wx w') (hi : w'.heap[w.heap.size + 1]? = some (.cells #[.int .i64 k] 3 (0, 0))) : Ex w w' sv k :=
  ⟨hb.os.trans h.os, hb.tape.trans h.tape, hb.output.trans h.output, hb.size.trans h.size, fun k hk => (hb.block k (by omega)).trans (h.old k hk), (hb.block _ (by omega)).trans h.var, hi⟩

theorem Ex.cell {w wx : World} {sv : Value} {i : Nat} (h : Ex w wx sv i) {p : Addr} (hp : p.block < w.heap.size) : wx.cell? p = w.cell? p := World.cell?_of_block (w := w) (h.old p.block hp)
theorem Ex.frozen {w wx : World} {sv : Value} {i : Nat} (h : Ex w wx sv i) {p : Addr} (hp : p.block < w.heap.size) : wx.frozen? p = w.frozen? p := World.frozen?_of_block (w := w) (h.old p.block hp)

/-- 'i < len(data) && data[i] == c'. -/
def tst (D : Nat → Int) (n i : Nat) (c : Int) : Bool := decide (i < n) && (D i == c)
theorem tst_in {D : Nat → Int} {n i : Nat} {c : Int} (h : i < n) : tst D n i c = (D i == c) := by simp [tst, h]
theorem tst_out {D : Nat → Int} {n i : Nat} {c : Int} (h : ¬ i < n) : tst D n i c = false := by simp [tst, h]
theorem tst_yes {D : Nat → Int} {n i : Nat} {c : Int} (h : tst D n i c = true) : i < n ∧ D i = c := by simpa [tst] using h
theorem tst_no {D : Nat → Int} {n i : Nat} {c : Int} (h : tst D n i c = false) : i < n → D i ≠ c := by simpa [tst] using h

/-- 'i < len(data) && (data[i] == 'e' || data[i] == 'E')'. -/
def ee (D : Nat → Int) (n i : Nat) : Bool := decide (i < n) && (D i == 101 || D i == 69)
theorem ee_in {D : Nat → Int} {n i : Nat} (h : i < n) : ee D n i = (D i == 101 || D i == 69) := by simp [ee, h]
theorem ee_out {D : Nat → Int} {n i : Nat} (h : ¬ i < n) : ee D n i = false := by simp [ee, h]
theorem ee_yes {D : Nat → Int} {n i : Nat} (h : ee D n i = true) : i < n ∧ (D i = 101 ∨ D i = 69) := by simpa [ee] using h
theorem ee_no {D : Nat → Int} {n i : Nat} (h : ee D n i = false) : i < n → D i ≠ 101 ∧ D i ≠ 69 := by simpa [ee] using h

/-- 'i < len(data) && (data[i] == '+' || data[i] == '-')'. -/
def sg (D : Nat → Int) (n i : Nat) : Bool := decide (i < n) && (D i == 43 || D i == 45)
theorem sg_in {D : Nat → Int} {n i : Nat} (h : i < n) : sg D n i = (D i == 43 || D i == 45) := by simp [sg, h]
theorem sg_out {D : Nat → Int} {n i : Nat} (h : ¬ i < n) : sg D n i = false := by simp [sg, h]
theorem sg_yes {D : Nat → Int} {n i : Nat} (h : sg D n i = true) : i < n ∧ (D i = 43 ∨ D i = 45) := by simpa [sg] using h
theorem sg_no {D : Nat → Int} {n i : Nat} (h : sg D n i = false) : i < n → D i ≠ 43 ∧ D i ≠ 45 := by simpa [sg] using h

set_option maxRecDepth 1000000 in
set_option maxHeartbeats 4000000 in
theorem scan_any (Bs Bd n c p : Nat) (D : Nat → Int) (hn : n ≤ 1024) (hp : p ≤ n) (w : World)
    (s0 : w.cell? ⟨Bs, 0, none⟩ = some (.slice (some ⟨Bd, 0, none⟩) n c)) (s1 : w.cell? ⟨Bs, 1, none⟩ = some (.int .i64 p)) (s3 : w.cell? ⟨Bs, 3, none⟩ = some (.bool false))
    (f1 : w.frozen? ⟨Bs, 1, none⟩ = false) (f3 : w.frozen? ⟨Bs, 3, none⟩ = false) (lS : Bs < w.heap.size) (lD : Bd < w.heap.size)
    (hD : Hid (∀ j, j < n → w.cell? ⟨Bd, j, none⟩ = some (.int .u8 (D j)))) :
    Calls Yba.prog 4 #[.pointer (some ⟨Bs, 0, none⟩)] w fun e w' => e = .returned (.tuple #[]) ∧ ∃ (wx : World) (i : Nat), Ex w wx (.slice (some ⟨Bd, 0, none⟩) n c) i ∧
      ((Bad D n p ∧ w' = wx.setCell ⟨Bs, 3, none⟩ (.bool true)) ∨ ∃ e : Nat, Good D n p e ∧ w' = wx.setCell ⟨Bs, 1, none⟩ (.int .i64 e)) := by
  have hmf : ∀ (fn : Fn) (first cap : Array Value) (w : World), (Instr.makeFunc fn first cap).run Yba.prog w = .ok (.func fn first cap) w := fun _ _ _ _ => rfl
  go_enter Yba.func4, Yba.ntmps4
  go_upto_region 3 with fail
  clear hmf
  have hE := hide_it (ex_start w (.slice (some ⟨Bd, 0, none⟩) n c) p)
  go_cut [24] (fun t wx => t = .bool (tst D n p 45) ∧ Hid (Ex w wx (.slice (some ⟨Bd, 0, none⟩) n c) p))
  case first =>
    by_cases hlt : p < n
    · have cd : ∀ o1 o2, ((w.alloc o1).alloc o2).cell? ⟨Bd, p, none⟩ = some (.int .u8 (D p)) := fun o1 o2 => by
        rw [World.cell?_alloc_lt _ _ _ (by simp; omega), World.cell?_alloc_lt _ _ _ (by exact lD)]; exact hD.out p hlt
      go_wp2
      go_meet
      case rel => exact ⟨by rw [tst_in hlt], hE⟩
    · go_wp2
      go_meet
      case rel => exact ⟨by rw [tst_out hlt], hE⟩
  case rest =>
    obtain ⟨rfl, HE⟩ := hcut
    clear hE
    go_upto_if 24 with fail
    go_cut [] (fun wx => ∃ s i : Nat, Hid (StA D n p s i) ∧ Hid (Ex w wx (.slice (some ⟨Bd, 0, none⟩) n c) i) ∧ i ≤ n)
    case first =>
      cases ht : tst D n p 45
      · have HA := hide_it (a_none hp (tst_no ht))
        go_wp2
        go_meet
        case rel => exact ⟨0, p, HA, HE, hp⟩
      · obtain ⟨g1, g2⟩ := tst_yes ht
        have HA := hide_it (a_minus g1 g2)
        have HX := hide_it (HE.out.set (p + 1))
        have ci := cell_of_one HE.out.idx
        have fi := free_of_one HE.out.idx
        clear g2
        go_wp2
        go_meet
        case rel => exact ⟨1, p + 1, HA, HX, by omega⟩
    case rest =>
      clear HE
      obtain ⟨s, i, HA, HE, hi⟩ := hcut
      go_upto_block 0 with fail
      go_cut [27, 41] (fun _ _ wx => ∃ s i : Nat, Hid (StB D n p s i) ∧ Hid (Ex w wx (.slice (some ⟨Bd, 0, none⟩) n c) i) ∧ i ≤ n)
      case first =>
        have cv := cell_of_one HE.out.var
        have ci := cell_of_one HE.out.idx
        have fi := free_of_one HE.out.idx
        have CD := hide_it (digits_any (w.heap.size + 1) w.heap.size Bd D n i c hn (by omega) wc (by omega) (by omega) HE.out.idx cv (fun j hj => (HE.out.cell (p := ⟨Bd, j, none⟩) lD).trans (hD.out j hj)))
        cases ht : tst D n i 48
        · have H0 := hide_it (tst_no ht)
          by_cases hlt : i < n
          · have cd : wc.cell? ⟨Bd, i, none⟩ = some (.int .u8 (D (i))) := (HE.out.cell (p := ⟨Bd, i, none⟩) lD).trans (hD.out _ hlt)
            have hq : (D i == 48) = false := beq_eq_false_iff_ne.2 (H0.out hlt)
            clear ht
            go_wp2_with fail
            refine Calls.mono CD.out ?_
            rintro e w1 ⟨k, rfl, hde, hbut, hk⟩
            have HX := hide_it (HE.out.but hbut hk)
            have HDE := hide_it hde
            have kn := hde.le
            clear hbut hk hde CD
            by_cases hik : i < k
            · have HB := hide_it (b_digits HA.out H0.out HDE.out hik)
              go_wp2
              go_meet
              case rel => exact ⟨3, k, HB, HX, kn⟩
            · obtain rfl : k = i := by have := HDE.out.ge; omega
              have HB := hide_it (b_bad HA.out H0.out HDE.out)
              have e3 : w1.cell? ⟨Bs, 3, none⟩ = some (.bool false) := (HX.out.cell (p := ⟨Bs, 3, none⟩) lS).trans s3
              have e4 : w1.frozen? ⟨Bs, 3, none⟩ = false := (HX.out.frozen (p := ⟨Bs, 3, none⟩) lS).trans f3
              go_wp2
              refine bodyPost_ret (results_none rfl _ _ _) rfl ?_
              exact ⟨rfl, w1, _, HX.out, .inl ⟨HB.out, rfl⟩⟩
          · clear ht
            go_wp2_with fail
            refine Calls.mono CD.out ?_
            rintro e w1 ⟨k, rfl, hde, hbut, hk⟩
            have HX := hide_it (HE.out.but hbut hk)
            have HDE := hide_it hde
            have kn := hde.le
            clear hbut hk hde CD
            by_cases hik : i < k
            · have HB := hide_it (b_digits HA.out H0.out HDE.out hik)
              go_wp2
              go_meet
              case rel => exact ⟨3, k, HB, HX, kn⟩
            · obtain rfl : k = i := by have := HDE.out.ge; omega
              have HB := hide_it (b_bad HA.out H0.out HDE.out)
              have e3 : w1.cell? ⟨Bs, 3, none⟩ = some (.bool false) := (HX.out.cell (p := ⟨Bs, 3, none⟩) lS).trans s3
              have e4 : w1.frozen? ⟨Bs, 3, none⟩ = false := (HX.out.frozen (p := ⟨Bs, 3, none⟩) lS).trans f3
              go_wp2
              refine bodyPost_ret (results_none rfl _ _ _) rfl ?_
              exact ⟨rfl, w1, _, HX.out, .inl ⟨HB.out, rfl⟩⟩
        · obtain ⟨hlt, g2⟩ := tst_yes ht
          have HB := hide_it (b_zero HA.out hlt g2)
          have HX := hide_it (HE.out.set (i + 1))
          have hq : (D i == 48) = true := beq_iff_eq.2 g2
          have cd : wc.cell? ⟨Bd, i, none⟩ = some (.int .u8 (D (i))) := (HE.out.cell (p := ⟨Bd, i, none⟩) lD).trans (hD.out _ hlt)
          clear ht g2 CD
          go_wp2
          go_meet
          case rel => exact ⟨2, i + 1, HB, HX, by omega⟩
      case rest =>
        clear HE HA
        obtain ⟨s, i, HA, HE, hi⟩ := hcut
        go_upto_region 9 with fail
        go_cut [58] (fun t wx => t = .bool (tst D n i 46) ∧ Hid (Ex w wx (.slice (some ⟨Bd, 0, none⟩) n c) i))
        case first =>
          have cv := cell_of_one HE.out.var
          have ci := cell_of_one HE.out.idx
          have fi := free_of_one HE.out.idx
          by_cases hlt : i < n
          · have cd : wc.cell? ⟨Bd, i, none⟩ = some (.int .u8 (D (i))) := (HE.out.cell (p := ⟨Bd, i, none⟩) lD).trans (hD.out _ hlt)
            go_wp2
            go_meet
            case rel => exact ⟨by rw [tst_in hlt], HE⟩
          · go_wp2
            go_meet
            case rel => exact ⟨by rw [tst_out hlt], HE⟩
        case rest =>
          clear HE
          obtain ⟨rfl, HE⟩ := hcut
          go_upto_if 58 with fail
          go_cut [] (fun wx => ∃ s i : Nat, Hid (StC D n p s i) ∧ Hid (Ex w wx (.slice (some ⟨Bd, 0, none⟩) n c) i) ∧ i ≤ n)
          case first =>
            cases ht : tst D n i 46
            · have HB := hide_it (c_nodot HA.out (tst_no ht))
              go_wp2
              go_meet
              case rel => exact ⟨s, i, HB, HE, hi⟩
            · obtain ⟨hlt, g2⟩ := tst_yes ht
              have G2 := hide_it g2
              have HE1 := hide_it (HE.out.set' (i + 1) ((i : Int) + 1) (by omega))
              have ci := cell_of_one HE.out.idx
              have fi := free_of_one HE.out.idx
              have CD := hide_it (digits_any (w.heap.size + 1) w.heap.size Bd D n (i + 1) c hn (by omega) (wc.setCell ⟨w.heap.size + 1, 0, none⟩ (.int .i64 ((i : Int) + 1))) (by omega) (by omega) HE1.out.idx (cell_of_one HE1.out.var) (fun j hj => (HE1.out.cell (p := ⟨Bd, j, none⟩) lD).trans (hD.out j hj)))
              clear ht g2
              go_wp2_with fail
              refine Calls.mono CD.out ?_
              rintro e w1 ⟨k, rfl, hde, hbut, hk⟩
              have HX := hide_it (HE1.out.but hbut hk)
              have HDE := hide_it hde
              have kn := hde.le
              clear hbut hk hde CD
              by_cases hik : i + 1 < k
              · have HB := hide_it (c_dot HA.out hlt G2.out HDE.out hik)
                go_wp2
                go_meet
                case rel => exact ⟨5, k, HB, HX, kn⟩
              · obtain rfl : k = i + 1 := by have := HDE.out.ge; omega
                have HB := hide_it (c_dotbad HA.out hlt G2.out HDE.out)
                have e3 : w1.cell? ⟨Bs, 3, none⟩ = some (.bool false) := (HX.out.cell (p := ⟨Bs, 3, none⟩) lS).trans s3
                have e4 : w1.frozen? ⟨Bs, 3, none⟩ = false := (HX.out.frozen (p := ⟨Bs, 3, none⟩) lS).trans f3
                go_wp2
                refine bodyPost_ret (results_none rfl _ _ _) rfl ?_
                exact ⟨rfl, w1, _, HX.out, .inl ⟨HB.out, rfl⟩⟩
          case rest =>
            clear HE HA
            obtain ⟨s, i, HA, HE, hi⟩ := hcut
            go_upto_region 13 with fail
            go_cut [84] (fun t wx => t = .bool (ee D n i) ∧ Hid (Ex w wx (.slice (some ⟨Bd, 0, none⟩) n c) i))
            case first =>
              have cv := cell_of_one HE.out.var
              have ci := cell_of_one HE.out.idx
              have fi := free_of_one HE.out.idx
              by_cases hlt : i < n
              · have cd : wc.cell? ⟨Bd, i, none⟩ = some (.int .u8 (D (i))) := (HE.out.cell (p := ⟨Bd, i, none⟩) lD).trans (hD.out _ hlt)
                cases hq : D (i) == 101
                · go_wp2
                  go_meet
                  case rel => exact ⟨by rw [ee_in hlt, hq]; simp, HE⟩
                · go_wp2
                  go_meet
                  case rel => exact ⟨by rw [ee_in hlt, hq]; simp, HE⟩
              · go_wp2
                go_meet
                case rel => exact ⟨by rw [ee_out hlt], HE⟩
            case rest =>
              clear HE
              obtain ⟨rfl, HE⟩ := hcut
              go_upto_if 84 with fail
              go_cut [] (fun wx => ∃ e : Nat, Hid (Good D n p e) ∧ Hid (Ex w wx (.slice (some ⟨Bd, 0, none⟩) n c) e))
              case first =>
                cases ht : ee D n i
                · have HB := hide_it (d_none HA.out (ee_no ht))
                  go_wp2
                  go_meet
                  case rel => exact ⟨i, HB, HE⟩
                · obtain ⟨hlt, g2⟩ := ee_yes ht
                  have G2 := hide_it g2
                  have HE1 := hide_it (HE.out.set' (i + 1) ((i : Int) + 1) (by omega))
                  have ci := cell_of_one HE.out.idx
                  have fi := free_of_one HE.out.idx
                  clear ht g2
                  go_upto_region 15 with fail
                  go_cut [104] (fun t wx => t = .bool (sg D n (i + 1)) ∧ Hid (Ex w wx (.slice (some ⟨Bd, 0, none⟩) n c) (i + 1)))
                  case first =>
                    clear ci fi
                    have cv := cell_of_one HE1.out.var
                    have ci := cell_of_one HE1.out.idx
                    by_cases hlt : i + 1 < n
                    · have cd : (wc.setCell ⟨w.heap.size + 1, 0, none⟩ (.int .i64 ((i : Int) + 1))).cell? ⟨Bd, i + 1, none⟩ = some (.int .u8 (D (i + 1))) := (HE1.out.cell (p := ⟨Bd, i + 1, none⟩) lD).trans (hD.out _ hlt)
                      cases hq : D (i + 1) == 43
                      · go_wp2
                        go_meet
                        case rel => exact ⟨by rw [sg_in hlt, hq]; simp, HE1⟩
                      · go_wp2
                        go_meet
                        case rel => exact ⟨by rw [sg_in hlt, hq]; simp, HE1⟩
                    · go_wp2
                      go_meet
                      case rel => exact ⟨by rw [sg_out hlt], HE1⟩
                  case rest =>
                    clear ci fi HE HE1
                    obtain ⟨rfl, HE⟩ := hcut
                    go_upto_if 104 with fail
                    go_cut [] (fun wx => ∃ s j : Nat, Hid (StE D n p s j) ∧ Hid (Ex w wx (.slice (some ⟨Bd, 0, none⟩) n c) j) ∧ j ≤ n)
                    case first =>
                      cases ht : sg D n (i + 1)
                      · have HB := hide_it (e_nosign HA.out hlt G2.out (sg_no ht))
                        go_wp2
                        go_meet
                        case rel => exact ⟨6, i + 1, HB, HE, by omega⟩
                      · obtain ⟨h3, g3⟩ := sg_yes ht
                        have HB := hide_it (e_sign HA.out hlt G2.out h3 g3)
                        have HX := hide_it (HE.out.set (i + 2))
                        have ci := cell_of_one HE.out.idx
                        have fi := free_of_one HE.out.idx
                        clear g3
                        go_wp2
                        go_meet
                        case rel => exact ⟨7, i + 2, HB, HX, by omega⟩
                    case rest =>
                      clear HE HA
                      obtain ⟨s', j, HS, HE, hj⟩ := hcut
                      have cv := cell_of_one HE.out.var
                      have CD := hide_it (digits_any (w.heap.size + 1) w.heap.size Bd D n j c hn (by omega) wc (by omega) (by omega) HE.out.idx cv (fun j hj => (HE.out.cell (p := ⟨Bd, j, none⟩) lD).trans (hD.out j hj)))
                      go_wp2_with fail
                      refine Calls.mono CD.out ?_
                      rintro e w1 ⟨k, rfl, hde, hbut, hk⟩
                      have HX := hide_it (HE.out.but hbut hk)
                      have HDE := hide_it hde
                      have kn := hde.le
                      clear hbut hk hde CD
                      by_cases hik : j < k
                      · have HB := hide_it (f_ok HS.out HDE.out hik)
                        go_wp2
                        go_meet
                        case rel => exact ⟨k, HB, HX⟩
                      · obtain rfl : k = j := by have := HDE.out.ge; omega
                        have HB := hide_it (f_bad HS.out HDE.out)
                        have e3 : w1.cell? ⟨Bs, 3, none⟩ = some (.bool false) := (HX.out.cell (p := ⟨Bs, 3, none⟩) lS).trans s3
                        have e4 : w1.frozen? ⟨Bs, 3, none⟩ = false := (HX.out.frozen (p := ⟨Bs, 3, none⟩) lS).trans f3
                        go_wp2
                        refine bodyPost_ret (results_none rfl _ _ _) rfl ?_
                        exact ⟨rfl, w1, _, HX.out, .inl ⟨HB.out, rfl⟩⟩
              case rest =>
                clear HE HA
                obtain ⟨e, HG, HE⟩ := hcut
                have ci := cell_of_one HE.out.idx
                have e1 : wc.cell? ⟨Bs, 1, none⟩ = some (.int .i64 p) := (HE.out.cell (p := ⟨Bs, 1, none⟩) lS).trans s1
                have e2 : wc.frozen? ⟨Bs, 1, none⟩ = false := (HE.out.frozen (p := ⟨Bs, 1, none⟩) lS).trans f1
                go_wp2
                first | go_end0 | refine bodyPost_ret (results_none rfl _ _ _) rfl ?_
                exact ⟨rfl, wc, _, HE.out, .inr ⟨e, HG.out, rfl⟩⟩
end Go.Proofs.Ybulkanim
