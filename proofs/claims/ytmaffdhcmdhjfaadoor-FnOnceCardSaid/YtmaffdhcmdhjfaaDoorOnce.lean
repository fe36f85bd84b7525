/- A trigger that fires once: its functions' contracts, errors.Is of the sentinel itself, and the law FnOnce's call returns true for every delay and instant; its conditions: the table of powers of ten and the sentinel read as laid. -/
import Derived.Test.YtmaffdhcmdhjfaaDoorSimple
import Derived.LaidEql
import Derived.Stop.Asserts
import Derived.RowKitTokens
namespace Go.Proofs.YtmaffdhcmdhjfaaDoor
open Go.RowKit Go.Sort Go.Lib Go.Extern.Stop Go.Stop Go.Extern

theorem isTypeOf (v : Value) (w : World) : (Extern.ReflectliteType.typeOf #[.iface 81 v]).run Tryd.prog w = .ok (.iface 60 (.agg #[.pointer (some ⟨4, 81, none⟩)])) w := by kernel_rfl
/-- what the model's entry for Comparable does -/
def cmpE : Array Value → Sem Value := Extern.ReflectliteType.method fun t => do Go.Extern.Rtype.noPackHeld "Comparable" t; pure (.bool (← typeInfo t).comparable)
theorem isComparable (w : World) : (cmpE #[.agg #[.pointer (some ⟨4, 81, none⟩)]]).run Tryd.prog w = .ok (.bool true) w := by kernel_rfl
theorem isMethodComparable (v : Value) (w : World) : (Go.method 217 60 v "Comparable").run Tryd.prog w = .ok (53, v) w := by kernel_rfl
theorem isComp : (Tryd.prog.info? 81).map (·.comparable) = some true := by kernel_rfl
theorem isSize : (Tryd.prog.info? 105).map (·.size) = some 1 := by kernel_rfl

set_option maxHeartbeats 1000000 in
theorem is_same (a : Addr) (w : World) :
    Calls Tryd.prog 16 #[.iface 81 (.pointer (some a)), .iface 81 (.pointer (some a))] w fun e w' => e = .returned (.bool true) ∧ w' = w := by
  obtain ⟨i, hi, hcmp⟩ := Option.map_eq_some_iff.1 isComp
  obtain ⟨j, hj, hjs⟩ := Option.map_eq_some_iff.1 isSize
  have h8 := @run_callFunc_extern Tryd.prog 21 _ Extern.ReflectliteType.typeOf Tryd.func21 (by kernel_rfl) (by kernel_rfl) (by kernel_rfl) (by kernel_rfl)
  have h32 := @run_callFunc_extern Tryd.prog 53 _ cmpE Tryd.func53 (by kernel_rfl) (by kernel_rfl) (by kernel_rfl) (by kernel_rfl)
  have tT := isTypeOf
  have cT := isComparable
  have mR := isMethodComparable
  have heq := run_eql_iface_ptr_same (P := Tryd.prog) w a Tryd.underlying32 Tryd.underlying81 hi hcmp hj
  go_enter Tryd.func16, Tryd.ntmps16
  go_wp2
  refine wp_loop_rounds 1 ?_
  rw [rounds_succ]
  go_wp2
  go_ret
  exact ⟨rfl, rfl⟩

theorem f14 (d : Int) (w : World) : Calls Tryd.prog 14 #[.int .i64 d] w fun e w' => e = .returned (.pointer (some ⟨w.heap.size, 0, none⟩)) ∧ w.alloc (.cells #[.int .i64 d, .bool false] 46) = w' := by
  go_enter Tryd.func14, Tryd.ntmps14
  go_wp2_with fail
  go_ret
  exact ⟨rfl, rfl⟩

theorem f15_first (d p : Int) (w : World) (b : Nat) (h0 : w.cell? ⟨b, 0, none⟩ = some (.int .i64 d)) (h1 : w.cell? ⟨b, 1, none⟩ = some (.bool false)) (hf : w.frozen? ⟨b, 1, none⟩ = false) (h : IntKind.i64.wrap (p + d) = p + d) :
    Calls Tryd.prog 15 #[.pointer (some ⟨b, 0, none⟩), .int .i64 p] w fun e w' => e = .returned (.tuple #[.int .i64 (p + d), .nilIface]) ∧ w.setCell ⟨b, 1, none⟩ (.bool true) = w' := by
  go_enter Tryd.func15, Tryd.ntmps15
  go_wp2_with (go_at_call 18; refine (f18 _ _).mono ?_; rintro e w1 ⟨rfl, rfl⟩)
  go_ret2
  exact ⟨rfl, rfl⟩

theorem f15_second (p : Int) (w : World) (b : Nat) (v : Value) (h1 : w.cell? ⟨b, 1, none⟩ = some (.bool true)) (hg : w.cell? ⟨0, 0, none⟩ = some v) :
    Calls Tryd.prog 15 #[.pointer (some ⟨b, 0, none⟩), .int .i64 p] w fun e w' => e = .returned (.tuple #[.int .i64 0, v]) ∧ w.drew = w' := by
  go_enter Tryd.func15, Tryd.ntmps15
  go_wp2_with fail
  go_region
  all_goals
    go_wp2_with fail
    go_ret2
    exact ⟨rfl, rfl⟩

/-- RunOnceTrigger:: and ::expired -/
def preO : List UInt8 := [82, 117, 110, 79, 110, 99, 101, 84, 114, 105, 103, 103, 101, 114, 58, 58]
def sufO : List UInt8 := [58, 58, 101, 120, 112, 105, 114, 101, 100]

theorem f17 (d : Int) (h0 : -1000000000000000000 ≤ d) (h1 : d ≤ 1000000000000000000) (w : World) (b : Nat) (hc : w.cell? ⟨b, 0, none⟩ = some (.int .i64 d)) (hc1 : w.cell? ⟨b, 1, none⟩ = some (.bool true)) (hE : Env w) :
    Calls Tryd.prog 17 #[.pointer (some ⟨b, 0, none⟩)] w fun e w' => e = .returned (.string ⟨(preO ++ (lenText d ++ sufO)).toArray⟩) ∧ Ext w w' ∧ Env w' := by
  have hl := lenText_length d h0 h1
  have H0 := Lib.hid h0
  have H1 := Lib.hid h1
  clear h0 h1
  go_enter Tryd.func17, Tryd.ntmps17
  go_wp2_with fail
  go_at_call 19
  refine (str_any d H0.out H1.out _ hE).mono ?_
  rintro e w1 ⟨rfl, x1, E1⟩
  go_wp2_with fail
  go_ret
  refine ⟨ret_bytes ?_, x1, E1⟩
  apply ByteArray.ext
  simp [ByteArray.data_append, preO, sufO]

theorem cell_old {w : World} {v : Value} (h : w.cell? ⟨0, 0, none⟩ = some v) (hs : 1 ≤ w.heap.size) (o : Obj) : (w.alloc o).cell? ⟨0, 0, none⟩ = some v := by
  have := (Ext.alloc w o : Below w.heap.size w (w.alloc o)).cell (p := ⟨0, 0, none⟩) (by show 0 < w.heap.size; omega)
  rw [this]; exact h

set_option maxHeartbeats 1000000 in
set_option maxRecDepth 100000 in
theorem f7 (d p : Int) (h0 : -1000000000000000000 ≤ d) (h1 : d ≤ 1000000000000000000) (h2 : 31536000000000000 ≤ p) (h3 : p ≤ 7258118399999999999) (w : World) (hE : Env w) (a : Addr) (hg : w.cell? ⟨0, 0, none⟩ = some (.iface 81 (.pointer (some a)))) :
    Calls Tryd.prog 7 #[.int .i64 d, .int .i64 p] w fun e w' => e = .returned (.tuple #[.int .i64 (p + d), .int .i64 0, .string ⟨(preO ++ (lenText d ++ sufO)).toArray⟩, .int .i64 1]) ∧ Ext w w' ∧ Env w' := by
  have hw : IntKind.i64.wrap (p + d) = p + d := by rw [IntKind.wrap_i64]; omega
  have k8 := f8 d p (by simp; omega) (by simp; omega) (by simp; omega) (by simp; omega)
  have K8 := Lib.hid k8
  have Hw := Lib.hid hw
  have k17 := f17 d h0 h1
  have K17 := Lib.hid k17
  have hgo := cell_old hg (by have := hE.2; omega)
  have Hgo := Lib.hid hgo
  clear h0 h1 h2 h3 k8 hw k17 hgo
  go_enter Tryd.func7, Tryd.ntmps7
  go_wp2_with fail
  go_at_call 8
  refine (K8.out _).mono ?_
  rintro e w1 ⟨rfl, rfl⟩
  go_wp2_with fail
  go_at_call 14
  refine (f14 _ _).mono ?_
  rintro e w1 ⟨rfl, rfl⟩
  go_wp2_with fail
  go_at_call 15
  refine (f15_first d p _ w.heap.size (by simp) (by simp) (by simp) Hw.out).mono ?_
  rintro e w1 ⟨rfl, rfl⟩
  go_wp2_with fail
  go_at_call 15
  refine (f15_second (p + d) _ w.heap.size (.iface 81 (.pointer (some a))) (by simp) (by first | exact Hgo.out _ | (simp; exact Hgo.out _))).mono ?_
  rintro e w1 ⟨rfl, rfl⟩
  have hgo := Hgo.out
  go_wp2_with fail
  go_at_call 16
  refine (is_same a _).mono ?_
  rintro e w1 ⟨rfl, rfl⟩
  go_wp2_with fail
  go_at_call 17
  refine (K17.out _ w.heap.size (by simp) (by simp) ((hE.ext (Ext.alloc _ _)).ext (Ext.drew _))).mono ?_
  rintro e w1 ⟨rfl, x1, E1⟩
  go_wp2_with fail
  refine bodyPost_ret (v := .tuple #[.int .i64 (p + d), .int .i64 0, .string ⟨(preO ++ (lenText d ++ sufO)).toArray⟩, .int .i64 1]) (by simp [results, Tryd.results7, go_sem]) rfl ⟨rfl, (Ext.alloc _ _).trans ((Ext.drew _).trans x1), E1⟩

theorem once_in (d p : Int) (h0 : -1000000000000000000 ≤ d) (h1 : d ≤ 1000000000000000000) (h2 : 31536000000000000 ≤ p) (h3 : p ≤ 7258118399999999999) (w : World) (hE : Env w) (a : Addr) (hg : w.cell? ⟨0, 0, none⟩ = some (.iface 81 (.pointer (some a)))) :
    Calls Tryd.prog 4 #[.int .i64 d, .int .i64 p] w fun e w' => e = .returned (.bool true) ∧ Ext w w' := by
  have hw : IntKind.i64.wrap (p + d) = p + d := by rw [IntKind.wrap_i64]; omega
  have k5 := f7 d p h0 h1 h2 h3
  have k6 := len_any d h0 h1
  have hl := lenText_length d h0 h1
  have t0 : decide (d < -1000000000000000000) = false := by simp; omega
  have t1 : decide (1000000000000000000 < d) = false := by simp; omega
  have t2 : decide (p < 31536000000000000) = false := by simp; omega
  have t3 : decide (7258118399999999999 < p) = false := by simp; omega
  have K5 := Lib.hid k5
  have K6 := Lib.hid k6
  have Hg := Lib.hid hg
  clear h0 h1 h2 h3 k5 k6 hg
  go_enter Tryd.func4, Tryd.ntmps4
  go_wp2_with fail
  go_at_call 7
  refine (K5.out _ hE a Hg.out).mono ?_
  rintro e w1 ⟨rfl, x1, E1⟩
  go_wp2_with fail
  refine (K6.out _ E1).mono ?_
  rintro e w2 ⟨rfl, x2, E2⟩
  have hcat : ((⟨#[82, 117, 110, 79, 110, 99, 101, 84, 114, 105, 103, 103, 101, 114, 58, 58]⟩ : ByteArray) ++ ⟨(lenText d).toArray⟩) ++ ⟨#[58, 58, 101, 120, 112, 105, 114, 101, 100]⟩ = ⟨(preO ++ (lenText d ++ sufO)).toArray⟩ := by
    apply ByteArray.ext
    simp [ByteArray.data_append, preO, sufO]
  go_wp2_with fail
  go_ret
  exact ⟨rfl, x1.trans x2⟩

theorem once_out (d p : Int) (h : d < -1000000000000000000 ∨ 1000000000000000000 < d ∨ p < 31536000000000000 ∨ 7258118399999999999 < p) (w : World) :
    Calls Tryd.prog 4 #[.int .i64 d, .int .i64 p] w fun e w' => e = .returned (.bool true) ∧ Ext w w' := by
  by_cases c0 : d < -1000000000000000000
  · have t0 : decide (d < -1000000000000000000) = true := by simp; omega
    clear c0 h
    go_enter Tryd.func4, Tryd.ntmps4
    go_wp2_with fail
    go_ret
    exact ⟨rfl, Ext.refl _⟩
  · by_cases c1 : 1000000000000000000 < d
    · have t0 : decide (d < -1000000000000000000) = false := by simp; omega
      have t1 : decide (1000000000000000000 < d) = true := by simp; omega
      clear c0 c1 h
      go_enter Tryd.func4, Tryd.ntmps4
      go_wp2_with fail
      go_ret
      exact ⟨rfl, Ext.refl _⟩
    · by_cases c2 : p < 31536000000000000
      · have t0 : decide (d < -1000000000000000000) = false := by simp; omega
        have t1 : decide (1000000000000000000 < d) = false := by simp; omega
        have t2 : decide (p < 31536000000000000) = true := by simp; omega
        clear c0 c1 c2 h
        go_enter Tryd.func4, Tryd.ntmps4
        go_wp2_with fail
        go_ret
        exact ⟨rfl, Ext.refl _⟩
      · have t0 : decide (d < -1000000000000000000) = false := by simp; omega
        have t1 : decide (1000000000000000000 < d) = false := by simp; omega
        have t2 : decide (p < 31536000000000000) = false := by simp; omega
        have t3 : decide (7258118399999999999 < p) = true := by simp; omega
        clear c0 c1 c2 h
        go_enter Tryd.func4, Tryd.ntmps4
        go_wp2_with fail
        go_ret
        exact ⟨rfl, Ext.refl _⟩

theorem law_once (d p : Int) (w : World) (hE : Env w) (a : Addr) (hg : w.cell? ⟨0, 0, none⟩ = some (.iface 81 (.pointer (some a)))) : Calls Tryd.prog 4 #[.int .i64 d, .int .i64 p] w fun e w' => e = .returned (.bool true) ∧ Ext w w' := by
  by_cases h : d < -1000000000000000000 ∨ 1000000000000000000 < d ∨ p < 31536000000000000 ∨ 7258118399999999999 < p
  · exact once_out d p h w
  · exact once_in d p (by omega) (by omega) (by omega) (by omega) w hE a hg
end Go.Proofs.YtmaffdhcmdhjfaaDoor
