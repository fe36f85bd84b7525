/- impl.Next at the text of an expression that is asked. -/
import Derived.Test.YtmaffdhcmdhjfaaGreatDoorNW
set_option linter.unusedSimpArgs false
set_option linter.unusedVariables false
namespace Go.Proofs.YtmaffdhcmdhjfaaGreatDoor
open Go.RowKit Go.Lib
theorem AskedIs.asks {c : CronV} {n prev : Int} (h : AskedIs c n prev) : Asks c := ⟨h.right, h.taken, h.stated⟩
theorem AskedIs.range {c : CronV} {n prev : Int} (h : AskedIs c n prev) : InRange n prev := ⟨h.n0, h.n1, h.p0, h.p1⟩
theorem next_text {c : CronV} (h : Asks c) {n : Int} (n0 : -1440 ≤ n) (n1 : n ≤ 1440) (prev : Int) (w : World) (hE : EnvN w) :
 Calls Tryz.prog 28 #[.string (mk c.text), .int .i64 n, .int .i64 prev] w fun e w' => e = .returned (.tuple #[.int .i64 (nextC c.cfgM n prev).1, .int .i64 (nextC c.cfgM n prev).2]) ∧ Ext w w' := by
 have hf := (fields_exact h.right).1
 have ht := taken_law h.right
 rw [h.taken] at ht
 have hl := h.right.len
 exact impl_Next (mk c.text) n prev c.fieldsL w (by rw [size_mk]; omega) n0 n1 (by rw [bytes_mk]; exact hf) ht (cfgM_ok h) hE
end Go.Proofs.YtmaffdhcmdhjfaaGreatDoor
