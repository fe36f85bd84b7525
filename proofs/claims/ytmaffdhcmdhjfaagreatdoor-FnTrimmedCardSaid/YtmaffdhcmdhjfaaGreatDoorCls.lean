/- A region that draws its order and whose callees may make memory: one walk, in the order of the text, over a class of worlds. -/
import Derived.Test.YtmaffdhcmdhjfaaGreatDoorBase
namespace Go.Proofs.YtmaffdhcmdhjfaaGreatDoor
open Go.RowKit

theorem wp_region_cls {T : Type} (g : T → World) {P : Program} {id : Nat} {Q : Exit → Act → World → Prop} {a : Act} {w : World} {l : List Oper} (hm : P.follows .mixedOrders = true) (hB : Region.lexB .any l.toArray = true)
    (hC : ∃ t, w.drew = g t) (h : wpQuiet P l.toArray (fun w' => ∃ t, w' = g t) (fun a' => ∀ w', (∃ t, w' = g t) → Q .normal a' w') l a) : (Code.region id l.toArray true).wp P Q a w :=
  wp_region_quiet (C := fun w' => ∃ t, w' = g t) hm hB hC (by simpa using h)

/-- the worlds of a kind, as the values of a function -/
theorem cls_intro (S : World → Prop) (w : World) (h : S w.drew) : ∃ (T : Type) (g : T → World), Nonempty T ∧ (∃ t, w.drew = g t) ∧ (∀ t, S (g t)) ∧ (∀ W, S W → ∃ t, W = g t) :=
  ⟨{W : World // S W}, Subtype.val, ⟨⟨_, h⟩⟩, ⟨⟨_, h⟩, rfl⟩, fun t => t.2, fun W hW => ⟨⟨W, hW⟩, rfl⟩⟩

theorem calls_cls {T : Type} {g : T → World} {P : Program} {f : FuncId} {args : Array Value} {t : T} {v : Value} {S : World → Prop} (hI : ∀ W, S W → ∃ t, W = g t)
    (h : Calls P f args (g t) fun e w' => e = .returned v ∧ S w') : Calls P f args (g t) fun e w'' => e = .returned v ∧ ∃ t', w'' = g t' :=
  h.mono fun _ _ ⟨he, hm⟩ => ⟨he, hI _ hm⟩
end Go.Proofs.YtmaffdhcmdhjfaaGreatDoor
