/- A row's end from what a walk says: nothing old has turned. -/
import Derived.Test.YtedniebpabfglaaGreatDoorCards
import Derived.Test.YtedniebpabfglaaGreatDoorTie
import Derived.WalkKit
import Derived.ProofKit
import Derived.OpenShut
import Derived.Deep.DeepHandedRow
import Derived.Lib.LaidTab
import Derived.Below
namespace Go.Proofs.YtedniebpabfglaaGreatDoor
open Go.ChangeShapes Go.WideShapes Go.ChangeAt Go.RowKit

theorem below_frozen {B : Nat} {W W' : World} (h : Below B W W') (a : Addr) (ha : a.block < B) : W'.frozen? a = W.frozen? a := by
  unfold World.frozen?
  rw [h.block _ ha]
theorem post_of_below {H : Type} {enc : TypeId × Value → H} {P : Program} {f : Func} {s : ChangeSpec} {apart fresh handsOn again : Bool} {W W' : World} {args : Array Value} {v : Value} {ds gs : List (DataW H)} {before pa pv : List MemPlace}
    (hW : DataW.Whole enc P f.params.toList s.vars apart W args.toList ds gs before)
    (hres : ∀ (b : Nat) (sp : Nat → Bool) (hd : Bool), DataW.TrodAll enc P W' b sp hd f.resultTypes.toList (v.resultList f.resultTypes.size) (s.fn H (ds ++ gs)).results [])
    (hargs : ∀ sp : Nat → Bool, (∀ p ∈ before, sp p.block = true) → DataW.TrodAll enc P W' 0 sp true f.params.toList args.toList (s.fn H (ds ++ gs)).args pa)
    (hvars : ∀ sp : Nat → Bool, (∀ p ∈ before, sp p.block = true) → DataW.TrodVars enc P W' sp s.vars (s.fn H (ds ++ gs)).vars pv)
    (hps : before = pa ++ pv) (hb : Below W.heap.size W W')
    (hok : ∀ (j : Nat) (t : TypeId) (r : Value), f.resultTypes[j]? = some t → (v.resultList f.resultTypes.size)[j]? = some r → Value.okWide P W' .any 0 t r) :
    s.post enc P f apart fresh handsOn again W args v W' := by
  have hold : ∀ p ∈ before, (fun b => decide (b < W.heap.size)) p.block = true := fun p hp => by simpa using hW.lt p hp
  refine ⟨ds, gs, before, [], pa, pv, hW, hres _ _ _, hargs _ hold, hvars _ hold, World.keptBut_mono (fun p hp => ⟨hp, ?_⟩) (hb.frame (· ∈ before)), fun _ => ?_⟩
  · rw [hps, List.mem_append] at hp
    exact Or.inr hp
  · have hlt := hW.lt
    obtain ⟨_, _, _, _, _, hz, hn⟩ := hW
    refine ⟨hok, _, _, ([] ++ pa) ++ pv, ⟨[] ++ pa, pv, trodAll_append (hargs _ (fun _ _ => rfl)) (hres _ _ _), hvars _ (fun _ _ => rfl), rfl, ?_, ?_⟩, ?_⟩
    · intro b off hp
      have hp2 := (show _ ∈ before by rw [hps]; simpa using hp)
      rw [below_frozen hb _ (hlt _ hp2)]
      exact hz b off hp2
    · intro ha
      have := hn ha
      rw [hps] at this
      simpa using this
    · intro p hp _
      rw [hps]
      simpa using hp
theorem own : ownKnob Tryz.prog.godebug = none := by kernel_rfl
theorem gSpa : Tryz.prog.globalNamed "strings.asciiSpace" = some 0 := by kernel_rfl
theorem gSpaType : (Tryz.prog.globals[0]?).map (·.type) = some 115 := by kernel_rfl
theorem cellsSpa : Tryz.prog.cellsOf 115 = 256 := by kernel_rfl
theorem cellsU8 : Tryz.prog.cellsOf 5 = 1 := by kernel_rfl
theorem laid_skip {P : Program} {W : World} {x : String × DataW Unit} {rest : List (String × DataW Unit)} (h : laidMet P (x :: rest) W) : laidMet P rest W := by
  obtain ⟨ps, ⟨g', t', cs, fuel, p, q, _, _, _, _, hrest, hps⟩, hnd, hall⟩ := h
  subst hps
  exact ⟨q, hrest, (List.nodup_append.1 hnd).2.1, fun b off hb => hall b off (List.mem_append.2 (Or.inr hb))⟩
/-- A listed table's cells, as its initialiser lays them. -/
def tabCells (d : DataW Unit) : Array Value := match d with
  | .agg l => (l.map fun x => match x with
    | .lit (.int k n) => Value.int k n
    | _ => undef).toArray
  | _ => #[]
def layAt (w : World) (g : Nat) (d : DataW Unit) : World := { w with heap := w.heap.modify g fun
      | .cells _ t frozen => .cells (tabCells d) t frozen
      | o => o }
end Go.Proofs.YtedniebpabfglaaGreatDoor
