/- spec.Can answers, at format 1 and at format 3, whatever it answers. -/
import Derived.Test.YtepeehjajhehfaaGreatDoorCan1
import Derived.Test.YtepeehjajhehfaaGreatDoorCan3
import Derived.Test.YtepeehjajhehfaaGreatDoorBf
namespace Go.Proofs.YtepeehjajhehfaaGreatDoor
open Go.RowKit Go.PlainAid
set_option linter.unusedVariables false

noncomputable def kit13 (f : Int) (hf : f = 1 ∨ f = 3) : CanKit f where
  TR s n v := v = textV s n f
  OR s v := v = ownerV s f
  RR _ _ _ := True
  text s n w hs := (specText13 s n f w hs hf).mono (fun e w' ⟨h1, h2⟩ => ⟨_, h1, rfl, h2⟩)
  owner s w hs := (specOwner13 s f w hs hf).mono (fun e w' ⟨h1, h2⟩ => ⟨_, h1, rfl, h2⟩)
  live := False
  rec_ h := h.elim
theorem bare_recs {h : Hd} (w : World) (h1 : h.rn = 0) : h.Recs w.heap.size [] w :=
  ⟨by rw [h1]; rfl, RC.nil_, by omega, fun k => ⟨Nat.zero_le _, Nat.zero_le _⟩⟩
theorem canAny1 : CanAny 1 := fun h w h1 _ ok hs =>
  (specCan1 (kit13 1 (.inl rfl)) h [] w (bare_recs w h1) ok (fun h => by omega) (by omega)).mono (fun e w' ⟨v, e1, _, e2⟩ => ⟨v, e1, e2⟩)
theorem canAny3 : CanAny 3 := fun h w h1 _ ok hs =>
  (specCan3 (kit13 3 (.inr rfl)) h [] w (bare_recs w h1) ok (fun h => by omega)).mono (fun e w' ⟨v, e1, _, e2⟩ => ⟨v, e1, e2⟩)
end Go.Proofs.YtepeehjajhehfaaGreatDoor
