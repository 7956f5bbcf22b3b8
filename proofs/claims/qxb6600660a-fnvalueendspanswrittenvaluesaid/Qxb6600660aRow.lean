import Derived.Test.Qxb6600660aOwn
namespace Go.Proofs.Qxb6600660a
open Go.RowKit

/-- A slice that came in, with an element at least: where its bytes lie, in every later world. -/
theorem IsRow.plain {w : World} {a : Option Addr} {len cap : Nat} {zs : List Int} (h : IsRow .u8 w a len cap zs) (hl : 0 < len) :
    ∃ b off, a = some ⟨b, off, none⟩ ∧ ∀ w', Below w.heap.size w w' → Bts w' b off len (bt (zs.take len)) := by
  rcases h.view with ⟨_, h0, _⟩ | ⟨⟨b, off, spot⟩, rfl, hlc, hc⟩
  · omega
  · have h1 := hc w (Below.refl _ _) 0 hl
    have hs : spot = none := by simpa [Addr.add] using World.cell?_spot h1
    subst hs
    refine ⟨b, off, rfl, fun w' hb k hk => ⟨?_, getD_byte h.byte_take k⟩⟩
    have := hc w' hb k hk
    rw [Go.WideShapes.add_plain] at this
    exact this

end Go.Proofs.Qxb6600660a
