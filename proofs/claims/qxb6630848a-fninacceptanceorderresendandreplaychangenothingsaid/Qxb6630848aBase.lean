/-
  Events as plain data; slices of events in memory.
-/
import Derived.Test.Qxb6630848aRows
import Derived.WalkKit
import Derived.WalkSpells
import Derived.WalkLawsBesides
import Derived.Deep.MidRow
import Derived.Deep.QuietTactic
import Derived.BigQuiet
import Derived.BigRegion
import Derived.Maps.OwnSet
namespace Go.Proofs.Qxb6630848a
open Go.RowKit

/-- An event: its three strings and its map's block. -/
structure Ev where
  id : ByteArray
  tm : ByteArray
  raw : ByteArray
  mp : Option Nat

def ev0 : Ev := ⟨ByteArray.empty, ByteArray.empty, ByteArray.empty, none⟩
def Ev.cells (e : Ev) : List Value := [.string e.id, .string e.tm, .string e.raw, .map e.mp]

/-- The map's length, where the map is there. -/
def MapIs (w : World) (mp : Option Nat) (L : Nat) : Prop := (mp = none ∧ L = 0) ∨ ∃ bm es clock, mp = some bm ∧ w.heap[bm]? = some (.map es clock) ∧ es.size = L

theorem MapIs.len {w : World} {mp : Option Nat} {L : Nat} (h : MapIs w mp L) (ty : TypeId) : (Builtin.len_ #[27] ty #[.map mp]).run Try.prog w = .ok (.int .i64 (L : Int)) w := by
  rcases h with ⟨rfl, rfl⟩ | ⟨bm, es, clock, rfl, hb, rfl⟩
  · exact Maps.len_nil Try.underlying27 ty
  · simp [Builtin.len_, run_underlying Try.underlying27, MapKept.run_getObj_map hb, goInt, Result.andThen]

theorem MapIs.below {w w' : World} {mp : Option Nat} {L : Nat} (h : MapIs w mp L) (hb : Below w.heap.size w w') : MapIs w' mp L := by
  rcases h with h | ⟨bm, es, clock, h1, h2, h3⟩
  · exact Or.inl h
  · exact Or.inr ⟨bm, es, clock, h1, (hb.block bm (Array.getElem?_eq_some_iff.1 h2).1).trans h2, h3⟩

/-- Every event's map is there. -/
def MapsOk (w : World) (es : List Ev) : Prop := ∀ e, e ∈ es → ∃ L, MapIs w e.mp L
theorem MapsOk.below {w w' : World} {es : List Ev} (h : MapsOk w es) (hb : Below w.heap.size w w') : MapsOk w' es := fun e he => (h e he).imp fun _ h => h.below hb

/-- The slice value v reads as the events es. -/
def EvS (w : World) (v : Value) (es : List Ev) : Prop :=
  ∃ a c, v = .slice a es.length c ∧ (a = none → es.length = 0 ∧ c = 0) ∧ es.length ≤ c ∧
    (0 < es.length → ∃ b o, a = some ⟨b, o, none⟩ ∧ ∀ i, i < es.length → w.rangeAt b (o + i * 4) (es.getD i ev0).cells)

theorem keeps {w w' : World} (h : Below w.heap.size w w') : ∀ a u, w.cell? a = some u → w'.cell? a = some u :=
  fun _ _ hu => (h.cell (World.block_lt_of_cell? _ _ hu)).trans hu

theorem EvS.kept {w w' : World} {v : Value} {es : List Ev} (h : EvS w v es) (hk : ∀ a u, w.cell? a = some u → w'.cell? a = some u) : EvS w' v es := by
  obtain ⟨a, c, h1, h2, h3, h4⟩ := h
  refine ⟨a, c, h1, h2, h3, fun h0 => ?_⟩
  obtain ⟨b, o, ha, hc⟩ := h4 h0
  exact ⟨b, o, ha, fun i hi j v hv => hk _ _ (hc i hi j v hv)⟩

theorem range_id {w : World} {b o : Nat} {e : Ev} (h : w.rangeAt b o e.cells) : w.cell? ⟨b, o, none⟩ = some (.string e.id) := by simpa using h 0 _ rfl
theorem range_tm {w : World} {b o : Nat} {e : Ev} (h : w.rangeAt b o e.cells) : w.cell? ⟨b, o + 1, none⟩ = some (.string e.tm) := h 1 _ rfl
theorem range_raw {w : World} {b o : Nat} {e : Ev} (h : w.rangeAt b o e.cells) : w.cell? ⟨b, o + 2, none⟩ = some (.string e.raw) := h 2 _ rfl
theorem range_mp {w : World} {b o : Nat} {e : Ev} (h : w.rangeAt b o e.cells) : w.cell? ⟨b, o + 3, none⟩ = some (.map e.mp) := h 3 _ rfl

theorem q27 (w : World) (r : Option Nat) : (binOp .eql 27 (.map r) (.map none)).run Try.prog w = .ok (.bool r.isNone) w := run_eql_map_nil w _ _ _ r Try.underlying27

/-- Two events' cells, boxed. -/
abbrev boxed (w : World) (i t r : ByteArray) (m : Option Nat) : World := w.alloc (.cells #[.string i, .string t, .string r, .map m] 29)

set_option maxHeartbeats 800000 in
theorem same_ev (i t r : ByteArray) (m : Option Nat) (L : Nat) (w : World) (hm : MapIs w m L) :
    Calls Try.prog 12 #[.agg #[.string i, .string t, .string r, .map m], .agg #[.string i, .string t, .string r, .map m]] w fun e w' => e = .returned (.bool true) ∧ w' = boxed (boxed w i t r m) i t r m := by
  have h27 := q27
  have hb : Below w.heap.size w (boxed (boxed w i t r m) i t r m) := ((Below.refl _ w).alloc (Nat.le_refl _) _).alloc (by simp) _
  have hlen := (hm.below hb).len 3
  clear hb
  go_enter Try.func12, Try.ntmps12
  go_wp2
  go_ret
  exact ⟨rfl, rfl⟩
end Go.Proofs.Qxb6630848a
