/-
  Rows of bytes that a call itself appends to.
-/
import Derived.Test.YtohjnegllfdemaaDoorByt
import Derived.Laws.BytesArg
import Derived.Laws.BytesString
namespace Go.Proofs.YtohjnegllfdemaaDoor
open Go.RowKit

theorem info8 : (Tryd.prog.info? 5).map (fun i => (i.zero, i.size, i.bytes)) = some (some (.int .u8 0), 1, 1) := by kernel_rfl

/-- The value is a slice of bytes of the call's own, and holds these. -/
def Own8 (w : World) (base : Nat) (v : Value) (xs : Bs) : Prop := w.ownsRow base 5 1 v xs.length (xs.map fun c => Value.int .u8 c.toNat)

theorem Own8.row {w : World} {base : Nat} {v : Value} {xs : Bs} (h : Own8 w base v xs) : w.ownsRow base 5 1 v xs.length (xs.map fun c => Value.int .u8 c.toNat) := h
theorem Own8.of_row {w : World} {base : Nat} {v : Value} {xs : Bs} {c : UInt8} {x : Int} (hx : x = (c.toNat : Int)) (h : w.ownsRow base 5 1 v (xs.length + 1) ((xs.map fun c => Value.int .u8 c.toNat) ++ [.int .u8 x])) : Own8 w base v (xs ++ [c]) := by
  subst hx
  simpa [Own8] using h
theorem Gr.grown {a b c : World} {e : TypeId} {size : Nat} {v : Value} {n : Nat} {xs : List Value} (h : Gr a b) (ho : b.ownsRow a.heap.size e size v n xs) (hg : b.grownBy c v.ownBlock) : Gr a c :=
  Below.grown h hg h.size fun k hk => (World.ownsRow.lt ho k hk).1
theorem Own8.nil (w : World) (base : Nat) : Own8 w base (.slice none 0 0) [] := World.ownsRow_nil _ _ _ _
theorem Own8.alloc {w : World} {base : Nat} {v : Value} {xs : Bs} (h : Own8 w base v xs) (o : Obj) : Own8 (w.alloc o) base v xs := World.ownsRow.alloc h o
theorem Own8.gr {w w' : World} {base : Nat} {v : Value} {xs : Bs} (h : Own8 w base v xs) (k : Gr w w') : Own8 w' base v xs := by
  refine World.ownsRow.kept h (row := none) ⟨k.os, k.tape, k.output, k.size, fun i hi _ => k.block i hi⟩ ?_
  cases v.ownBlock with
  | none => exact .inl rfl
  | some b => exact .inr (by simp)

theorem own8_string {w : World} {base : Nat} {v : Value} {xs : Bs} (h : Own8 w base v xs) :
    (convert 80 9 v).run Tryd.prog w = .ok (.string ⟨xs.toArray⟩) w := by
  obtain ⟨hl, hv | ⟨g, cap, cur, hv, hg, hh, hn, hm, hs, ht⟩⟩ := h
  · obtain ⟨rfl, h0⟩ := hv
    have : xs = [] := List.eq_nil_of_length_eq_zero h0
    subst this
    rw [run_convert_bytes_string _ _ _ _ _ _ _ Tryd.underlying80 Tryd.underlying5 Tryd.underlying9]
    rfl
  · subst hv
    have hcell : ∀ i, i < xs.length → w.cell? ⟨g, 0 + i, none⟩ = some (.int .u8 ((xs.map fun c => ((c.toNat : Nat) : Int)).getD i 0)) := by
      intro i hi
      have h1 : (cur.toList.take (xs.length * 1))[i]? = some (.int .u8 ((xs[i]).toNat : Int)) := by rw [ht]; simp [hi]
      rw [List.getElem?_take, if_pos (by omega)] at h1
      simp only [World.cell?, hh]
      simpa [hi] using h1
    rw [run_convert_bytes_arg w 80 5 Tryd.underlying80 Tryd.underlying5 g 0 xs.length cap (xs.map fun c => ((c.toNat : Nat) : Int)) (by simp) hcell 9 Tryd.underlying9]
    have : strOfNums (xs.map fun c => ((c.toNat : Nat) : Int)) = ⟨xs.toArray⟩ := by
      apply bl_inj
      unfold bl
      rw [strOfNums_data, List.map_map]
      have hf : ((fun n : Int => UInt8.ofNat n.toNat) ∘ fun c : UInt8 => ((c.toNat : Nat) : Int)) = id := by funext c; simp
      rw [hf, List.map_id]
    rw [this]

end Go.Proofs.YtohjnegllfdemaaDoor
