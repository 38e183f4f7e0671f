/-
  Seat b6600206a: arguments of type []byte and [][]byte, opened for the walks.
-/
import Derived.Test.Qxb6600206aBytes
import Derived.ProofKit
import Derived.OpenShut
import Derived.Deep.Matrix
namespace Go.Proofs.Qxb6600206a.Op1
open Go.RowKit Go.Deep Go.Proofs.Qxb6600206a.By Go.ChangeShapes Go.WideShapes

theorem cells26 : Try.prog.cellsOf 26 = 1 := by kernel_rfl
theorem cells5 : Try.prog.cellsOf 5 = 1 := by kernel_rfl

/-- The numbers of a row of bytes, as bytes. -/
def toBytes (zs : List Int) : List UInt8 := zs.map fun z => UInt8.ofNat z.toNat
theorem bv_toBytes {zs : List Int} (hw : ∀ n ∈ zs, (Lit.int .u8 n).wf = true) {i : Nat} (hi : i < zs.length) : bv (toBytes zs) i = zs.getD i 0 := by
  have hm : zs[i] ∈ zs := List.getElem_mem hi
  have h := bounds_u8 (hw _ hm)
  unfold bv toBytes
  simp only [List.getD_eq_getElem?_getD, List.getElem?_map, List.getElem?_eq_getElem hi, Option.map_some, Option.getD_some]
  rw [UInt8.toNat_ofNat']
  omega

theorem plain_addr {w : World} {x : Addr} {v : Value} (h : w.cell? (x.add 0) = some v) : ∃ b o, x = ⟨b, o, none⟩ := by
  obtain ⟨b, off, spot⟩ := x
  have hspot : spot = none := by simpa [Addr.add] using World.cell?_spot h
  subst hspot
  exact ⟨b, off, rfl⟩
theorem add_mk (b o i : Nat) : (Addr.mk b o none).add i = ⟨b, o + i, none⟩ := Go.WideShapes.add_plain _ _ _

/-- A row of bytes that came in: 'open_ints' and 'open_int_rows' hand its cells so. -/
theorem bytes_of {w : World} {x : Addr} {len cap : Nat} {zs : List Int} (hl : len ≤ cap) (hm : cap ≤ maxLen) (hz : zs.length = cap) (hc : ∀ i, i < cap → w.cell? (x.add i) = some (.int .u8 (zs.getD i 0))) (hw : ∀ n ∈ zs, (Lit.int .u8 n).wf = true) :
    BytesAt w (some x) len cap (toBytes (zs.take len)) := by
  refine ⟨by simp [toBytes]; omega, hl, hm, fun e => by simp at e, fun hn => ?_⟩
  have h0 := hc 0 (by omega)
  obtain ⟨b, o, rfl⟩ := plain_addr h0
  rw [add_mk] at h0
  refine ⟨b, o, rfl, World.block_lt_of_cell? _ _ h0, fun i hi => ?_⟩
  have h1 := hc i (by omega)
  rw [add_mk] at h1
  rw [h1, bv_toBytes (fun n hn => hw n (List.mem_of_mem_take hn)) (by rw [List.length_take]; omega)]
  simp only [List.getD_eq_getElem?_getD, List.getElem?_take, if_pos hi]

theorem open_bytes {H : Type} {enc : TypeId × Value → H} {w : World} {fuel : Nat} {a : Option Addr} {len cap : Nat} {x : DataW H × List MemPlace} (h : DataW.trod enc Try.prog w 0 (fun _ => true) true fuel 26 [.slice a len cap] = some x) :
    ∃ l, BytesAt w a len cap l := by
  rcases open_ints Try.underlying26 Try.underlying5 cells5 h with ⟨hcs, _⟩ | ⟨x, l, c, zs, hcs, _, hl, hm, hz, _, hcell, hwz⟩
  · simp at hcs
    obtain ⟨rfl, rfl, rfl⟩ := hcs
    exact ⟨[], rfl, Nat.le_refl _, by unfold maxLen; omega, fun _ => ⟨rfl, rfl⟩, fun x => absurd x (Nat.lt_irrefl _)⟩
  · simp at hcs
    obtain ⟨rfl, rfl, rfl⟩ := hcs
    simp only [if_true] at hz
    exact ⟨_, bytes_of hl hm hz (fun i hi => hcell i (by rw [hz]; exact hi)) hwz⟩

theorem open_rows {H : Type} {enc : TypeId × Value → H} {w : World} {fuel : Nat} {a : Option Addr} {len cap : Nat} {x : DataW H × List MemPlace} (h : DataW.trod enc Try.prog w 0 (fun _ => true) true fuel 22 [.slice a len cap] = some x) :
    ∃ L, RowsAt w a len cap L := by
  rcases open_int_rows Try.underlying22 Try.underlying26 Try.underlying5 cells26 cells5 h with ⟨hcs, _⟩ | ⟨x, l, c, A, N, C, Z, hcs, _, hl, hm, _, hr⟩
  · simp at hcs
    obtain ⟨rfl, rfl, rfl⟩ := hcs
    exact ⟨[], rfl, Nat.le_refl _, by unfold maxLen; omega, fun _ => ⟨rfl, rfl⟩, fun x => absurd x (Nat.lt_irrefl _)⟩
  · simp at hcs
    obtain ⟨rfl, rfl, rfl⟩ := hcs
    refine ⟨(List.range len).map fun r => toBytes ((Z r).take (N r)), by simp, hl, hm, fun e => by simp at e, fun hn => ?_⟩
    have h0 := (hr 0 (by omega)).1
    obtain ⟨b, o, rfl⟩ := plain_addr h0
    rw [add_mk] at h0
    refine ⟨b, o, rfl, World.block_lt_of_cell? _ _ h0, fun i hi => ?_⟩
    obtain ⟨h1, h2, h3, h4, h5, h6, h7⟩ := hr i (by omega)
    rw [add_mk] at h1
    refine ⟨A i, N i, C i, h1, ?_⟩
    have e : ((List.range len).map fun r => toBytes ((Z r).take (N r))).getD i [] = toBytes ((Z i).take (N i)) := by
      simp [List.getD, hi]
    rw [e]
    cases hA : A i with
    | none =>
      have hC := h6 hA
      have hN : N i = 0 := by omega
      refine ⟨by simp [toBytes, hN], h2, h3, fun _ => ⟨hN, hC⟩, fun x => absurd x (by omega)⟩
    | some y => exact bytes_of h2 h3 h4 (h7 y hA).2 h5
end Go.Proofs.Qxb6600206a.Op1
