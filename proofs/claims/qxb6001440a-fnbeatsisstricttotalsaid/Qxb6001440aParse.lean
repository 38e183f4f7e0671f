/-
  Seat b6001440a: the walk of zparseB1 (9).
-/
import Derived.Test.Qxb6001440aSplit
namespace Go.Proofs.Qxb6001440a.Ps
open Go.RowKit Go.Proofs.Qxb6001440a.Pl Go.Proofs.Qxb6001440a.Sp
set_option linter.unusedVariables false

def pcell (g : Bool) (b : ByteArray) (s : Value) (hp : Bool) (wi pl : Int) : Nat → Value
  | 0 => .bool g
  | 1 => .string b
  | 2 => s
  | 3 => .bool hp
  | 4 => .int .i64 wi
  | _ => .int .i64 pl
/-- Block T is a zparsedB1. -/
def PAt (w : World) (T : Nat) (g : Bool) (b : ByteArray) (s : Value) (hp : Bool) (wi pl : Int) : Prop := w.rowIs T 25 6 (pcell g b s hp wi pl)
theorem PAt.cells {w : World} {T : Nat} {g : Bool} {b : ByteArray} {s : Value} {hp : Bool} {wi pl : Int} (h : PAt w T g b s hp wi pl) :
    w.cell? ⟨T, 0, none⟩ = some (.bool g) ∧ w.cell? ⟨T, 1, none⟩ = some (.string b) ∧ w.cell? ⟨T, 2, none⟩ = some s ∧ w.cell? ⟨T, 3, none⟩ = some (.bool hp) ∧ w.cell? ⟨T, 4, none⟩ = some (.int .i64 wi) ∧ w.cell? ⟨T, 5, none⟩ = some (.int .i64 pl) :=
  ⟨World.rowIs.cell h (i := 0) (by omega), World.rowIs.cell h (i := 1) (by omega), World.rowIs.cell h (i := 2) (by omega), World.rowIs.cell h (i := 3) (by omega), World.rowIs.cell h (i := 4) (by omega), World.rowIs.cell h (i := 5) (by omega)⟩
theorem PAt.frozen {w : World} {T : Nat} {g : Bool} {b : ByteArray} {s : Value} {hp : Bool} {wi pl : Int} (h : PAt w T g b s hp wi pl) (i : Nat) : w.frozen? ⟨T, i, none⟩ = false := World.rowIs.frozen h i
theorem six {P : Nat → Prop} (h0 : P 0) (h1 : P 1) (h2 : P 2) (h3 : P 3) (h4 : P 4) (h5 : P 5) : ∀ i, i < 6 → P i := by
  intro i hi
  match i, hi with
  | 0, _ => exact h0
  | 1, _ => exact h1
  | 2, _ => exact h2
  | 3, _ => exact h3
  | 4, _ => exact h4
  | 5, _ => exact h5
theorem PAt.made (w : World) (g : Bool) (b : ByteArray) (s : Value) (hp : Bool) (wi pl : Int) : PAt (w.alloc (.cells #[.bool g, .string b, s, .bool hp, .int .i64 wi, .int .i64 pl] 25)) w.heap.size g b s hp wi pl :=
  World.rowIs_alloc w #[.bool g, .string b, s, .bool hp, .int .i64 wi, .int .i64 pl] 25 _ (fun i hi => by
    have hi' : i < 6 := by simpa using hi
    exact six (P := fun i => (#[Value.bool g, .string b, s, .bool hp, .int .i64 wi, .int .i64 pl])[i]? = some (pcell g b s hp wi pl i)) rfl rfl rfl rfl rfl rfl i hi')
theorem PAt.later {w w' : World} {T : Nat} {g : Bool} {b : ByteArray} {s : Value} {hp : Bool} {wi pl : Int} (h : PAt w T g b s hp wi pl) (hb : Below w.heap.size w w') : PAt w' T g b s hp wi pl := World.rowIs.of_block h (hb.block _ (World.rowIs.lt h))
theorem PAt.set2 {w : World} {T : Nat} {g : Bool} {b : ByteArray} {s : Value} {hp : Bool} {wi pl : Int} (h : PAt w T g b s hp wi pl) (v : Value) : PAt (w.setCell ⟨T, 2, none⟩ v) T g b v hp wi pl :=
  (World.rowIs.set h 2 v).congr (six (by rfl) (by rfl) (by rfl) (by rfl) (by rfl) (by rfl))
theorem PAt.set3 {w : World} {T : Nat} {g : Bool} {b : ByteArray} {s : Value} {hp : Bool} {wi pl : Int} (h : PAt w T g b s hp wi pl) (v : Bool) : PAt (w.setCell ⟨T, 3, none⟩ (.bool v)) T g b s v wi pl :=
  (World.rowIs.set h 3 (.bool v)).congr (six (by rfl) (by rfl) (by rfl) (by rfl) (by rfl) (by rfl))
theorem PAt.set4 {w : World} {T : Nat} {g : Bool} {b : ByteArray} {s : Value} {hp : Bool} {wi pl : Int} (h : PAt w T g b s hp wi pl) (v : Int) : PAt (w.setCell ⟨T, 4, none⟩ (.int .i64 v)) T g b s hp v pl :=
  (World.rowIs.set h 4 (.int .i64 v)).congr (six (by rfl) (by rfl) (by rfl) (by rfl) (by rfl) (by rfl))
theorem PAt.set5 {w : World} {T : Nat} {g : Bool} {b : ByteArray} {s : Value} {hp : Bool} {wi pl : Int} (h : PAt w T g b s hp wi pl) (v : Int) : PAt (w.setCell ⟨T, 5, none⟩ (.int .i64 v)) T g b s hp wi v :=
  (World.rowIs.set h 5 (.int .i64 v)).congr (six (by rfl) (by rfl) (by rfl) (by rfl) (by rfl) (by rfl))
theorem PAt.other {w : World} {T : Nat} {g : Bool} {b : ByteArray} {s : Value} {hp : Bool} {wi pl : Int} (h : PAt w T g b s hp wi pl) {p : Addr} (hne : T ≠ p.block) (v : Value) : PAt (w.setCell p v) T g b s hp wi pl := World.rowIs.setOther h hne v

theorem strs_set {w : World} {a : Option Addr} {n c : Nat} {L : List ByteArray} (h : StrsAt w a n c L) {p : Addr} (hne : ∀ x, a = some x → x.block ≠ p.block) (v : Value) : StrsAt (w.setCell p v) a n c L := by
  obtain ⟨h1, h2, h3, h5⟩ := h
  refine ⟨h1, h2, h3, fun hn => ?_⟩
  obtain ⟨b, o, rfl, hlt, hc⟩ := h5 hn
  refine ⟨b, o, rfl, by simpa [World.setCell] using hlt, fun i hi => ?_⟩
  have hk : b ≠ p.block := hne _ rfl
  exact (World.cell?_of_block (w := w) (a := ⟨b, o + i, none⟩) (Below.heap_setCell w p v b hk)).trans (hc i hi)

/-- What the round keeps: block R the result's, block T the struct p, and the segments elsewhere. -/
def Keeps (w : World) (R T : Nat) (g : Bool) (b : ByteArray) (sa : Option Addr) (n sc : Nat) (L : List ByteArray) (hp : Bool) (wi pl : Int) (wr : World) : Prop :=
  PAt wr T g b (.slice sa n sc) hp wi pl ∧ PAt wr R false (ByteArray.mk #[]) (.slice none 0 0) false 0 0 ∧ StrsAt wr sa n sc L ∧ Below R w wr
theorem Keeps.set4 {w wr : World} {R : Nat} {g : Bool} {b : ByteArray} {sa : Option Addr} {n sc : Nat} {L : List ByteArray} {hp : Bool} {wi pl : Int} (h : Keeps w R (R + 1) g b sa n sc L hp wi pl wr) (hx : ∀ x, sa = some x → R + 2 ≤ x.block) (v : Int) :
    Keeps w R (R + 1) g b sa n sc L hp v pl (wr.setCell ⟨R + 1, 4, none⟩ (.int .i64 v)) :=
  ⟨h.1.set4 v, h.2.1.other (by show R ≠ R + 1; omega) _, strs_set h.2.2.1 (fun x hx' => by have := hx x hx'; show x.block ≠ R + 1; omega) _, h.2.2.2.setCell (by show R ≤ R + 1; omega) _⟩
theorem Keeps.set5 {w wr : World} {R : Nat} {g : Bool} {b : ByteArray} {sa : Option Addr} {n sc : Nat} {L : List ByteArray} {hp : Bool} {wi pl : Int} (h : Keeps w R (R + 1) g b sa n sc L hp wi pl wr) (hx : ∀ x, sa = some x → R + 2 ≤ x.block) (v : Int) :
    Keeps w R (R + 1) g b sa n sc L hp wi v (wr.setCell ⟨R + 1, 5, none⟩ (.int .i64 v)) :=
  ⟨h.1.set5 v, h.2.1.other (by show R ≠ R + 1; omega) _, strs_set h.2.2.1 (fun x hx' => by have := hx x hx'; show x.block ≠ R + 1; omega) _, h.2.2.2.setCell (by show R ≤ R + 1; omega) _⟩
theorem Keeps.set3 {w wr : World} {R : Nat} {g : Bool} {b : ByteArray} {sa : Option Addr} {n sc : Nat} {L : List ByteArray} {hp : Bool} {wi pl : Int} (h : Keeps w R (R + 1) g b sa n sc L hp wi pl wr) (hx : ∀ x, sa = some x → R + 2 ≤ x.block) (v : Bool) :
    Keeps w R (R + 1) g b sa n sc L v wi pl (wr.setCell ⟨R + 1, 3, none⟩ (.bool v)) :=
  ⟨h.1.set3 v, h.2.1.other (by show R ≠ R + 1; omega) _, strs_set h.2.2.1 (fun x hx' => by have := hx x hx'; show x.block ≠ R + 1; omega) _, h.2.2.2.setCell (by show R ≤ R + 1; omega) _⟩

/-- Behind the call of zsplitB1: the segments stored into p, wildcardAt set to -1. -/
theorem keeps_start {w w2 : World} {g : Bool} {b : ByteArray} {sa : Option Addr} {n sc : Nat} {L : List ByteArray} (hs : StrsAt w2 sa n sc L) (hx : ∀ x, sa = some x → w.heap.size + 2 ≤ x.block)
    (hb : Below (w.heap.size + 1 + 1) ((w.alloc (.cells #[.bool false, .string (ByteArray.mk #[]), .slice none 0 0, .bool false, .int .i64 0, .int .i64 0] 25)).alloc (.cells #[.bool g, .string b, .slice none 0 0, .bool false, .int .i64 0, .int .i64 0] 25)) w2) :
    PAt w2 (w.heap.size + 1) g b (.slice none 0 0) false 0 0 ∧ Keeps w w.heap.size (w.heap.size + 1) g b sa n sc L false (-1) 0 ((w2.setCell ⟨w.heap.size + 1, 2, none⟩ (.slice sa n sc)).setCell ⟨w.heap.size + 1, 4, none⟩ (.int .i64 (-1))) := by
  have e1 := PAt.made w false (ByteArray.mk #[]) (.slice none 0 0) false 0 0
  obtain ⟨W1, hW1⟩ : ∃ W1, W1 = w.alloc (.cells #[.bool false, .string (ByteArray.mk #[]), .slice none 0 0, .bool false, .int .i64 0, .int .i64 0] 25) := ⟨_, rfl⟩
  rw [← hW1] at e1 hb
  have hW1s : W1.heap.size = w.heap.size + 1 := by rw [hW1]; simp
  have e2 := PAt.made W1 g b (.slice none 0 0) false 0 0
  have b1 : Below w.heap.size w W1 := by rw [hW1]; exact (Below.refl _ _).alloc (Nat.le_refl _) _
  obtain ⟨W2, hW2⟩ : ∃ W2, W2 = W1.alloc (.cells #[.bool g, .string b, .slice none 0 0, .bool false, .int .i64 0, .int .i64 0] 25) := ⟨_, rfl⟩
  have b2 : Below W1.heap.size W1 W2 := by rw [hW2]; exact (Below.refl _ _).alloc (Nat.le_refl _) _
  rw [← hW2] at e2 hb
  have hW2s : W2.heap.size = w.heap.size + 1 + 1 := by rw [hW2]; simp [hW1s]
  rw [← hW2s] at hb
  rw [hW1s] at e2
  have f1 := (e1.later b2).later hb
  have f2 := e2.later hb
  have f3 : Below w.heap.size w w2 := (b1.trans (b2.mono (by omega))).trans (hb.mono (by omega))
  refine ⟨f2, (f2.set2 _).set4 _, (f1.other (by show w.heap.size ≠ w.heap.size + 1; omega) _).other (by show w.heap.size ≠ w.heap.size + 1; omega) _, ?_, (f3.setCell (by show w.heap.size ≤ w.heap.size + 1; omega) _).setCell (by show w.heap.size ≤ w.heap.size + 1; omega) _⟩
  exact strs_set (strs_set hs (fun x hx' => by have := hx x hx'; show x.block ≠ w.heap.size + 1; omega) _) (fun x hx' => by have := hx x hx'; show x.block ≠ w.heap.size + 1; omega) _

theorem last_yes {t : ByteArray} (h0 : 0 < t.size) (hc : ((t[t.size - 1].toNat : Int) == 42) = true) : isGlob t = true := by
  unfold isGlob
  have e : t.data.toList.getD (t.size - 1) 0 = t[t.size - 1] := by
    rw [List.getD_eq_getElem?_getD, List.getElem?_eq_getElem (by simp; omega), Option.getD_some]; rfl
  rw [e]
  have := eq_of_beq hc
  simp [h0]
  omega
theorem last_no {t : ByteArray} (h0 : 0 < t.size) (hc : ((t[t.size - 1].toNat : Int) == 42) = false) : isGlob t = false := by
  unfold isGlob
  have e : t.data.toList.getD (t.size - 1) 0 = t[t.size - 1] := by
    rw [List.getD_eq_getElem?_getD, List.getElem?_eq_getElem (by simp; omega), Option.getD_some]; rfl
  rw [e]
  rw [beq_eq_false_iff_ne] at hc
  simp [h0]
  omega
theorem last_none {t : ByteArray} (h0 : ¬ 0 < t.size) : isGlob t = false := by
  unfold isGlob; simp [h0]

/-- What zparseB1 hands back. -/
def Parsed (t : ByteArray) (e : Ending) : Prop := ∃ a n c hp, e = .returned (.agg #[.bool (isGlob t), .string (body t), .slice a n c, .bool hp, .int .i64 (wild t), .int .i64 (plus t)])
theorem parsed_mk {t b : ByteArray} {g : Bool} {wi : Int} {pl : Nat} (hg : isGlob t = g) (hb : body t = b) (hw : wild t = wi) (hp : plus t = pl) (a : Option Addr) (n c : Nat) (hp' : Bool) :
    Parsed t (.returned (.agg #[.bool g, .string b, .slice a n c, .bool hp', .int .i64 wi, .int .i64 (pl : Int)])) :=
  ⟨a, n, c, hp', by rw [hg, hb, hw, hp]⟩
theorem body_yes {t : ByteArray} (h : isGlob t = true) : body t = t.extract 0 (t.size - 1) := by unfold body; rw [h]; rfl
theorem body_no {t : ByteArray} (h : isGlob t = false) : body t = t := by unfold body; rw [h]; rfl
theorem wild_a {t : ByteArray} {wi : Int} (h0 : wild0 t = wi) (hg : isGlob t = true) (hw : wi < 0) : wild t = (t.size : Int) - 1 := by unfold wild; rw [h0, if_pos ⟨hw, hg⟩]
theorem wild_b {t : ByteArray} {wi : Int} (h0 : wild0 t = wi) (hw : ¬ wi < 0) : wild t = wi := by unfold wild; rw [h0, if_neg (fun x => hw x.1)]
theorem wild_c {t : ByteArray} {wi : Int} (h0 : wild0 t = wi) (hg : isGlob t = false) : wild t = wi := by unfold wild; rw [h0, if_neg (fun x => by rw [hg] at x; simp at x)]

set_option maxHeartbeats 2000000 in
theorem parse_yes (t : ByteArray) (w : World) (ht : t.size ≤ 65536) (h0 : 0 < t.size) (hc : ((t[t.size - 1].toNat : Int) == 42) = true) :
    Calls Try.prog 9 #[.string t] w fun e w' => Parsed t e ∧ Below w.heap.size w w' := by
  have HG : Hid (isGlob t = true) := last_yes h0 hc
  go_enter Try.func9, Try.ntmps9
  go_wp2_with fail
  refine (split_any _ _ (by have := extract_le t 0 (t.size - 1); omega)).mono ?_
  rintro e w2 ⟨⟨sa, sc, rfl, hs, hx⟩, hb⟩
  obtain ⟨L, hL⟩ : ∃ L, L = segs (t.extract 0 (t.size - 1)) := ⟨_, rfl⟩
  have HLs : Hid (∀ x ∈ L, x.size ≤ 65536) := by
    rw [hL]; intro x hx'; have := segs_seg (t.extract 0 (t.size - 1)) x hx'; have := extract_le t 0 (t.size - 1); omega
  have hLl : L.length ≤ 65537 := by rw [hL]; have := segs_len (t.extract 0 (t.size - 1)); have := extract_le t 0 (t.size - 1); omega
  rw [← hL] at hs
  rw [← hL]
  have hx2 : ∀ x, sa = some x → w.heap.size + 2 ≤ x.block := fun x hx' => by have := hx x hx'; simpa using this
  obtain ⟨f2, hk⟩ := keeps_start (w := w) (g := true) (b := (t.extract 0 (t.size - 1))) hs hx2 (by simpa using hb)
  have HK0 : Hid _ := hk
  have HX : Hid (∀ x, sa = some x → w.heap.size + 2 ≤ x.block) := hx2
  have g2 := f2.cells.2.2.1
  have g4 := f2.cells.2.2.2.2.1
  have z2 := f2.frozen 2
  have z4 := f2.frozen 4
  have HLe : Hid (L = segs (t.extract 0 (t.size - 1))) := hL
  clear hx2 hx hb hs f2 hk hL
  go_wp2
  clear g2 g4 z2 z4
  go_loopw [4, 5] (fun a i wr => ∃ (k off pl : Nat) (wi : Int), k ≤ L.length ∧ i = .int .i64 k ∧ a = .int .i64 off ∧ Hid (pr L k = (off, wi, pl)) ∧ Hid (Keeps w w.heap.size (w.heap.size + 1) true (t.extract 0 (t.size - 1)) sa L.length sc L false wi pl wr)) (fun _ i _ => L.length - (intOf i).toNat)
  case atStart => exact ⟨0, 0, 0, -1, Nat.zero_le _, rfl, rfl, rfl, HK0.out⟩
  case round =>
    obtain ⟨k, off, pl, wi, hk, rfl, rfl, HP, HK⟩ := hrel
    clear HK0
    have hpb := pr_bounds L HLs.out k
    rw [HP.out] at hpb
    simp only [] at hpb
    obtain ⟨p1, p2, p3, p4⟩ := hpb
    obtain ⟨_, _, c2, _, c4, c5⟩ := HK.out.1.cells
    have z4 := HK.out.1.frozen 4
    have z5 := HK.out.1.frozen 5
    by_cases hlt : k < L.length
    · obtain ⟨b, o, e, _, hcell⟩ := HK.out.2.2.1.2.2.2 (by omega)
      have hbne : w.heap.size + 2 ≤ b := HX.out ⟨b, o, none⟩ e
      obtain ⟨x, hx⟩ : ∃ x, x = L.getD k ByteArray.empty := ⟨_, rfl⟩
      have gk := hcell k hlt
      rw [← hx] at gk
      have hxs : x.size ≤ 65536 := by
        rw [hx, List.getD_eq_getElem?_getD, List.getElem?_eq_getElem hlt, Option.getD_some]
        exact HLs.out _ (List.getElem_mem hlt)
      subst e
      cases hpx : (x.toList == [43]) with
      | true =>
        by_cases hw : wi < 0
        · have HN : Hid (pr L (k + 1) = (off + (x.size + 1), (off : Int), pl + 1)) := by
            show _ = _
            simp only [pr, ← hx, isPlus, hpx, if_true, HP.out]
            rw [if_pos hw]
          have HK1 : Hid _ := (HK.out.set5 HX.out ((pl : Int) + 1)).set4 HX.out (off : Int)
          clear hx hcell
          go_wp2
          go_roundw
          case rel => exact ⟨k + 1, off + (x.size + 1), pl + 1, off, by omega, by go_num, by go_num, HN.out, HK1.out⟩
          case measure => simp [intOf]; omega
        · have HN : Hid (pr L (k + 1) = (off + (x.size + 1), wi, pl + 1)) := by
            show _ = _
            simp only [pr, ← hx, isPlus, hpx, if_true, HP.out]
            rw [if_neg hw]
          have HK1 : Hid _ := HK.out.set5 HX.out ((pl : Int) + 1)
          clear hx hcell
          go_wp2
          go_roundw
          case rel => exact ⟨k + 1, off + (x.size + 1), pl + 1, wi, by omega, by go_num, by go_num, HN.out, HK1.out⟩
          case measure => simp [intOf]; omega
      | false =>
        have HN : Hid (pr L (k + 1) = (off + (x.size + 1), wi, pl)) := by
          show _ = _
          simp only [pr, ← hx, isPlus, hpx, HP.out]
          rfl
        clear hx hcell
        go_wp2
        go_roundw
        case rel => exact ⟨k + 1, off + (x.size + 1), pl, wi, by omega, by go_num, by go_num, HN.out, HK.out⟩
        case measure => simp [intOf]; omega
    · obtain rfl : k = L.length := by omega
      obtain ⟨c0, c1, _, c3, _, _⟩ := HK.out.1.cells
      have z3 := HK.out.1.frozen 3
      obtain ⟨r0, r1, r2, r3, r4, r5⟩ := HK.out.2.1.cells
      have y0 := HK.out.2.1.frozen 0
      have y1 := HK.out.2.1.frozen 1
      have y2 := HK.out.2.1.frozen 2
      have y3 := HK.out.2.1.frozen 3
      have y4 := HK.out.2.1.frozen 4
      have y5 := HK.out.2.1.frozen 5
      have HBd : Hid (body t = (t.extract 0 (t.size - 1))) := body_yes HG.out
      have hpr := HP.out
      rw [HLe.out, ← HBd.out] at hpr
      have HW0 : Hid (wild0 t = wi) := by show wild0 t = wi; unfold wild0; rw [hpr]
      have HPl : Hid (plus t = pl) := by show plus t = pl; unfold plus; rw [hpr]
      clear hpr
      by_cases hw : wi < 0
      · have HWi : Hid (wild t = (t.size : Int) - 1) := wild_a HW0.out HG.out hw
        go_wp2
        refine bodyPost_ret (v := .agg #[.bool true, .string (t.extract 0 (t.size - 1)), .slice sa L.length sc, .bool (decide (0 < pl)), .int .i64 ((t.size : Int) - 1), .int .i64 (pl : Int)]) (by simp [results, Try.results9, go_sem, r0, r1, r2, r3, r4, r5]) rfl ⟨parsed_mk HG.out HBd.out HWi.out HPl.out _ _ _ _, ?_⟩
        iterate 8 (refine Below.setCell ?_ (by first | exact Nat.le_refl _ | exact Nat.le_succ _) _)
        exact HK.out.2.2.2
      · have HWi : Hid (wild t = wi) := wild_b HW0.out hw
        go_wp2
        refine bodyPost_ret (v := .agg #[.bool true, .string (t.extract 0 (t.size - 1)), .slice sa L.length sc, .bool (decide (0 < pl)), .int .i64 wi, .int .i64 (pl : Int)]) (by simp [results, Try.results9, go_sem, r0, r1, r2, r3, r4, r5]) rfl ⟨parsed_mk HG.out HBd.out HWi.out HPl.out _ _ _ _, ?_⟩
        iterate 7 (refine Below.setCell ?_ (by first | exact Nat.le_refl _ | exact Nat.le_succ _) _)
        exact HK.out.2.2.2

set_option maxHeartbeats 2000000 in
theorem parse_no (t : ByteArray) (w : World) (ht : t.size ≤ 65536) (h0 : 0 < t.size) (hc : ((t[t.size - 1].toNat : Int) == 42) = false) :
    Calls Try.prog 9 #[.string t] w fun e w' => Parsed t e ∧ Below w.heap.size w w' := by
  have HG : Hid (isGlob t = false) := last_no h0 hc
  go_enter Try.func9, Try.ntmps9
  go_wp2_with fail
  refine (split_any _ _ (by have := extract_le t 0 (t.size - 1); omega)).mono ?_
  rintro e w2 ⟨⟨sa, sc, rfl, hs, hx⟩, hb⟩
  obtain ⟨L, hL⟩ : ∃ L, L = segs t := ⟨_, rfl⟩
  have HLs : Hid (∀ x ∈ L, x.size ≤ 65536) := by
    rw [hL]; intro x hx'; have := segs_seg t x hx'; have := extract_le t 0 (t.size - 1); omega
  have hLl : L.length ≤ 65537 := by rw [hL]; have := segs_len t; have := extract_le t 0 (t.size - 1); omega
  rw [← hL] at hs
  rw [← hL]
  have hx2 : ∀ x, sa = some x → w.heap.size + 2 ≤ x.block := fun x hx' => by have := hx x hx'; simpa using this
  obtain ⟨f2, hk⟩ := keeps_start (w := w) (g := false) (b := t) hs hx2 (by simpa using hb)
  have HK0 : Hid _ := hk
  have HX : Hid (∀ x, sa = some x → w.heap.size + 2 ≤ x.block) := hx2
  have g2 := f2.cells.2.2.1
  have g4 := f2.cells.2.2.2.2.1
  have z2 := f2.frozen 2
  have z4 := f2.frozen 4
  have HLe : Hid (L = segs t) := hL
  clear hx2 hx hb hs f2 hk hL
  go_wp2
  clear g2 g4 z2 z4
  go_loopw [4, 5] (fun a i wr => ∃ (k off pl : Nat) (wi : Int), k ≤ L.length ∧ i = .int .i64 k ∧ a = .int .i64 off ∧ Hid (pr L k = (off, wi, pl)) ∧ Hid (Keeps w w.heap.size (w.heap.size + 1) false t sa L.length sc L false wi pl wr)) (fun _ i _ => L.length - (intOf i).toNat)
  case atStart => exact ⟨0, 0, 0, -1, Nat.zero_le _, rfl, rfl, rfl, HK0.out⟩
  case round =>
    obtain ⟨k, off, pl, wi, hk, rfl, rfl, HP, HK⟩ := hrel
    clear HK0
    have hpb := pr_bounds L HLs.out k
    rw [HP.out] at hpb
    simp only [] at hpb
    obtain ⟨p1, p2, p3, p4⟩ := hpb
    obtain ⟨_, _, c2, _, c4, c5⟩ := HK.out.1.cells
    have z4 := HK.out.1.frozen 4
    have z5 := HK.out.1.frozen 5
    by_cases hlt : k < L.length
    · obtain ⟨b, o, e, _, hcell⟩ := HK.out.2.2.1.2.2.2 (by omega)
      have hbne : w.heap.size + 2 ≤ b := HX.out ⟨b, o, none⟩ e
      obtain ⟨x, hx⟩ : ∃ x, x = L.getD k ByteArray.empty := ⟨_, rfl⟩
      have gk := hcell k hlt
      rw [← hx] at gk
      have hxs : x.size ≤ 65536 := by
        rw [hx, List.getD_eq_getElem?_getD, List.getElem?_eq_getElem hlt, Option.getD_some]
        exact HLs.out _ (List.getElem_mem hlt)
      subst e
      cases hpx : (x.toList == [43]) with
      | true =>
        by_cases hw : wi < 0
        · have HN : Hid (pr L (k + 1) = (off + (x.size + 1), (off : Int), pl + 1)) := by
            show _ = _
            simp only [pr, ← hx, isPlus, hpx, if_true, HP.out]
            rw [if_pos hw]
          have HK1 : Hid _ := (HK.out.set5 HX.out ((pl : Int) + 1)).set4 HX.out (off : Int)
          clear hx hcell
          go_wp2
          go_roundw
          case rel => exact ⟨k + 1, off + (x.size + 1), pl + 1, off, by omega, by go_num, by go_num, HN.out, HK1.out⟩
          case measure => simp [intOf]; omega
        · have HN : Hid (pr L (k + 1) = (off + (x.size + 1), wi, pl + 1)) := by
            show _ = _
            simp only [pr, ← hx, isPlus, hpx, if_true, HP.out]
            rw [if_neg hw]
          have HK1 : Hid _ := HK.out.set5 HX.out ((pl : Int) + 1)
          clear hx hcell
          go_wp2
          go_roundw
          case rel => exact ⟨k + 1, off + (x.size + 1), pl + 1, wi, by omega, by go_num, by go_num, HN.out, HK1.out⟩
          case measure => simp [intOf]; omega
      | false =>
        have HN : Hid (pr L (k + 1) = (off + (x.size + 1), wi, pl)) := by
          show _ = _
          simp only [pr, ← hx, isPlus, hpx, HP.out]
          rfl
        clear hx hcell
        go_wp2
        go_roundw
        case rel => exact ⟨k + 1, off + (x.size + 1), pl, wi, by omega, by go_num, by go_num, HN.out, HK.out⟩
        case measure => simp [intOf]; omega
    · obtain rfl : k = L.length := by omega
      obtain ⟨c0, c1, _, c3, _, _⟩ := HK.out.1.cells
      have z3 := HK.out.1.frozen 3
      obtain ⟨r0, r1, r2, r3, r4, r5⟩ := HK.out.2.1.cells
      have y0 := HK.out.2.1.frozen 0
      have y1 := HK.out.2.1.frozen 1
      have y2 := HK.out.2.1.frozen 2
      have y3 := HK.out.2.1.frozen 3
      have y4 := HK.out.2.1.frozen 4
      have y5 := HK.out.2.1.frozen 5
      have HBd : Hid (body t = t) := body_no HG.out
      have hpr := HP.out
      rw [HLe.out, ← HBd.out] at hpr
      have HW0 : Hid (wild0 t = wi) := by show wild0 t = wi; unfold wild0; rw [hpr]
      have HPl : Hid (plus t = pl) := by show plus t = pl; unfold plus; rw [hpr]
      clear hpr
      by_cases hw : wi < 0
      · have HWi : Hid (wild t = wi) := wild_c HW0.out HG.out
        go_wp2
        refine bodyPost_ret (v := .agg #[.bool false, .string t, .slice sa L.length sc, .bool (decide (0 < pl)), .int .i64 (wi), .int .i64 (pl : Int)]) (by simp [results, Try.results9, go_sem, r0, r1, r2, r3, r4, r5]) rfl ⟨parsed_mk HG.out HBd.out HWi.out HPl.out _ _ _ _, ?_⟩
        iterate 7 (refine Below.setCell ?_ (by first | exact Nat.le_refl _ | exact Nat.le_succ _) _)
        exact HK.out.2.2.2
      · have HWi : Hid (wild t = wi) := wild_b HW0.out hw
        go_wp2
        refine bodyPost_ret (v := .agg #[.bool false, .string t, .slice sa L.length sc, .bool (decide (0 < pl)), .int .i64 wi, .int .i64 (pl : Int)]) (by simp [results, Try.results9, go_sem, r0, r1, r2, r3, r4, r5]) rfl ⟨parsed_mk HG.out HBd.out HWi.out HPl.out _ _ _ _, ?_⟩
        iterate 7 (refine Below.setCell ?_ (by first | exact Nat.le_refl _ | exact Nat.le_succ _) _)
        exact HK.out.2.2.2

set_option maxHeartbeats 2000000 in
theorem parse_empty (t : ByteArray) (w : World) (ht : t.size ≤ 65536) (h0 : ¬ 0 < t.size) :
    Calls Try.prog 9 #[.string t] w fun e w' => Parsed t e ∧ Below w.heap.size w w' := by
  have HG : Hid (isGlob t = false) := last_none h0
  go_enter Try.func9, Try.ntmps9
  go_wp2_with fail
  refine (split_any _ _ (by have := extract_le t 0 (t.size - 1); omega)).mono ?_
  rintro e w2 ⟨⟨sa, sc, rfl, hs, hx⟩, hb⟩
  obtain ⟨L, hL⟩ : ∃ L, L = segs t := ⟨_, rfl⟩
  have HLs : Hid (∀ x ∈ L, x.size ≤ 65536) := by
    rw [hL]; intro x hx'; have := segs_seg t x hx'; have := extract_le t 0 (t.size - 1); omega
  have hLl : L.length ≤ 65537 := by rw [hL]; have := segs_len t; have := extract_le t 0 (t.size - 1); omega
  rw [← hL] at hs
  rw [← hL]
  have hx2 : ∀ x, sa = some x → w.heap.size + 2 ≤ x.block := fun x hx' => by have := hx x hx'; simpa using this
  obtain ⟨f2, hk⟩ := keeps_start (w := w) (g := false) (b := t) hs hx2 (by simpa using hb)
  have HK0 : Hid _ := hk
  have HX : Hid (∀ x, sa = some x → w.heap.size + 2 ≤ x.block) := hx2
  have g2 := f2.cells.2.2.1
  have g4 := f2.cells.2.2.2.2.1
  have z2 := f2.frozen 2
  have z4 := f2.frozen 4
  have HLe : Hid (L = segs t) := hL
  clear hx2 hx hb hs f2 hk hL
  go_wp2
  clear g2 g4 z2 z4
  go_loopw [4, 5] (fun a i wr => ∃ (k off pl : Nat) (wi : Int), k ≤ L.length ∧ i = .int .i64 k ∧ a = .int .i64 off ∧ Hid (pr L k = (off, wi, pl)) ∧ Hid (Keeps w w.heap.size (w.heap.size + 1) false t sa L.length sc L false wi pl wr)) (fun _ i _ => L.length - (intOf i).toNat)
  case atStart => exact ⟨0, 0, 0, -1, Nat.zero_le _, rfl, rfl, rfl, HK0.out⟩
  case round =>
    obtain ⟨k, off, pl, wi, hk, rfl, rfl, HP, HK⟩ := hrel
    clear HK0
    have hpb := pr_bounds L HLs.out k
    rw [HP.out] at hpb
    simp only [] at hpb
    obtain ⟨p1, p2, p3, p4⟩ := hpb
    obtain ⟨_, _, c2, _, c4, c5⟩ := HK.out.1.cells
    have z4 := HK.out.1.frozen 4
    have z5 := HK.out.1.frozen 5
    by_cases hlt : k < L.length
    · obtain ⟨b, o, e, _, hcell⟩ := HK.out.2.2.1.2.2.2 (by omega)
      have hbne : w.heap.size + 2 ≤ b := HX.out ⟨b, o, none⟩ e
      obtain ⟨x, hx⟩ : ∃ x, x = L.getD k ByteArray.empty := ⟨_, rfl⟩
      have gk := hcell k hlt
      rw [← hx] at gk
      have hxs : x.size ≤ 65536 := by
        rw [hx, List.getD_eq_getElem?_getD, List.getElem?_eq_getElem hlt, Option.getD_some]
        exact HLs.out _ (List.getElem_mem hlt)
      subst e
      cases hpx : (x.toList == [43]) with
      | true =>
        by_cases hw : wi < 0
        · have HN : Hid (pr L (k + 1) = (off + (x.size + 1), (off : Int), pl + 1)) := by
            show _ = _
            simp only [pr, ← hx, isPlus, hpx, if_true, HP.out]
            rw [if_pos hw]
          have HK1 : Hid _ := (HK.out.set5 HX.out ((pl : Int) + 1)).set4 HX.out (off : Int)
          clear hx hcell
          go_wp2
          go_roundw
          case rel => exact ⟨k + 1, off + (x.size + 1), pl + 1, off, by omega, by go_num, by go_num, HN.out, HK1.out⟩
          case measure => simp [intOf]; omega
        · have HN : Hid (pr L (k + 1) = (off + (x.size + 1), wi, pl + 1)) := by
            show _ = _
            simp only [pr, ← hx, isPlus, hpx, if_true, HP.out]
            rw [if_neg hw]
          have HK1 : Hid _ := HK.out.set5 HX.out ((pl : Int) + 1)
          clear hx hcell
          go_wp2
          go_roundw
          case rel => exact ⟨k + 1, off + (x.size + 1), pl + 1, wi, by omega, by go_num, by go_num, HN.out, HK1.out⟩
          case measure => simp [intOf]; omega
      | false =>
        have HN : Hid (pr L (k + 1) = (off + (x.size + 1), wi, pl)) := by
          show _ = _
          simp only [pr, ← hx, isPlus, hpx, HP.out]
          rfl
        clear hx hcell
        go_wp2
        go_roundw
        case rel => exact ⟨k + 1, off + (x.size + 1), pl, wi, by omega, by go_num, by go_num, HN.out, HK.out⟩
        case measure => simp [intOf]; omega
    · obtain rfl : k = L.length := by omega
      obtain ⟨c0, c1, _, c3, _, _⟩ := HK.out.1.cells
      have z3 := HK.out.1.frozen 3
      obtain ⟨r0, r1, r2, r3, r4, r5⟩ := HK.out.2.1.cells
      have y0 := HK.out.2.1.frozen 0
      have y1 := HK.out.2.1.frozen 1
      have y2 := HK.out.2.1.frozen 2
      have y3 := HK.out.2.1.frozen 3
      have y4 := HK.out.2.1.frozen 4
      have y5 := HK.out.2.1.frozen 5
      have HBd : Hid (body t = t) := body_no HG.out
      have hpr := HP.out
      rw [HLe.out, ← HBd.out] at hpr
      have HW0 : Hid (wild0 t = wi) := by show wild0 t = wi; unfold wild0; rw [hpr]
      have HPl : Hid (plus t = pl) := by show plus t = pl; unfold plus; rw [hpr]
      clear hpr
      by_cases hw : wi < 0
      · have HWi : Hid (wild t = wi) := wild_c HW0.out HG.out
        go_wp2
        refine bodyPost_ret (v := .agg #[.bool false, .string t, .slice sa L.length sc, .bool (decide (0 < pl)), .int .i64 (wi), .int .i64 (pl : Int)]) (by simp [results, Try.results9, go_sem, r0, r1, r2, r3, r4, r5]) rfl ⟨parsed_mk HG.out HBd.out HWi.out HPl.out _ _ _ _, ?_⟩
        iterate 7 (refine Below.setCell ?_ (by first | exact Nat.le_refl _ | exact Nat.le_succ _) _)
        exact HK.out.2.2.2
      · have HWi : Hid (wild t = wi) := wild_b HW0.out hw
        go_wp2
        refine bodyPost_ret (v := .agg #[.bool false, .string t, .slice sa L.length sc, .bool (decide (0 < pl)), .int .i64 wi, .int .i64 (pl : Int)]) (by simp [results, Try.results9, go_sem, r0, r1, r2, r3, r4, r5]) rfl ⟨parsed_mk HG.out HBd.out HWi.out HPl.out _ _ _ _, ?_⟩
        iterate 7 (refine Below.setCell ?_ (by first | exact Nat.le_refl _ | exact Nat.le_succ _) _)
        exact HK.out.2.2.2

theorem parse_any (t : ByteArray) (w : World) (ht : t.size ≤ 65536) :
    Calls Try.prog 9 #[.string t] w fun e w' => Parsed t e ∧ Below w.heap.size w w' := by
  by_cases h0 : 0 < t.size
  · cases hc : ((t[t.size - 1].toNat : Int) == 42) with
    | true => exact parse_yes t w ht h0 hc
    | false => exact parse_no t w ht h0 hc
  · exact parse_empty t w ht h0
end Go.Proofs.Qxb6001440a.Ps
