import Derived.Test.Qxb6001451aCounts
import Derived.Laws.CopyOwn
import Derived.Deep.DeepCutAuto
namespace Go.Proofs.Qxb6001451a
open Go.RowKit

/-- A slice of ints that lies in a block of S. -/
def PInts (S : Nat → Prop) (w : World) (v : Value) (zs : List Int) : Prop :=
  ∃ a cap, v = .slice a zs.length cap ∧ zs.length ≤ maxLen ∧ ∀ i, (h : i < zs.length) → ∃ b off, a = some ⟨b, off, none⟩ ∧ S b ∧ w.cell? ⟨b, off + i, none⟩ = some (.int .i64 zs[i])

/-- The four cells of a project quorum set that lies in blocks of S. -/
def PM : (n : Nat) → (Nat → Prop) → World → QT n → Value → Value → Value → Value → Prop
  | 0, _, _, _, _, _, _, _ => False
  | n + 1, S, w, q, c0, c1, c2, c3 => c0 = .int .i64 (thr q) ∧ (Lit.int .i64 (thr q)).wf = true ∧ PInts S w c1 (vals q) ∧
      (∃ a cap, c2 = .slice a (inn q).length cap ∧ (inn q).length ≤ maxLen ∧
        ∀ i, (h : i < (inn q).length) → ∃ b off d0 d1 d2 d3, a = some ⟨b, off, none⟩ ∧ S b ∧ w.cell? ⟨b, off + i * 4, none⟩ = some d0 ∧ w.cell? ⟨b, off + i * 4 + 1, none⟩ = some d1 ∧
          w.cell? ⟨b, off + i * 4 + 2, none⟩ = some d2 ∧ w.cell? ⟨b, off + i * 4 + 3, none⟩ = some d3 ∧ PM n S w (inn q)[i] d0 d1 d2 d3) ∧ c3 = .slice none 0 0

/-- In the blocks of S nothing that was there has turned. -/
def From (S : Nat → Prop) (w w' : World) : Prop := ∀ k, S k → k < w.heap.size → w'.heap[k]? = w.heap[k]?

theorem From.cell {S : Nat → Prop} {w w' : World} (h : From S w w') {b o : Nat} {v : Value} (hb : S b) (hc : w.cell? ⟨b, o, none⟩ = some v) : w'.cell? ⟨b, o, none⟩ = some v :=
  (World.cell?_of_block (w := w) (a := ⟨b, o, none⟩) (h b hb (World.block_lt_of_cell? w _ hc))).trans hc

theorem From.of_below {S : Nat → Prop} {w w' : World} (h : Below w.heap.size w w') : From S w w' := fun k _ hk => h.block k hk
theorem From.of_set {S : Nat → Prop} {w : World} {a : Addr} (ha : ¬ S a.block) (v : Value) : From S w (w.setCell a v) := fun _ hk _ => Below.heap_setCell _ _ _ _ (fun e => ha (e ▸ hk))
theorem From.trans {S : Nat → Prop} {a b c : World} (h : From S a b) (hs : a.heap.size ≤ b.heap.size) (k : From S b c) : From S a c := fun i hi hl => (k i hi (by omega)).trans (h i hi hl)
theorem From.set4 {S : Nat → Prop} {w : World} {g : Nat} (hg : ¬ S g) (o0 o1 o2 o3 : Nat) (v0 v1 v2 v3 : Value) :
    From S w ((((w.setCell ⟨g, o0, none⟩ v0).setCell ⟨g, o1, none⟩ v1).setCell ⟨g, o2, none⟩ v2).setCell ⟨g, o3, none⟩ v3) := by
  refine From.trans (From.trans (From.trans (From.of_set (a := ⟨g, o0, none⟩) hg _) (by simp [World.setCell]) (From.of_set (a := ⟨g, o1, none⟩) hg _)) (by simp [World.setCell]) (From.of_set (a := ⟨g, o2, none⟩) hg _)) (by simp [World.setCell]) (From.of_set (a := ⟨g, o3, none⟩) hg _)

theorem PInts.keep {S : Nat → Prop} {w w' : World} {v : Value} {zs : List Int} (h : PInts S w v zs) (hf : From S w w') : PInts S w' v zs := by
  obtain ⟨a, cap, h2, h3, h6⟩ := h
  refine ⟨a, cap, h2, h3, fun i hi => ?_⟩
  obtain ⟨b, off, e, hl, hc⟩ := h6 i hi
  exact ⟨b, off, e, hl, hf.cell hl hc⟩
theorem PInts.mono {S S' : Nat → Prop} {w : World} {v : Value} {zs : List Int} (h : PInts S w v zs) (hl : ∀ k, S k → S' k) : PInts S' w v zs := by
  obtain ⟨a, cap, h2, h3, h6⟩ := h
  refine ⟨a, cap, h2, h3, fun i hi => ?_⟩
  obtain ⟨b, off, e, hb, hc⟩ := h6 i hi
  exact ⟨b, off, e, hl b hb, hc⟩

theorem PM.keep : ∀ (n : Nat) {S : Nat → Prop} {w w' : World} {q : QT n} {c0 c1 c2 c3 : Value} (_ : PM n S w q c0 c1 c2 c3) (_ : From S w w'), PM n S w' q c0 c1 c2 c3
  | 0, _, _, _, _, _, _, _, _, h, _ => h
  | n + 1, S, w, w', q, c0, c1, c2, c3, h, hf => by
    obtain ⟨h1, h2, h3, ⟨a, cap, h4, h5, h8⟩, h9⟩ := h
    refine ⟨h1, h2, h3.keep hf, ⟨a, cap, h4, h5, fun i hi => ?_⟩, h9⟩
    obtain ⟨b, off, d0, d1, d2, d3, e, hl, k0, k1, k2, k3, k4⟩ := h8 i hi
    exact ⟨b, off, d0, d1, d2, d3, e, hl, hf.cell hl k0, hf.cell hl k1, hf.cell hl k2, hf.cell hl k3, PM.keep n k4 hf⟩
theorem PM.mono : ∀ (n : Nat) {S S' : Nat → Prop} {w : World} {q : QT n} {c0 c1 c2 c3 : Value} (_ : PM n S w q c0 c1 c2 c3) (_ : ∀ k, S k → S' k), PM n S' w q c0 c1 c2 c3
  | 0, _, _, _, _, _, _, _, _, h, _ => h
  | n + 1, S, S', w, q, c0, c1, c2, c3, h, hl => by
    obtain ⟨h1, h2, h3, ⟨a, cap, h4, h5, h8⟩, h9⟩ := h
    refine ⟨h1, h2, h3.mono hl, ⟨a, cap, h4, h5, fun i hi => ?_⟩, h9⟩
    obtain ⟨b, off, d0, d1, d2, d3, e, hb, k0, k1, k2, k3, k4⟩ := h8 i hi
    exact ⟨b, off, d0, d1, d2, d3, e, hl b hb, k0, k1, k2, k3, PM.mono n k4 hl⟩

theorem zzNew_any (t : Int) (v i : Value) (w : World) (hv : ∃ a n c, v = .slice a n c) (hi : ∃ a n c, i = .slice a n c) :
    Calls Try.prog 31 #[.int .i64 t, v, i] w fun e w' => e = .returned (.agg #[.int .i64 t, v, i, .slice none 0 0]) ∧ Below w.heap.size w w' := by
  obtain ⟨a1, n1, c1, rfl⟩ := hv
  obtain ⟨a2, n2, c2, rfl⟩ := hi
  go_enter Try.func31, Try.ntmps31
  go_wp2
  exact bodyPost_ret (v := .agg #[.int .i64 t, .slice a1 n1 c1, .slice a2 n2 c2, .slice none 0 0]) (by simp [results, Try.results31, go_sem]) rfl ⟨rfl, (Below.refl _ _).alloc (Nat.le_refl _) _⟩

theorem info3 : (Try.prog.info? 3).map (fun i => (i.zero, i.size, i.bytes)) = some (some (.int .i64 0), 1, 8) := by kernel_rfl
theorem info36 : (Try.prog.info? 36).map (fun i => (i.zero, i.size, i.bytes)) = some (some (.agg #[.int .i64 0, .slice none 0 0, .slice none 0 0, .slice none 0 0]), 4, 80) := by kernel_rfl

/-- toProject's own memory: its box, and its result's cell behind it. -/
structure TP (w : World) (c0 c1 c2 : Value) (wr : World) : Prop where
  below : Below w.heap.size w wr
  size : w.heap.size + 2 ≤ wr.heap.size
  b0 : wr.cell? ⟨w.heap.size, 0, none⟩ = some c0
  b1 : wr.cell? ⟨w.heap.size, 1, none⟩ = some c1
  b2 : wr.cell? ⟨w.heap.size, 2, none⟩ = some c2
  r : ∀ o, o < 4 → ∃ v, wr.cell? ⟨w.heap.size + 1, o, none⟩ = some v
  rf : ∀ o, wr.frozen? ⟨w.heap.size + 1, o, none⟩ = false

theorem TP.step {w wr w1 : World} {c0 c1 c2 : Value} (h : TP w c0 c1 c2 wr) (hb : Below (w.heap.size + 2) wr w1) : TP w c0 c1 c2 w1 :=
  ⟨h.below.trans (hb.mono (by omega)), Nat.le_trans h.size hb.size, (hb.cell (p := ⟨w.heap.size, 0, none⟩) (by show w.heap.size < _; omega)).trans h.b0, (hb.cell (p := ⟨w.heap.size, 1, none⟩) (by show w.heap.size < _; omega)).trans h.b1, (hb.cell (p := ⟨w.heap.size, 2, none⟩) (by show w.heap.size < _; omega)).trans h.b2,
    fun o ho => by obtain ⟨v, hv⟩ := h.r o ho; exact ⟨v, (hb.cell (p := ⟨w.heap.size + 1, o, none⟩) (by show w.heap.size + 1 < _; omega)).trans hv⟩,
    fun o => (hb.frozen (p := ⟨w.heap.size + 1, o, none⟩) (by show w.heap.size + 1 < _; omega)).trans (h.rf o)⟩

theorem TP.start (w : World) (c0 c1 c2 e0 e1 e2 e3 : Value) : TP w c0 c1 c2 ((w.alloc (.cells #[c0, c1, c2] 25)).alloc (.cells #[e0, e1, e2, e3] 36)) := by
  refine ⟨((Below.refl _ _).alloc (Nat.le_refl _) _).alloc (by simp) _, by simp, ?_, ?_, ?_, ?_, ?_⟩
  · rw [World.cell?_alloc_past _ _ _ (by simp), World.cell?_alloc_at _ _ _ _ rfl]; rfl
  · rw [World.cell?_alloc_past _ _ _ (by simp), World.cell?_alloc_at _ _ _ _ rfl]; rfl
  · rw [World.cell?_alloc_past _ _ _ (by simp), World.cell?_alloc_at _ _ _ _ rfl]; rfl
  · intro o ho
    rw [World.cell?_alloc_at _ _ _ _ (by simp)]
    exact ⟨_, Array.getElem?_eq_getElem (by simpa using ho)⟩
  · intro o; exact World.frozen?_alloc_at _ _ _ _ (by simp)

theorem size3 : (Try.prog.info? 3).map (·.size) = some 1 := by kernel_rfl

theorem made_row {w : World} {base g n : Nat} {z : Value} {e : TypeId} (h : w.ownsRow base e 1 (.slice (some ⟨g, 0, none⟩) n n) n (madeCells #[z] n).toList) : w.heap[g]? = some (.cells (List.replicate n z).toArray e (0, 0)) := by
  rcases h.2 with ⟨h1, _⟩ | ⟨g', cap, cur, h1, _, hg, hnc, _, hsz, ht⟩
  · cases h1
  · simp only [Value.slice.injEq, Option.some.injEq, Addr.mk.injEq, true_and] at h1
    obtain ⟨⟨rfl, _⟩, rfl⟩ := h1
    rw [hg]
    rw [toList_madeCells_one] at ht
    have : cur = (List.replicate n z).toArray := by
      apply Array.toList_inj.1
      rw [← ht, List.take_of_length_le (by simp [hsz])]
    rw [this]

/-- The loop of toProject: k inner sets stand at block G. -/
structure II {n : Nat} (w : World) (q : QT (n + 1)) (G k : Nat) (c0 c1 c2 vv : Value) (wr : World) : Prop where
  tp : TP w c0 c1 c2 wr
  size : G < wr.heap.size
  hG : w.heap.size + 2 < G + 1
  row : ∀ o, o < (inn q).length * 4 → ∃ v, wr.cell? ⟨G, o, none⟩ = some v
  rowf : ∀ o, wr.frozen? ⟨G, o, none⟩ = false
  pi : PInts (fun k => w.heap.size + 2 ≤ k ∧ k < G) wr vv (vals q)
  done : ∀ i, (h : i < (inn q).length) → i < k → ∃ d0 d1 d2 d3, wr.cell? ⟨G, i * 4, none⟩ = some d0 ∧ wr.cell? ⟨G, i * 4 + 1, none⟩ = some d1 ∧ wr.cell? ⟨G, i * 4 + 2, none⟩ = some d2 ∧ wr.cell? ⟨G, i * 4 + 3, none⟩ = some d3 ∧
    PM n (fun k => G < k) wr (inn q)[i] d0 d1 d2 d3

theorem II.call {n : Nat} {w : World} {q : QT (n + 1)} {G k : Nat} {c0 c1 c2 vv : Value} {wr w1 : World} (h : II w q G k c0 c1 c2 vv wr) (hb : Below wr.heap.size wr w1) : II w q G k c0 c1 c2 vv w1 :=
  ⟨h.tp.step (hb.mono h.tp.size), Nat.lt_of_lt_of_le h.size hb.size, h.hG,
    fun o ho => by obtain ⟨v, hv⟩ := h.row o ho; exact ⟨v, (hb.cell (p := ⟨G, o, none⟩) h.size).trans hv⟩,
    fun o => (hb.frozen (p := ⟨G, o, none⟩) h.size).trans (h.rowf o), h.pi.keep (From.of_below hb),
    fun i hi hk => by
      obtain ⟨d0, d1, d2, d3, k0, k1, k2, k3, k4⟩ := h.done i hi hk
      exact ⟨d0, d1, d2, d3, (hb.cell (p := ⟨G, i * 4, none⟩) h.size).trans k0, (hb.cell (p := ⟨G, i * 4 + 1, none⟩) h.size).trans k1, (hb.cell (p := ⟨G, i * 4 + 2, none⟩) h.size).trans k2, (hb.cell (p := ⟨G, i * 4 + 3, none⟩) h.size).trans k3, PM.keep n k4 (From.of_below hb)⟩⟩

theorem cell_set4_other {w : World} {g o : Nat} {a b c d : Nat} {v0 v1 v2 v3 : Value} (h0 : a ≠ o) (h1 : b ≠ o) (h2 : c ≠ o) (h3 : d ≠ o) :
    ((((w.setCell ⟨g, a, none⟩ v0).setCell ⟨g, b, none⟩ v1).setCell ⟨g, c, none⟩ v2).setCell ⟨g, d, none⟩ v3).cell? ⟨g, o, none⟩ = w.cell? ⟨g, o, none⟩ := by
  rw [World.cell?_setCell_other _ _ _ _ (by intro e; cases e; exact h3 rfl), World.cell?_setCell_other _ _ _ _ (by intro e; cases e; exact h2 rfl), World.cell?_setCell_other _ _ _ _ (by intro e; cases e; exact h1 rfl), World.cell?_setCell_other _ _ _ _ (by intro e; cases e; exact h0 rfl)]

/-- 'inner[k] = ..': the four cells of the k-th set. -/
theorem II.put {n : Nat} {w : World} {q : QT (n + 1)} {G k : Nat} {c0 c1 c2 vv : Value} {wr : World} (h : II w q G k c0 c1 c2 vv wr) (hk : k < (inn q).length) {d0 d1 d2 d3 : Value}
    (hp : PM n (fun k => G < k) wr (inn q)[k] d0 d1 d2 d3) :
    II w q G (k + 1) c0 c1 c2 vv ((((wr.setCell ⟨G, k * 4, none⟩ d0).setCell ⟨G, k * 4 + 1, none⟩ d1).setCell ⟨G, k * 4 + 2, none⟩ d2).setCell ⟨G, k * 4 + 3, none⟩ d3) := by
  have hG := h.hG
  have hbel : Below G wr ((((wr.setCell ⟨G, k * 4, none⟩ d0).setCell ⟨G, k * 4 + 1, none⟩ d1).setCell ⟨G, k * 4 + 2, none⟩ d2).setCell ⟨G, k * 4 + 3, none⟩ d3) :=
    ((((Below.refl G wr).setCell (p := ⟨G, k * 4, none⟩) (Nat.le_refl G) d0).setCell (p := ⟨G, k * 4 + 1, none⟩) (Nat.le_refl G) d1).setCell (p := ⟨G, k * 4 + 2, none⟩) (Nat.le_refl G) d2).setCell (p := ⟨G, k * 4 + 3, none⟩) (Nat.le_refl G) d3
  obtain ⟨x0, hx0⟩ := h.row (k * 4) (by omega)
  obtain ⟨x1, hx1⟩ := h.row (k * 4 + 1) (by omega)
  obtain ⟨x2, hx2⟩ := h.row (k * 4 + 2) (by omega)
  obtain ⟨x3, hx3⟩ := h.row (k * 4 + 3) (by omega)
  refine ⟨h.tp.step (hbel.mono (by omega)), by simpa [World.setCell] using h.size, hG, ?_, ?_, ?_, ?_⟩
  · intro o ho
    obtain ⟨v, hv⟩ := h.row o ho
    obtain ⟨v1, e1⟩ := cell?_setCell_some (p := ⟨G, k * 4, none⟩) (x := d0) hv
    obtain ⟨v2, e2⟩ := cell?_setCell_some (p := ⟨G, k * 4 + 1, none⟩) (x := d1) e1
    obtain ⟨v3, e3⟩ := cell?_setCell_some (p := ⟨G, k * 4 + 2, none⟩) (x := d2) e2
    exact cell?_setCell_some e3
  · intro o
    rw [World.frozen?_setCell, World.frozen?_setCell, World.frozen?_setCell, World.frozen?_setCell]; exact h.rowf o
  · exact h.pi.keep (From.set4 (by omega) _ _ _ _ _ _ _ _)
  · intro i hi hik
    by_cases e : i = k
    · subst e
      refine ⟨d0, d1, d2, d3, ?_, ?_, ?_, ?_, PM.keep n hp (From.set4 (by omega) _ _ _ _ _ _ _ _)⟩
      · rw [World.cell?_setCell_other _ _ _ _ (by simp), World.cell?_setCell_other _ _ _ _ (by simp), World.cell?_setCell_other _ _ _ _ (by simp), World.cell?_setCell_same _ _ _ hx0]
      · rw [World.cell?_setCell_other _ _ _ _ (by simp), World.cell?_setCell_other _ _ _ _ (by simp), World.cell?_setCell_same _ _ _ (show World.cell? _ _ = some x1 from by rw [World.cell?_setCell_other _ _ _ _ (by simp)]; exact hx1)]
      · rw [World.cell?_setCell_other _ _ _ _ (by simp), World.cell?_setCell_same _ _ _ (show World.cell? _ _ = some x2 from by rw [World.cell?_setCell_other _ _ _ _ (by simp), World.cell?_setCell_other _ _ _ _ (by simp)]; exact hx2)]
      · rw [World.cell?_setCell_same _ _ _ (show World.cell? _ _ = some x3 from by rw [World.cell?_setCell_other _ _ _ _ (by simp), World.cell?_setCell_other _ _ _ _ (by simp), World.cell?_setCell_other _ _ _ _ (by simp)]; exact hx3)]
    · obtain ⟨y0, y1, y2, y3, k0, k1, k2, k3, k4⟩ := h.done i hi (by omega)
      refine ⟨y0, y1, y2, y3, ?_, ?_, ?_, ?_, PM.keep n k4 (From.set4 (by omega) _ _ _ _ _ _ _ _)⟩
      · rw [cell_set4_other (by omega) (by omega) (by omega) (by omega)]; exact k0
      · rw [cell_set4_other (by omega) (by omega) (by omega) (by omega)]; exact k1
      · rw [cell_set4_other (by omega) (by omega) (by omega) (by omega)]; exact k2
      · rw [cell_set4_other (by omega) (by omega) (by omega) (by omega)]; exact k3

theorem II.start {n : Nat} {w wA w5 : World} {q : QT (n + 1)} {L : Nat} {z : Array Value} {c0 c1 c2 vv : Value} (htp : TP w c0 c1 c2 wA) (hpi : PInts (fun k => w.heap.size + 2 ≤ k ∧ k < wA.heap.size) wA vv (vals q)) (hL : L = (inn q).length)
    (hown : w5.ownsRow (w.heap.size + 2) 36 4 (.slice (some ⟨wA.heap.size, 0, none⟩) L L) L (madeCells z (L * 4)).toList) (hgrow : wA.grownBy w5 none) : II w q wA.heap.size 0 c0 c1 c2 vv w5 := by
  have hb : Below wA.heap.size wA w5 := (Below.refl _ _).grown hgrow (Nat.le_refl _) (fun k h => by cases h)
  have hlt := (hown.lt wA.heap.size rfl).2
  have := htp.size
  refine ⟨htp.step (hb.mono htp.size), hlt, by omega, ?_, fun o => hown.frozenAt o, hpi.keep (From.of_below hb), fun i _ hk => by omega⟩
  intro o ho
  rw [← hL] at ho
  rw [hown.cellAt o ho]
  exact ⟨_, List.getElem?_eq_getElem (by simp [madeCells]; exact ho)⟩

theorem PM.shape : ∀ (n : Nat) {S : Nat → Prop} {w : World} {q : QT n} {c0 c1 c2 c3 : Value} (_ : PM n S w q c0 c1 c2 c3),
    ∃ (t : Int) (xa : Option Addr) (xn xc : Nat) (ya : Option Addr) (yn yc : Nat), c0 = .int .i64 t ∧ c1 = .slice xa xn xc ∧ c2 = .slice ya yn yc ∧ c3 = .slice none 0 0
  | 0, _, _, _, _, _, _, _, h => absurd h id
  | n + 1, S, w, q, c0, c1, c2, c3, h => by
    obtain ⟨h1, _, ⟨a, cap, h3, _⟩, ⟨a', cap', h4, _⟩, h5⟩ := h
    exact ⟨_, _, _, _, _, _, _, h1, h3, h4, h5⟩

theorem From_res {w wA w6 : World} {x0 x1 x2 x3 : Value} (hb : Below wA.heap.size wA w6) :
    From (fun k => w.heap.size + 2 ≤ k) wA ((((w6.setCell ⟨w.heap.size + 1, 0, none⟩ x0).setCell ⟨w.heap.size + 1, 1, none⟩ x1).setCell ⟨w.heap.size + 1, 2, none⟩ x2).setCell ⟨w.heap.size + 1, 3, none⟩ x3) :=
  From.trans (From.of_below hb) hb.size (From.set4 (by omega) _ _ _ _ _ _ _ _)

theorem below_res {w w6 : World} (hb : Below w.heap.size w w6) (x0 x1 x2 x3 : Value) :
    Below w.heap.size w ((((w6.setCell ⟨w.heap.size + 1, 0, none⟩ x0).setCell ⟨w.heap.size + 1, 1, none⟩ x1).setCell ⟨w.heap.size + 1, 2, none⟩ x2).setCell ⟨w.heap.size + 1, 3, none⟩ x3) :=
  (((hb.setCell (p := ⟨w.heap.size + 1, 0, none⟩) (Nat.le_succ _) x0).setCell (p := ⟨w.heap.size + 1, 1, none⟩) (Nat.le_succ _) x1).setCell (p := ⟨w.heap.size + 1, 2, none⟩) (Nat.le_succ _) x2).setCell (p := ⟨w.heap.size + 1, 3, none⟩) (Nat.le_succ _) x3

set_option maxHeartbeats 1600000 in
theorem toProject_any : ∀ (n : Nat) (q : QT n) (c0 c1 c2 : Value) (w : World), InM n w q c0 c1 c2 → wt n q ≤ 1048576 →
    Calls Try.prog 17 #[.agg #[c0, c1, c2]] w fun e w' => ∃ d0 d1 d2 d3, e = .returned (.agg #[d0, d1, d2, d3]) ∧ PM n (fun k => w.heap.size ≤ k) w' q d0 d1 d2 d3 ∧ Below w.heap.size w w' := by
  intro n
  induction n with
  | zero => intro q c0 c1 c2 w h; exact absurd h id
  | succ n ih =>
    intro q c0 c1 c2 w hq hw
    have IH := hide ih
    clear ih
    obtain ⟨rfl, hwt, ⟨hvw, va, vc, rfl, hv1, hv2, hv3, hv4⟩, ia, ic, rfl, hi1, hi2, hi3, hi4⟩ := hq
    obtain ⟨i3, hi3', hz0, hz1, hz2⟩ := info_parts info3
    have qn := fun (w : World) (a : Option Addr) (n c : Nat) => run_neq_slice_nil_any (P := Try.prog) w 22 3 a n c 0 0 Try.underlying22
    have qm := fun (w : World) (a : Option Addr) (n c : Nat) => run_neq_slice_nil_any (P := Try.prog) w 23 25 a n c 0 0 Try.underlying23
    have HI := hide hi4
    have HV := hide hv4
    obtain ⟨V, Vn⟩ := name_it (vals q).length
    obtain ⟨L, Ln⟩ := name_it (inn q).length
    obtain ⟨t, Tn⟩ := name_it (thr q)
    have HW : Hid (wt (n + 1) q = 8 * V + 64 * L + ((inn q).map (wt n)).sum) := by rw [Vn.out, Ln.out]; rfl
    have hVL : 8 * V + 64 * L ≤ 1048576 := by have := HW.out; omega
    rw [← Vn.out, ← Ln.out, ← Tn.out]
    have HL0 : Hid (ia = none → L = 0) := by intro e; have := hi3 e; rw [Ln.out]; omega
    have HV0 : Hid (va = none → V = 0) := by intro e; have := hv3 e; rw [Vn.out]; omega
    clear hv4 hi4 hvw hv1 hv2 hv3 hi1 hi2 hi3
    cases va with
    | none =>
      have hV0 : (vals q).length = 0 := by rw [← Vn.out]; exact HV0.out rfl
      have htpA := TP.start w (.int .i64 t) (.slice none V vc) (.slice ia L ic) (.int .i64 0) (.slice none 0 0) (.slice none 0 0) (.slice none 0 0)
      go_enter Try.func17, Try.ntmps17
      go_upto_region 5 with fail
      generalize (w.alloc (.cells #[.int .i64 t, .slice none V vc, .slice ia L ic] 25)).alloc (.cells #[.int .i64 0, .slice none 0 0, .slice none 0 0, .slice none 0 0] 36) = wA at *
      have hpi : Hid (PInts (fun k => w.heap.size + 2 ≤ k ∧ k < wA.heap.size) wA (.slice none 0 0) (vals q)) := ⟨none, 0, by rw [hV0], by rw [hV0]; unfold maxLen; omega, fun i hi => by omega⟩
      clear hV0
      have hb2 := htpA.b2
      have hb0 := htpA.b0
      have HVS : Hid (∃ a n c, Value.slice none 0 0 = Value.slice a n c) := ⟨none, 0, 0, rfl⟩
      cases ia with
      | none =>
        have hL0 : (inn q).length = 0 := by rw [← Ln.out]; exact HL0.out rfl
        have HPM : Hid (PM (n + 1) (fun k => w.heap.size + 2 ≤ k) wA q (.int .i64 t) (.slice none 0 0) (.slice none 0 0) (.slice none 0 0)) :=
          ⟨by rw [Tn.out], hwt, hpi.out.mono (fun k hk => hk.1), ⟨none, 0, by rw [hL0], by rw [hL0]; unfold maxLen; omega, fun i hi => by omega⟩, rfl⟩
        clear hL0
        go_wp2_with fail
        refine Calls.mono (zzNew_any t (.slice none 0 0) (.slice none 0 0) wA HVS.out ⟨_, _, _, rfl⟩) ?_
        rintro e w6 ⟨rfl, hb6⟩
        have htp6 := htpA.step (hb6.mono htpA.size)
        obtain ⟨r0, hr0⟩ := htp6.r 0 (by omega)
        obtain ⟨r1, hr1⟩ := htp6.r 1 (by omega)
        obtain ⟨r2, hr2⟩ := htp6.r 2 (by omega)
        obtain ⟨r3, hr3⟩ := htp6.r 3 (by omega)
        have rf0 := htp6.rf 0
        have rf1 := htp6.rf 1
        have rf2 := htp6.rf 2
        have rf3 := htp6.rf 3
        clear hb2 hb0
        go_wp2_with fail
        exact bodyPost_ret (v := .agg #[.int .i64 t, .slice none 0 0, .slice none 0 0, .slice none 0 0]) (by simp [results, Try.results17, go_sem, hr0, hr1, hr2, hr3]) rfl ⟨_, _, _, _, rfl, PM.mono (n + 1) (PM.keep (n + 1) HPM.out (From_res hb6)) (fun k hk => Nat.le_trans (Nat.le_add_right _ 2) hk), below_res htp6.below _ _ _ _⟩
      | some ia =>
        obtain ⟨i36, hi6, hy0, hy1, hy2⟩ := info_parts info36
        go_wp2_with (at_make; refine wpList_make_full _ rfl _ _ 33 rfl (w.heap.size + 2) 36 i36 (.agg #[.int .i64 0, .slice none 0 0, .slice none 0 0, .slice none 0 0]) 4 Try.underlying33 hi6 hy0 hy1 _ _ _ _ L rfl rfl rfl rfl ?c2 ?c3 ?c4 ?_)
        case c2 => first | (rw [hy2]; omega) | omega
        case c3 => unfold maxLen; omega
        case c4 => exact htpA.size
        intro w5 hown5 hgrow5
        obtain ⟨G, HG⟩ := name_it wA.heap.size
        have hii : II w q G 0 (.int .i64 t) (.slice none V vc) (.slice (some ia) L ic) (.slice none 0 0) w5 := by
          rw [HG.out]
          exact II.start htpA hpi.out (by rw [← Ln.out]) hown5 hgrow5
        rw [← HG.out]
        clear hown5 hgrow5 hi6 hy0 hy1 hy2 hb2 hb0 htpA hpi
        have hb25 := hii.tp.b2
        go_wp2_with fail
        clear hb25
        go_loopw [27] (fun iv wr => ∃ k : Nat, k ≤ L ∧ iv = .int .i64 (k : Int) ∧ II w q G k (.int .i64 t) (.slice none V vc) (.slice (some ia) L ic) (.slice none 0 0) wr) (fun iv _ => L - (intOf iv).toNat)
        case atStart => exact ⟨0, Nat.zero_le _, rfl, hii⟩
        case round =>
          clear hii
          obtain ⟨k, hk, rfl, hii⟩ := hrel
          have hb2 := hii.tp.b2
          by_cases hlt : k < L
          · have hlt' : k < (inn q).length := by rw [← Ln.out]; exact hlt
            obtain ⟨b, off, d0, d1, d2, e, k0, k1, k2, k3⟩ := HI.out k hlt'
            injection e with e
            subst e
            have hbl : b < w.heap.size := World.block_lt_of_cell? w _ k0
            have g0 := (hii.tp.below.cell (p := ⟨b, off + k * 3, none⟩) hbl).trans k0
            have g1 := (hii.tp.below.cell (p := ⟨b, off + k * 3 + 1, none⟩) hbl).trans k1
            have g2 := (hii.tp.below.cell (p := ⟨b, off + k * 3 + 2, none⟩) hbl).trans k2
            have HK := hide (InM.below n k3 hii.tp.below)
            have HKw : Hid (wt n (inn q)[k] ≤ 1048576) := by
              have h1 := single_le_sum (wt n) (inn q) _ (List.getElem_mem hlt')
              have h2 := HW.out
              unfold Hid; omega
            clear k0 k1 k2 k3
            go_wp2_with fail
            refine Calls.mono (IH.out _ d0 d1 d2 wr HK.out HKw.out) ?_
            rintro e w6 ⟨e0, e1, e2, e3, rfl, hpm, hb6⟩
            have hii6 := hii.call hb6
            have hpm' := hide (PM.mono n hpm (S' := fun k => G < k) (fun j hj => Nat.lt_of_lt_of_le hii.size hj))
            obtain ⟨t6, xa, xn, xc, ya, yn, yc, rfl, rfl, rfl, rfl⟩ := PM.shape n hpm
            obtain ⟨r0, hr0⟩ := hii6.row (k * 4) (by omega)
            obtain ⟨r1, hr1⟩ := hii6.row (k * 4 + 1) (by omega)
            obtain ⟨r2, hr2⟩ := hii6.row (k * 4 + 2) (by omega)
            obtain ⟨r3, hr3⟩ := hii6.row (k * 4 + 3) (by omega)
            have rf0 := hii6.rowf (k * 4)
            have rf1 := hii6.rowf (k * 4 + 1)
            have rf2 := hii6.rowf (k * 4 + 2)
            have rf3 := hii6.rowf (k * 4 + 3)
            clear hb2 g0 g1 g2 HK HKw hpm hb6 hii
            go_wp2_with fail
            go_roundw
            case rel => exact ⟨k + 1, by omega, by go_num, hii6.put hlt' hpm'.out⟩
            case measure => simp [intOf]; omega
          · have hb0 := hii.tp.b0
            obtain rfl : k = L := by omega
            have HPM : Hid (PM (n + 1) (fun k => w.heap.size + 2 ≤ k) wr q (.int .i64 t) (.slice none 0 0) (.slice (some ⟨G, 0, none⟩) k k) (.slice none 0 0)) := by
              have hG := hii.hG
              refine ⟨by rw [Tn.out], hwt, hii.pi.mono (fun j hj => hj.1), ⟨some ⟨G, 0, none⟩, k, by rw [← Ln.out], by rw [← Ln.out]; unfold maxLen; omega, fun i hi => ?_⟩, rfl⟩
              obtain ⟨y0, y1, y2, y3, k0, k1, k2, k3, k4⟩ := hii.done i hi (by rw [Ln.out]; exact hi)
              exact ⟨G, 0, y0, y1, y2, y3, rfl, by show _ ≤ _; omega, by rw [Nat.zero_add]; exact k0, by rw [Nat.zero_add]; exact k1, by rw [Nat.zero_add]; exact k2, by rw [Nat.zero_add]; exact k3, PM.mono n k4 (fun j hj => by omega)⟩
            clear hlt
            go_wp2_with fail
            refine Calls.mono (zzNew_any t (.slice none 0 0) (.slice (some ⟨G, 0, none⟩) k k) wr HVS.out ⟨_, _, _, rfl⟩) ?_
            rintro e w6 ⟨rfl, hb6⟩
            have htp6 := hii.tp.step (hb6.mono hii.tp.size)
            obtain ⟨r0, hr0⟩ := htp6.r 0 (by omega)
            obtain ⟨r1, hr1⟩ := htp6.r 1 (by omega)
            obtain ⟨r2, hr2⟩ := htp6.r 2 (by omega)
            obtain ⟨r3, hr3⟩ := htp6.r 3 (by omega)
            have rf0 := htp6.rf 0
            have rf1 := htp6.rf 1
            have rf2 := htp6.rf 2
            have rf3 := htp6.rf 3
            clear hb2 hb0
            go_wp2_with fail
            exact bodyPost_ret (v := .agg #[.int .i64 t, .slice none 0 0, .slice (some ⟨G, 0, none⟩) k k, .slice none 0 0]) (by simp [results, Try.results17, go_sem, hr0, hr1, hr2, hr3]) rfl ⟨_, _, _, _, rfl, PM.mono (n + 1) (PM.keep (n + 1) HPM.out (From_res hb6)) (fun k hk => Nat.le_trans (Nat.le_add_right _ 2) hk), below_res htp6.below _ _ _ _⟩
    | some va =>
      go_enter Try.func17, Try.ntmps17
      go_wp2_with (at_make; refine wpList_make_full _ rfl _ _ 22 rfl (w.heap.size + 2) 3 i3 (.int .i64 0) 1 Try.underlying22 hi3' hz0 hz1 _ _ _ _ V rfl rfl rfl rfl ?b2 ?b3 ?b4 ?_)
      case b2 => first | (rw [hz2]; omega) | omega
      case b3 => unfold maxLen; omega
      case b4 => simp
      intro w3 hown3 hgrow3
      have htp3 : TP w (.int .i64 t) (.slice (some va) V vc) (.slice ia L ic) w3 := (TP.start w _ _ _ _ _ _ _).step ((Below.refl _ _).grown hgrow3 (by simp) (fun k h => by cases h))
      have hrow := made_row hown3
      have hb1 := htp3.b1
      have HG : Hid (w.heap.size + 2 = w.heap.size + 1 + 1) := rfl
      obtain ⟨CS, hCS⟩ := name_it ((vals q).map (Value.int .i64))
      have hCl : Hid (CS.length = V) := by rw [hCS.out, List.length_map, ← Vn.out]; rfl
      have k1 : Hid (CS.length = Nat.min V V) := by show _ = _; rw [hCl.out]; simp
      have k2 : Hid (0 < CS.length → (some ⟨w.heap.size + 1 + 1, 0, none⟩ : Option Addr) = some ⟨w.heap.size + 1 + 1, 0, none⟩ ∧ ∃ ad, some va = some ad ∧ ∀ j v, CS[j]? = some v → w3.cell? (ad.add j) = some v) := by
        intro hpos
        refine ⟨rfl, va, rfl, fun j v hj => ?_⟩
        rw [hCS.out, List.getElem?_map] at hj
        obtain ⟨x, hx, rfl⟩ := Option.map_eq_some_iff.1 hj
        obtain ⟨hjl, rfl⟩ := List.getElem?_eq_some_iff.1 hx
        obtain ⟨b, off, e, hc⟩ := HV.out j hjl
        injection e with e
        subst e
        rw [add_plain]
        exact (htp3.below.cell (p := ⟨b, off + j, none⟩) (World.block_lt_of_cell? w _ hc)).trans hc
      have k3 : Hid (0 + CS.length ≤ (List.replicate V (Value.int .i64 0)).length) := by show _ ≤ _; rw [hCl.out]; simp
      have k4 : Hid (∀ v ∈ CS, v.oneCell' = true) := by
        intro v hv
        rw [hCS.out] at hv
        obtain ⟨x, _, rfl⟩ := List.mem_map.1 hv
        rfl
      clear hown3 hgrow3 hz0 hz1 hz2 hi3'
      go_wp2_with (refine wpList_copy_splice rfl _ _ 22 22 rfl 3 Try.underlying22 size3 (some ⟨w.heap.size + 1 + 1, 0, none⟩) (some va) V V V vc rfl rfl (w.heap.size + 1 + 1) 0 (List.replicate V (.int .i64 0)) 3 hrow CS k1.out k2.out k3.out k4.out (w.heap.size + 2) w3 (Below.refl _ _) (Nat.le_refl _) ?_)
      intro w4 hrow4 hb4
      have htp4 := htp3.step hb4
      have hpi : Hid (PInts (fun k => w.heap.size + 2 ≤ k ∧ k < w4.heap.size) w4 (.slice (some ⟨w.heap.size + 1 + 1, 0, none⟩) V V) (vals q)) := by
        refine ⟨some ⟨w.heap.size + 1 + 1, 0, none⟩, V, by rw [← Vn.out], by rw [← Vn.out]; unfold maxLen; omega, fun i hi => ⟨w.heap.size + 1 + 1, 0, rfl, ⟨by omega, (Array.getElem?_eq_some_iff.1 hrow4.out).1⟩, ?_⟩⟩
        rw [Nat.zero_add, cell_of_row w4 _ _ _ _ _ hrow4.out]
        have e : splice (List.replicate V (Value.int .i64 0)) 0 CS = CS := by
          unfold splice
          rw [List.take_zero, List.nil_append, Nat.zero_add, hCl.out, List.drop_of_length_le (by simp), List.append_nil]
        rw [e, hCS.out]
        simp [hi]
      clear hb1 hrow hrow4 hb4 htp3 k1 k2 k3 k4
      obtain ⟨vv, hvv⟩ : ∃ vv, Value.slice (some ⟨w.heap.size + 1 + 1, 0, none⟩) V V = vv := ⟨_, rfl⟩
      rw [hvv] at hpi
      simp only [hvv]
      clear hvv
      have hb2 := htp4.b2
      have hb0 := htp4.b0
      have HVS : Hid (∃ a n c, vv = .slice a n c) := by obtain ⟨a, c, e, _⟩ := hpi.out; exact ⟨_, _, _, e⟩
      cases ia with
      | none =>
        have hL0 : (inn q).length = 0 := by rw [← Ln.out]; exact HL0.out rfl
        have HPM : Hid (PM (n + 1) (fun k => w.heap.size + 2 ≤ k) w4 q (.int .i64 t) vv (.slice none 0 0) (.slice none 0 0)) :=
          ⟨by rw [Tn.out], hwt, hpi.out.mono (fun k hk => hk.1), ⟨none, 0, by rw [hL0], by rw [hL0]; unfold maxLen; omega, fun i hi => by omega⟩, rfl⟩
        clear hL0
        go_wp2_with fail
        refine Calls.mono (zzNew_any t vv (.slice none 0 0) w4 HVS.out ⟨_, _, _, rfl⟩) ?_
        rintro e w6 ⟨rfl, hb6⟩
        have htp6 := htp4.step (hb6.mono htp4.size)
        obtain ⟨r0, hr0⟩ := htp6.r 0 (by omega)
        obtain ⟨r1, hr1⟩ := htp6.r 1 (by omega)
        obtain ⟨r2, hr2⟩ := htp6.r 2 (by omega)
        obtain ⟨r3, hr3⟩ := htp6.r 3 (by omega)
        have rf0 := htp6.rf 0
        have rf1 := htp6.rf 1
        have rf2 := htp6.rf 2
        have rf3 := htp6.rf 3
        obtain ⟨xa, xn, xc, hx⟩ := HVS.out
        rw [hx]
        rw [hx] at HPM
        clear hb2 hb0
        go_wp2_with fail
        exact bodyPost_ret (v := .agg #[.int .i64 t, .slice xa xn xc, .slice none 0 0, .slice none 0 0]) (by simp [results, Try.results17, go_sem, hr0, hr1, hr2, hr3]) rfl ⟨_, _, _, _, rfl, PM.mono (n + 1) (PM.keep (n + 1) HPM.out (From_res hb6)) (fun k hk => Nat.le_trans (Nat.le_add_right _ 2) hk), below_res htp6.below _ _ _ _⟩
      | some ia =>
        obtain ⟨i36, hi6, hy0, hy1, hy2⟩ := info_parts info36
        go_wp2_with (at_make; refine wpList_make_full _ rfl _ _ 33 rfl (w.heap.size + 2) 36 i36 (.agg #[.int .i64 0, .slice none 0 0, .slice none 0 0, .slice none 0 0]) 4 Try.underlying33 hi6 hy0 hy1 _ _ _ _ L rfl rfl rfl rfl ?c2 ?c3 ?c4 ?_)
        case c2 => first | (rw [hy2]; omega) | omega
        case c3 => unfold maxLen; omega
        case c4 => exact htp4.size
        intro w5 hown5 hgrow5
        obtain ⟨G, HG⟩ := name_it w4.heap.size
        have hii : II w q G 0 (.int .i64 t) (.slice (some va) V vc) (.slice (some ia) L ic) vv w5 := by
          rw [HG.out]
          exact II.start htp4 hpi.out (by rw [← Ln.out]) hown5 hgrow5
        rw [← HG.out]
        clear hown5 hgrow5 hi6 hy0 hy1 hy2 hb2 hb0 htp4 hpi
        have hb25 := hii.tp.b2
        go_wp2_with fail
        clear hb25
        go_loopw [27] (fun iv wr => ∃ k : Nat, k ≤ L ∧ iv = .int .i64 (k : Int) ∧ II w q G k (.int .i64 t) (.slice (some va) V vc) (.slice (some ia) L ic) vv wr) (fun iv _ => L - (intOf iv).toNat)
        case atStart => exact ⟨0, Nat.zero_le _, rfl, hii⟩
        case round =>
          clear hii
          obtain ⟨k, hk, rfl, hii⟩ := hrel
          have hb2 := hii.tp.b2
          by_cases hlt : k < L
          · have hlt' : k < (inn q).length := by rw [← Ln.out]; exact hlt
            obtain ⟨b, off, d0, d1, d2, e, k0, k1, k2, k3⟩ := HI.out k hlt'
            injection e with e
            subst e
            have hbl : b < w.heap.size := World.block_lt_of_cell? w _ k0
            have g0 := (hii.tp.below.cell (p := ⟨b, off + k * 3, none⟩) hbl).trans k0
            have g1 := (hii.tp.below.cell (p := ⟨b, off + k * 3 + 1, none⟩) hbl).trans k1
            have g2 := (hii.tp.below.cell (p := ⟨b, off + k * 3 + 2, none⟩) hbl).trans k2
            have HK := hide (InM.below n k3 hii.tp.below)
            have HKw : Hid (wt n (inn q)[k] ≤ 1048576) := by
              have h1 := single_le_sum (wt n) (inn q) _ (List.getElem_mem hlt')
              have h2 := HW.out
              unfold Hid; omega
            clear k0 k1 k2 k3
            go_wp2_with fail
            refine Calls.mono (IH.out _ d0 d1 d2 wr HK.out HKw.out) ?_
            rintro e w6 ⟨e0, e1, e2, e3, rfl, hpm, hb6⟩
            have hii6 := hii.call hb6
            have hpm' := hide (PM.mono n hpm (S' := fun k => G < k) (fun j hj => Nat.lt_of_lt_of_le hii.size hj))
            obtain ⟨t6, xa, xn, xc, ya, yn, yc, rfl, rfl, rfl, rfl⟩ := PM.shape n hpm
            obtain ⟨r0, hr0⟩ := hii6.row (k * 4) (by omega)
            obtain ⟨r1, hr1⟩ := hii6.row (k * 4 + 1) (by omega)
            obtain ⟨r2, hr2⟩ := hii6.row (k * 4 + 2) (by omega)
            obtain ⟨r3, hr3⟩ := hii6.row (k * 4 + 3) (by omega)
            have rf0 := hii6.rowf (k * 4)
            have rf1 := hii6.rowf (k * 4 + 1)
            have rf2 := hii6.rowf (k * 4 + 2)
            have rf3 := hii6.rowf (k * 4 + 3)
            clear hb2 g0 g1 g2 HK HKw hpm hb6 hii
            go_wp2_with fail
            go_roundw
            case rel => exact ⟨k + 1, by omega, by go_num, hii6.put hlt' hpm'.out⟩
            case measure => simp [intOf]; omega
          · have hb0 := hii.tp.b0
            obtain rfl : k = L := by omega
            have HPM : Hid (PM (n + 1) (fun k => w.heap.size + 2 ≤ k) wr q (.int .i64 t) vv (.slice (some ⟨G, 0, none⟩) k k) (.slice none 0 0)) := by
              have hG := hii.hG
              refine ⟨by rw [Tn.out], hwt, hii.pi.mono (fun j hj => hj.1), ⟨some ⟨G, 0, none⟩, k, by rw [← Ln.out], by rw [← Ln.out]; unfold maxLen; omega, fun i hi => ?_⟩, rfl⟩
              obtain ⟨y0, y1, y2, y3, k0, k1, k2, k3, k4⟩ := hii.done i hi (by rw [Ln.out]; exact hi)
              exact ⟨G, 0, y0, y1, y2, y3, rfl, by show _ ≤ _; omega, by rw [Nat.zero_add]; exact k0, by rw [Nat.zero_add]; exact k1, by rw [Nat.zero_add]; exact k2, by rw [Nat.zero_add]; exact k3, PM.mono n k4 (fun j hj => by omega)⟩
            clear hlt
            go_wp2_with fail
            refine Calls.mono (zzNew_any t vv (.slice (some ⟨G, 0, none⟩) k k) wr HVS.out ⟨_, _, _, rfl⟩) ?_
            rintro e w6 ⟨rfl, hb6⟩
            have htp6 := hii.tp.step (hb6.mono hii.tp.size)
            obtain ⟨r0, hr0⟩ := htp6.r 0 (by omega)
            obtain ⟨r1, hr1⟩ := htp6.r 1 (by omega)
            obtain ⟨r2, hr2⟩ := htp6.r 2 (by omega)
            obtain ⟨r3, hr3⟩ := htp6.r 3 (by omega)
            have rf0 := htp6.rf 0
            have rf1 := htp6.rf 1
            have rf2 := htp6.rf 2
            have rf3 := htp6.rf 3
            obtain ⟨xa, xn, xc, hx⟩ := HVS.out
            rw [hx]
            rw [hx] at HPM
            clear hb2 hb0
            go_wp2_with fail
            exact bodyPost_ret (v := .agg #[.int .i64 t, .slice xa xn xc, .slice (some ⟨G, 0, none⟩) k k, .slice none 0 0]) (by simp [results, Try.results17, go_sem, hr0, hr1, hr2, hr3]) rfl ⟨_, _, _, _, rfl, PM.mono (n + 1) (PM.keep (n + 1) HPM.out (From_res hb6)) (fun k hk => Nat.le_trans (Nat.le_add_right _ 2) hk), below_res htp6.below _ _ _ _⟩
end Go.Proofs.Qxb6001451a
