/-
  The products of FullMatrix are exact: plain laws on halves and quarters.
-/
import Derived.Test.YtmaphdfhoddnmaaDoorCalc
import Derived.Test.YtmaphdfhoddnmaaDoorFlPlane
namespace Go.Proofs.YtmaphdfhoddnmaaDoor
open Go.RowKit Fl

/-- The word b is the half n / 2, of at most 2^20. -/
def Hf (b : Nat) (n : Int) : Prop := IsV b ((n : Rat) / 2) ∧ n.natAbs ≤ 2097152

theorem hf_of_qu {b : Nat} {n m : Int} (h : Qu b m) (e : m = 2 * n) (hb : n.natAbs ≤ 2097152) : Hf b n := by
  refine ⟨?_, hb⟩
  unfold Qu at h
  have : (n : Rat) / 2 = (m : Rat) / 4 := by rw [e, Rat.intCast_mul]; simp; grind
  rw [this]; exact h

theorem hf_zero : Hf 0 0 := ⟨by rw [show (((0 : Int) : Rat) / 2) = 0 by decide +kernel]; exact v_zero, by decide⟩
theorem hf_one : Hf 4607182418800017408 2 := ⟨by rw [show (((2 : Int) : Rat) / 2) = 1 by decide +kernel]; exact v_one, by decide⟩

theorem qu_zero : Qu 0 0 := by unfold Qu; rw [show (((0 : Int) : Rat) / 4) = 0 by decide +kernel]; exact v_zero

/-- One entry of a product: three terms. -/
theorem entry {x1 y1 x2 y2 x3 y3 : Nat} {a1 b1 a2 b2 a3 b3 : Int} (h1 : Hf x1 a1) (k1 : Hf y1 b1) (h2 : Hf x2 a2) (k2 : Hf y2 b2) (h3 : Hf x3 a3) (k3 : Hf y3 b3) :
    ∃ q1 q2 q3 t1 t2 t3, floatBits .mul .f64 x1 y1 = some q1 ∧ floatBits .mul .f64 x2 y2 = some q2 ∧ floatBits .mul .f64 x3 y3 = some q3 ∧
      floatBits .add .f64 0 q1 = some t1 ∧ floatBits .add .f64 t1 q2 = some t2 ∧ floatBits .add .f64 t2 q3 = some t3 ∧ Qu t3 (a1 * b1 + a2 * b2 + a3 * b3) := by
  obtain ⟨q1, e1, v1, w1⟩ := mul_half h1.1 k1.1 h1.2 k1.2
  obtain ⟨q2, e2, v2, w2⟩ := mul_half h2.1 k2.1 h2.2 k2.2
  obtain ⟨q3, e3, v3, w3⟩ := mul_half h3.1 k3.1 h3.2 k3.2
  obtain ⟨t1, f1, u1⟩ := add_qu qu_zero v1 (by omega)
  obtain ⟨t2, f2, u2⟩ := add_qu u1 v2 (by omega)
  obtain ⟨t3, f3, u3⟩ := add_qu u2 v3 (by omega)
  refine ⟨q1, q2, q3, t1, t2, t3, e1, e2, e3, f1, f2, f3, ?_⟩
  rw [Int.zero_add] at u3; exact u3

/-- The product of two matrices of halves. -/
theorem prod_any (m n : Nat → Nat) (a b : Nat → Int) (ha : ∀ e, e < 9 → Hf (m e) (a e)) (hb : ∀ e, e < 9 → Hf (n e) (b e)) :
    ∃ part, Prod m n part ∧ ∀ i j, i < 3 → j < 3 → Qu (part (i * 3 + j) 3) (a (i * 3) * b j + a (i * 3 + 1) * b (3 + j) + a (i * 3 + 2) * b (6 + j)) := by
  have H : ∀ e, ∃ t : Nat → Nat, t 0 = 0 ∧ (∀ i j, e = i * 3 + j → i < 3 → j < 3 →
      (∀ k, k < 3 → ∃ q, floatBits .mul .f64 (m (i * 3 + k)) (n (k * 3 + j)) = some q ∧ floatBits .add .f64 (t k) q = some (t (k + 1))) ∧
      Qu (t 3) (a (i * 3) * b j + a (i * 3 + 1) * b (3 + j) + a (i * 3 + 2) * b (6 + j))) := by
    intro e
    by_cases h : e < 9
    · have hi : e / 3 < 3 := by omega
      have hj : e % 3 < 3 := by omega
      obtain ⟨q1, q2, q3, t1, t2, t3, e1, e2, e3, f1, f2, f3, v⟩ := entry (ha (e / 3 * 3 + 0) (by omega)) (hb (0 * 3 + e % 3) (by omega)) (ha (e / 3 * 3 + 1) (by omega)) (hb (1 * 3 + e % 3) (by omega)) (ha (e / 3 * 3 + 2) (by omega)) (hb (2 * 3 + e % 3) (by omega))
      refine ⟨fun k => match k with | 0 => 0 | 1 => t1 | 2 => t2 | _ => t3, rfl, ?_⟩
      intro i j he hi' hj'
      obtain rfl : i = e / 3 := by omega
      obtain rfl : j = e % 3 := by omega
      refine ⟨fun k hk => ?_, ?_⟩
      · match k, hk with
        | 0, _ => exact ⟨q1, e1, f1⟩
        | 1, _ => exact ⟨q2, e2, f2⟩
        | 2, _ => exact ⟨q3, e3, f3⟩
      · simpa using v
    · exact ⟨fun _ => 0, rfl, fun i j he hi hj => by omega⟩
  obtain ⟨f, hf⟩ := Classical.axiomOfChoice H
  exact ⟨f, ⟨fun e => (hf e).1, fun i j k hi hj hk => ((hf (i * 3 + j)).2 i j rfl hi hj).1 k hk⟩, fun i j hi hj => ((hf (i * 3 + j)).2 i j rfl hi hj).2⟩

/-- The coordinates by a matrix of halves. -/
theorem lin_hf {a c e x y : Nat} {na nc ne nx ny : Int} (ha : Hf a na) (hc : Hf c nc) (he : Hf e ne) (hx : Hf x nx) (hy : Hf y ny) : ∃ r, Lin a c e x y r ∧ Qu r (nx * na + ny * nc + 2 * ne) := by
  obtain ⟨p, k1, k2, k3⟩ := mul_half hx.1 ha.1 hx.2 ha.2
  obtain ⟨q, l1, l2, l3⟩ := mul_half hy.1 hc.1 hy.2 hc.2
  have he2 := he.2
  obtain ⟨s, m1, m2⟩ := add_qu k2 l2 (by omega)
  obtain ⟨r, n1, n2⟩ := add_qu m2 (qu_of_half he.1) (by omega)
  exact ⟨r, ⟨p, q, s, k1, l1, m1, n1⟩, n2⟩

theorem small_mul {a c : Int} (ha : a.natAbs ≤ 2097152) (hc : c.natAbs ≤ 1) : (a * c).natAbs ≤ 2097152 := by
  rw [Int.natAbs_mul]; exact Nat.le_trans (Nat.mul_le_mul ha hc) (by decide)

def ofZ (l : List Int) (e : Nat) : Int := l.getD e 0

theorem full_any {sx sy sn cs dx dy x y : Nat} {a b s c d e n m : Int} (h1 : Hf sx a) (h2 : Hf sy b) (h3 : Hf sn (2 * s)) (h4 : Hf cs (2 * c)) (h5 : Hf dx d) (h6 : Hf dy e) (hx : Hf x n) (hy : Hf y m) (hs : s.natAbs ≤ 1) (hc : c.natAbs ≤ 1) :
    ∃ (p : Nat → Nat) (r t : Nat), (∀ w, Ident w → Calls Tryd.prog 6 #[.float .f64 sx, .float .f64 sy, .float .f64 sn, .float .f64 cs, .float .f64 dx, .float .f64 dy] w fun e w' => e = .returned (mval p) ∧ Below w.heap.size w w') ∧
      Lin (p 0) (p 3) (p 6) x y r ∧ Lin (p 1) (p 4) (p 7) x y t ∧ Qu r (n * (a * c) + m * (-(b * s)) + 2 * d) ∧ Qu t (n * (a * s) + m * (b * c) + 2 * e) := by
  have hneg : Hf (Op.negFloat .f64 sn) (-(2 * s)) := by
    refine ⟨?_, by have := h3.2; omega⟩
    have := neg_val h3.1
    rw [show (((-(2 * s) : Int) : Rat) / 2) = -(((2 * s : Int) : Rat) / 2) by rw [Rat.intCast_neg]; grind]; exact this
  obtain ⟨p1, hp1, hv1⟩ := prod_any (ofL [sx, 0, 0, 0, sy, 0, 0, 0, one]) (ofL [cs, sn, 0, Op.negFloat .f64 sn, cs, 0, 0, 0, one]) (ofZ [a, 0, 0, 0, b, 0, 0, 0, 2]) (ofZ [2 * c, 2 * s, 0, -(2 * s), 2 * c, 0, 0, 0, 2])
    (fun e he => match e, he with | 0, _ => h1 | 1, _ => hf_zero | 2, _ => hf_zero | 3, _ => hf_zero | 4, _ => h2 | 5, _ => hf_zero | 6, _ => hf_zero | 7, _ => hf_zero | 8, _ => hf_one)
    (fun e he => match e, he with | 0, _ => h4 | 1, _ => h3 | 2, _ => hf_zero | 3, _ => hneg | 4, _ => h4 | 5, _ => hf_zero | 6, _ => hf_zero | 7, _ => hf_zero | 8, _ => hf_one)
  have g0 : Hf (p1 0 3) (a * c) := hf_of_qu (hv1 0 0 (by omega) (by omega)) (by simp [ofZ]; grind) (small_mul h1.2 hc)
  have g1 : Hf (p1 1 3) (a * s) := hf_of_qu (hv1 0 1 (by omega) (by omega)) (by simp [ofZ]; grind) (small_mul h1.2 hs)
  have g2 : Hf (p1 2 3) 0 := hf_of_qu (hv1 0 2 (by omega) (by omega)) (by simp [ofZ]) (by decide)
  have g3 : Hf (p1 3 3) (-(b * s)) := hf_of_qu (hv1 1 0 (by omega) (by omega)) (by simp [ofZ]; grind) (by rw [Int.natAbs_neg]; exact small_mul h2.2 hs)
  have g4 : Hf (p1 4 3) (b * c) := hf_of_qu (hv1 1 1 (by omega) (by omega)) (by simp [ofZ]; grind) (small_mul h2.2 hc)
  have g5 : Hf (p1 5 3) 0 := hf_of_qu (hv1 1 2 (by omega) (by omega)) (by simp [ofZ]) (by decide)
  have g6 : Hf (p1 6 3) 0 := hf_of_qu (hv1 2 0 (by omega) (by omega)) (by simp [ofZ]) (by decide)
  have g7 : Hf (p1 7 3) 0 := hf_of_qu (hv1 2 1 (by omega) (by omega)) (by simp [ofZ]) (by decide)
  have g8 : Hf (p1 8 3) 2 := hf_of_qu (hv1 2 2 (by omega) (by omega)) (by simp [ofZ]) (by decide)
  obtain ⟨p2, hp2, hv2⟩ := prod_any (fun e => p1 e 3) (ofL [one, 0, 0, 0, one, 0, dx, dy, one]) (ofZ [a * c, a * s, 0, -(b * s), b * c, 0, 0, 0, 2]) (ofZ [2, 0, 0, 0, 2, 0, d, e, 2])
    (fun e he => match e, he with | 0, _ => g0 | 1, _ => g1 | 2, _ => g2 | 3, _ => g3 | 4, _ => g4 | 5, _ => g5 | 6, _ => g6 | 7, _ => g7 | 8, _ => g8)
    (fun e he => match e, he with | 0, _ => hf_one | 1, _ => hf_zero | 2, _ => hf_zero | 3, _ => hf_zero | 4, _ => hf_one | 5, _ => hf_zero | 6, _ => h5 | 7, _ => h6 | 8, _ => hf_one)
  have k0 : Hf (p2 0 3) (a * c) := hf_of_qu (hv2 0 0 (by omega) (by omega)) (by simp [ofZ]; grind) g0.2
  have k1 : Hf (p2 1 3) (a * s) := hf_of_qu (hv2 0 1 (by omega) (by omega)) (by simp [ofZ]; grind) g1.2
  have k3 : Hf (p2 3 3) (-(b * s)) := hf_of_qu (hv2 1 0 (by omega) (by omega)) (by simp [ofZ]; grind) g3.2
  have k4 : Hf (p2 4 3) (b * c) := hf_of_qu (hv2 1 1 (by omega) (by omega)) (by simp [ofZ]; grind) g4.2
  have k6 : Hf (p2 6 3) d := hf_of_qu (hv2 2 0 (by omega) (by omega)) (by simp [ofZ]) h5.2
  have k7 : Hf (p2 7 3) e := hf_of_qu (hv2 2 1 (by omega) (by omega)) (by simp [ofZ]) h6.2
  obtain ⟨r, hr, hr2⟩ := lin_hf k0 k3 k6 hx hy
  obtain ⟨t, ht, ht2⟩ := lin_hf k1 k4 k7 hx hy
  exact ⟨fun e => p2 e 3, r, t, fun w hI => fullMatrix sx sy sn cs dx dy p1 p2 hp1 hp2 w hI, hr, ht, hr2, ht2⟩

/-- What the law reckons beside it: c sx x - s sy y + d. -/
theorem side_sub {sx sy sn cs dx x y : Nat} {a b s c d n m : Int} (h1 : Hf sx a) (h2 : Hf sy b) (h3 : Hf sn (2 * s)) (h4 : Hf cs (2 * c)) (h5 : Hf dx d) (hx : Hf x n) (hy : Hf y m) (hs : s.natAbs ≤ 1) (hc : c.natAbs ≤ 1) :
    ∃ k1 k2 k3 k4 k5 k6, floatBits .mul .f64 cs sx = some k1 ∧ floatBits .mul .f64 k1 x = some k2 ∧ floatBits .mul .f64 sn sy = some k3 ∧ floatBits .mul .f64 k3 y = some k4 ∧
      floatBits .sub .f64 k2 k4 = some k5 ∧ floatBits .add .f64 k5 dx = some k6 ∧ Qu k6 (n * (a * c) + m * (-(b * s)) + 2 * d) := by
  obtain ⟨k1, e1, v1, _⟩ := mul_half h4.1 h1.1 h4.2 h1.2
  have g1 : Hf k1 (a * c) := hf_of_qu v1 (by grind) (small_mul h1.2 hc)
  obtain ⟨k2, e2, v2, b2⟩ := mul_half g1.1 hx.1 g1.2 hx.2
  obtain ⟨k3, e3, v3, _⟩ := mul_half h3.1 h2.1 h3.2 h2.2
  have g3 : Hf k3 (b * s) := hf_of_qu v3 (by grind) (small_mul h2.2 hs)
  obtain ⟨k4, e4, v4, b4⟩ := mul_half g3.1 hy.1 g3.2 hy.2
  have h5b := h5.2
  obtain ⟨k5, e5, v5⟩ := sub_qu v2 v4 (by omega)
  obtain ⟨k6, e6, v6⟩ := add_qu v5 (qu_of_half h5.1) (by omega)
  refine ⟨k1, k2, k3, k4, k5, k6, e1, e2, e3, e4, e5, e6, ?_⟩
  rw [show n * (a * c) + m * (-(b * s)) + 2 * d = a * c * n - b * s * m + 2 * d by grind]; exact v6

theorem side_add {sx sy sn cs dy x y : Nat} {a b s c e n m : Int} (h1 : Hf sx a) (h2 : Hf sy b) (h3 : Hf sn (2 * s)) (h4 : Hf cs (2 * c)) (h6 : Hf dy e) (hx : Hf x n) (hy : Hf y m) (hs : s.natAbs ≤ 1) (hc : c.natAbs ≤ 1) :
    ∃ k1 k2 k3 k4 k5 k6, floatBits .mul .f64 sn sx = some k1 ∧ floatBits .mul .f64 k1 x = some k2 ∧ floatBits .mul .f64 cs sy = some k3 ∧ floatBits .mul .f64 k3 y = some k4 ∧
      floatBits .add .f64 k2 k4 = some k5 ∧ floatBits .add .f64 k5 dy = some k6 ∧ Qu k6 (n * (a * s) + m * (b * c) + 2 * e) := by
  obtain ⟨k1, e1, v1, _⟩ := mul_half h3.1 h1.1 h3.2 h1.2
  have g1 : Hf k1 (a * s) := hf_of_qu v1 (by grind) (small_mul h1.2 hs)
  obtain ⟨k2, e2, v2, b2⟩ := mul_half g1.1 hx.1 g1.2 hx.2
  obtain ⟨k3, e3, v3, _⟩ := mul_half h4.1 h2.1 h4.2 h2.2
  have g3 : Hf k3 (b * c) := hf_of_qu v3 (by grind) (small_mul h2.2 hc)
  obtain ⟨k4, e4, v4, b4⟩ := mul_half g3.1 hy.1 g3.2 hy.2
  have h6b := h6.2
  obtain ⟨k5, e5, v5⟩ := add_qu v2 v4 (by omega)
  obtain ⟨k6, e6, v6⟩ := add_qu v5 (qu_of_half h6.1) (by omega)
  refine ⟨k1, k2, k3, k4, k5, k6, e1, e2, e3, e4, e5, e6, ?_⟩
  rw [show n * (a * s) + m * (b * c) + 2 * e = a * s * n + b * c * m + 2 * e by grind]; exact v6
end Go.Proofs.YtmaphdfhoddnmaaDoor
