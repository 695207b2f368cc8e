/-
  The reader's own reading of a field: bytes as one number.
-/
import Derived.Test.YtmkacgffdoifbaaDoorFld
namespace Go.Proofs.YtmkacgffdoifbaaDoor.se
open Go.RowKit Go.MapKept Go.ChangeMaps
set_option linter.unusedVariables false
set_option linter.unusedSimpArgs false

theorem fold_lt : ∀ (l : List Nat) (a : Nat), (∀ b ∈ l, b < 256) → l.foldl (fun a b => a * 256 + b) a < (a + 1) * 256 ^ l.length
  | [], a, _ => by simp
  | b :: l, a, h => by
    have h1 := fold_lt l (a * 256 + b) (fun x hx => h x (by simp [hx]))
    have h2 := h b (by simp)
    simp only [List.foldl_cons, List.length_cons]
    refine Nat.lt_of_lt_of_le h1 ?_
    rw [Nat.pow_succ, Nat.mul_comm (256 ^ l.length) 256, ← Nat.mul_assoc]
    exact Nat.mul_le_mul_right _ (by omega)
theorem be_lt {l : List Nat} (h : ∀ b ∈ l, b < 256) : be l < 256 ^ l.length := by
  have := fold_lt l 0 h
  simpa [be] using this
theorem be_take {l : List Nat} {k : Nat} (h : k < l.length) : be (l.take (k + 1)) = be (l.take k) * 256 + l.getD k 0 := by
  rw [List.take_succ_eq_append_getElem h, be_snoc]
  simp [List.getD_eq_getElem?_getD, h]
theorem ofInt_64 (x : Nat) (h : x < 18446744073709551616) : (BitVec.ofInt 64 (x : Int)).toNat = x := by
  rw [BitVec.toNat_ofInt]
  omega
theorem wrap_small (n : Nat) (h : n < 9223372036854775808) : IntKind.i64.wrap (n : Int) = (n : Int) := IntWalk.i64_in _ (by omega)
theorem or_step (x y : Nat) (hx : x < 1099511627776) (hy : y < 256) : bits BinOp.or IntKind.i64 (wrap64 ((x : Int) * 256)) (wrap64 (y : Int)) = ((x * 256 + y : Nat) : Int) := by
  have e1 : wrap64 ((x : Int) * 256) = ((x * 256 : Nat) : Int) := by unfold wrap64; omega
  have e2 : wrap64 (y : Int) = (y : Int) := by unfold wrap64; omega
  rw [e1, e2]
  show IntKind.i64.wrap ((BitVec.ofInt 64 ((x * 256 : Nat) : Int) ||| BitVec.ofInt 64 (y : Int)).toNat : Int) = _
  rw [BitVec.toNat_or, ofInt_64 _ (by omega), ofInt_64 y (by omega), show x * 256 = x <<< 8 by rw [Nat.shiftLeft_eq], ← Nat.shiftLeft_add_eq_or_of_lt (by omega)]
  exact wrap_small _ (by rw [Nat.shiftLeft_eq]; omega)

set_option maxHeartbeats 1000000 in
set_option maxRecDepth 100000 in
theorem buf22 (a : Option Addr) (C : Nat) (l : List Nat) (w : World) (hl : l.length ≤ 6) (hb : ∀ b ∈ l, b < 256) (hc : 0 < l.length → ∃ g o, a = some ⟨g, o, none⟩ ∧ ∀ i, i < l.length → w.cell? ⟨g, o + i, none⟩ = some (.int .u8 ((l.getD i 0 : Nat) : Int))) :
    Calls Tryd.prog 22 #[.slice a l.length C] w fun e w' => e = .returned (.int .i64 (be l : Int)) ∧ w' = w := by
  have HC := Lib.hid hc
  have HB := Lib.hid hb
  clear hc hb
  obtain ⟨n, hn⟩ : ∃ n, l.length = n := ⟨_, rfl⟩
  have HN := Lib.hid hn
  rw [hn] at hl ⊢
  clear hn
  go_enter Tryd.func22, Tryd.ntmps22
  go_wp2_with fail
  go_loopw [2, 7] (fun s i wr => ∃ k : Nat, i = .int .i64 (k : Int) ∧ s = .int .i64 (be (l.take k) : Int) ∧ k ≤ n ∧ wr = w) (fun _ i _ => n - (intOf i).toNat)
  case atStart => exact ⟨0, rfl, rfl, by omega, rfl⟩
  case round =>
    obtain ⟨k, rfl, rfl, hk, rfl⟩ := hrel
    by_cases hlt : k < n
    · obtain ⟨g, o, rfl, hc⟩ := HC.out (by have := HN.out; omega)
      have c0 := hc k (by have := HN.out; omega)
      obtain ⟨x, hx⟩ : ∃ x, be (l.take k) = x := ⟨_, rfl⟩
      obtain ⟨y, hy⟩ : ∃ y, l.getD k 0 = y := ⟨_, rfl⟩
      rw [hx]
      rw [hy] at c0
      have HXY := Lib.hid (And.intro hx hy)
      clear hc hx hy
      have hx2 : x < 1099511627776 := by
        have h1 := be_lt (l := l.take k) (fun b hb => HB.out b (List.mem_of_mem_take hb))
        rw [HXY.out.1] at h1
        have h2 : (l.take k).length ≤ 5 := by rw [List.length_take]; omega
        have h3 : 256 ^ (l.take k).length ≤ 256 ^ 5 := Nat.pow_le_pow_right (by omega) h2
        have h4 : (256 : Nat) ^ 5 = 1099511627776 := by decide
        omega
      have hy2 : y < 256 := by
        have hkl : k < l.length := by have := HN.out; omega
        rw [← HXY.out.2, List.getD_eq_getElem?_getD, List.getElem?_eq_getElem hkl]
        exact HB.out _ (List.getElem_mem hkl)
      have hor := or_step x y hx2 hy2
      have HO := Lib.hid (be_take (l := l) (k := k) (by have := HN.out; omega))
      clear hx2 hy2
      go_wp2_with fail
      go_roundw
      case rel => exact ⟨k + 1, by go_num, by rw [HO.out, HXY.out.1, HXY.out.2]; push_cast; rfl, by omega, trivial⟩
      case measure => simp [intOf]; omega
    · obtain rfl : k = n := by omega
      go_wp2_with fail
      go_ret
      refine ⟨?_, rfl⟩
      have e := HN.out
      rw [← e, List.take_length]
      rfl
end Go.Proofs.YtmkacgffdoifbaaDoor.se
