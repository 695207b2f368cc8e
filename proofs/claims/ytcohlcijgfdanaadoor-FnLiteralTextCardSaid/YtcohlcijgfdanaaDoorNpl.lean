/-
  FnLiteralText: units of UTF-16 of any bytes: plain laws.
-/
import Derived.Test.YtcohlcijgfdanaaDoorNar
import Derived.Test.YtcohlcijgfdanaaDoorLif
import Derived.Stop.FmtQuoteTie
namespace Go.Proofs.YtcohlcijgfdanaaDoor.wd
open Go.RowKit
open Go.Proofs.YtcohlcijgfdanaaDoor.lt (mkS mkS_size mkS_list)

/-- The code units of bytes. -/
def unitsOf : List UInt8 → List Nat
  | a :: b :: r => (a.toNat * 256 + b.toNat) :: unitsOf r
  | _ => []

theorem unitsOf_lt : ∀ l : List UInt8, ∀ u ∈ unitsOf l, u < 65536
  | a :: b :: r, u, h => by
    rw [unitsOf, List.mem_cons] at h
    rcases h with rfl | h
    · have := a.toNat_lt; have := b.toNat_lt; omega
    · exact unitsOf_lt r u h
  | [], u, h => by simp [unitsOf] at h
  | [a], u, h => by simp [unitsOf] at h

theorem bytes_unitsOf : ∀ l : List UInt8, l.length % 2 = 0 → bytes (unitsOf l) = l
  | a :: b :: r, h => by
    have hr : r.length % 2 = 0 := by simp only [List.length_cons] at h; omega
    have ha := a.toNat_lt
    have hb := b.toNat_lt
    show be _ ++ bytes (unitsOf r) = _
    rw [bytes_unitsOf r hr]
    have e1 : (a.toNat * 256 + b.toNat) / 256 = a.toNat := by omega
    have e2 : (a.toNat * 256 + b.toNat) % 256 = b.toNat := by omega
    simp [be, e1, e2]
  | [], _ => rfl
  | [a], h => by simp at h

theorem split_units : ∀ (n : Nat) (us : List Nat), us.length ≤ n → (∀ u ∈ us, u < 65536) → ∃ cs bad, us = units cs ++ bad ∧ (∀ c ∈ cs, Scal c) ∧ (bad = [] ∨ Bad bad)
  | _, [], _, _ => ⟨[], [], rfl, by simp, .inl rfl⟩
  | 0, u :: r, h, _ => by simp at h
  | n + 1, u :: r, h, hu => by
    have hu0 : u < 65536 := hu u (by simp)
    simp only [List.length_cons] at h
    by_cases h1 : u < 55296 ∨ 57344 ≤ u
    · obtain ⟨cs, bad, e, hs, hb⟩ := split_units n r (by omega) (fun x hx => hu x (by simp [hx]))
      refine ⟨u :: cs, bad, ?_, ?_, hb⟩
      · show _ = (unit u ++ units cs) ++ bad
        rw [unit_lo u hu0, e]
        simp
      · intro c hc
        rcases List.mem_cons.1 hc with rfl | hc
        · unfold Scal; omega
        · exact hs c hc
    · by_cases h2 : 56320 ≤ u
      · exact ⟨[], u :: r, rfl, by simp, .inr (.inl (by omega))⟩
      · match r, h, hu with
        | [], _, _ => exact ⟨[], [u], rfl, by simp, .inr (.inr ⟨by omega, by omega, trivial⟩)⟩
        | v :: t, h, hu =>
          have hv0 : v < 65536 := hu v (by simp)
          simp only [List.length_cons] at h
          by_cases h3 : v < 56320 ∨ 57343 < v
          · exact ⟨[], u :: v :: t, rfl, by simp, .inr (.inr ⟨by omega, by omega, h3⟩)⟩
          · obtain ⟨cs, bad, e, hs, hb⟩ := split_units n t (by omega) (fun x hx => hu x (by simp [hx]))
            obtain ⟨c0, hc0⟩ : ∃ c0, c0 = 65536 + (u - 55296) * 1024 + (v - 56320) := ⟨_, rfl⟩
            refine ⟨c0 :: cs, bad, ?_, ?_, hb⟩
            · show _ = (unit c0 ++ units cs) ++ bad
              have e1 : 55296 + (c0 - 65536) / 1024 = u := by omega
              have e2 : 56320 + (c0 - 65536) % 1024 = v := by omega
              rw [unit_hi c0 (by omega), e, e1, e2]
              rfl
            · intro c hc
              rcases List.mem_cons.1 hc with h4 | hc
              · unfold Scal; omega
              · exact hs c hc

theorem mem_units (k : Nat) (hk : k < 65536) (cs : List Nat) (h : k ∈ cs) : k ∈ units cs :=
  List.mem_flatMap.2 ⟨k, h, by rw [unit_lo _ hk]; exact List.mem_singleton.2 rfl⟩

theorem encode_mkS (c : Nat) : Utf8.encode (c : Int) = mkS (Lib.encodeRune (c : Int)) := by
  apply ByteArray.ext
  apply Array.toList_inj.1
  rw [mkS_list]
  unfold Lib.encodeRune
  rw [← Go.Extern.FmtText.encode_eq]
  unfold Go.Extern.FmtText.nums
  rw [List.map_map]
  have : ((fun x : Int => x.toNat.toUInt8) ∘ fun (x : UInt8) => (x.toNat : Int)) = id := by
    funext x
    simp
  rw [this, List.map_id]

theorem i64_or (x y : Int) (h0 : 0 ≤ x) (h1 : x ≤ 255) (h2 : 0 ≤ y) (h3 : y ≤ 255) : bits .or .i64 (x * 256) y = x * 256 + y :=
  bits_join .i64 63 (by decide) (fun n a b => by rw [IntKind.wrap_i64]; omega) 8 (x * 256) y (by omega) (by omega) (by omega) (by omega) (by omega) (by omega)

theorem mkS_app (a b : List UInt8) : mkS a ++ mkS b = mkS (a ++ b) := by
  apply ByteArray.ext
  apply Array.toList_inj.1
  simp [mkS]
end Go.Proofs.YtcohlcijgfdanaaDoor.wd
