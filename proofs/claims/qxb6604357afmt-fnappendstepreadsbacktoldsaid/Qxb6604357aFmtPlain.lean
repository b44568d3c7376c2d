/-
  Plain facts for seat b6604357aF: big-endian numbers, varints, bits. No Go function in sight.
-/
import Derived.WalkKit
import Derived.Lib.Varint
import Derived.Lib.VarintMem
import Derived.Laws.Bits64b
namespace Go.Proofs.Qxb6604357aFmt
open Go.RowKit

/-- A number off its bytes, the greatest first. -/
def be (l : List UInt8) : Nat := l.foldl (fun v c => v * 256 + c.toNat) 0
/-- The number at byte i of s: eight bytes. -/
def num (s : ByteArray) (i : Nat) : Nat := be ((s.data.toList.drop i).take 8)

theorem be_snoc (l : List UInt8) (c : UInt8) : be (l ++ [c]) = be l * 256 + c.toNat := by
  unfold be; rw [List.foldl_append]; rfl

theorem be_lt_aux : ∀ (l : List UInt8) (v n : Nat), v < 256 ^ n → l.foldl (fun v c => v * 256 + c.toNat) v < 256 ^ (n + l.length)
  | [], v, n, h => by simpa using h
  | c :: r, v, n, h => by
    have hc := c.toNat_lt
    have h2 : v * 256 + c.toNat < 256 ^ (n + 1) := by rw [Nat.pow_succ]; omega
    have := be_lt_aux r _ (n + 1) h2
    simpa [Nat.add_assoc, Nat.add_comm 1] using this

theorem be_lt (l : List UInt8) : be l < 256 ^ l.length := by
  have h := be_lt_aux l 0 0 (by simp)
  rw [Nat.zero_add] at h
  exact h

theorem be_lt_le {l : List UInt8} {n : Nat} (h : l.length ≤ n) : be l < 256 ^ n :=
  Nat.lt_of_lt_of_le (be_lt l) (Nat.pow_le_pow_right (by decide) h)

theorem num_lt (s : ByteArray) (i : Nat) : num s i < 18446744073709551616 :=
  be_lt_le (n := 8) (List.length_take_le _ _)

theorem drop_take_snoc (s : ByteArray) (i k : Nat) (h : i + k < s.size) :
    (s.data.toList.drop i).take (k + 1) = (s.data.toList.drop i).take k ++ [s[i + k]] := by
  have hl : k < (s.data.toList.drop i).length := by
    rw [List.length_drop, Array.length_toList]
    have : s.data.size = s.size := rfl
    omega
  rw [List.take_succ_eq_append_getElem hl]
  congr 2
  rw [List.getElem_drop]
  rfl

theorem or_join (v c : Nat) (h : c < 256) : v * 256 ||| c = v * 256 + c := by
  have := Nat.two_pow_add_eq_or_of_lt (i := 8) (b := c) h v
  rw [Nat.mul_comm, show (2 : Nat) ^ 8 = 256 from by decide] at this
  omega

theorem or_step (v : Nat) (c : UInt8) (hv : v < 256 ^ 7) :
    bits .or .u64 (IntKind.u64.wrap ((v : Int) * 256)) (IntKind.u64.wrap (c.toNat : Int)) = ((v * 256 + c.toNat : Nat) : Int) := by
  have hc := c.toNat_lt
  have hv' : v * 256 < 18446744073709551616 := by
    have : (256 : Nat) ^ 7 = 72057594037927936 := by decide
    omega
  have e1 : IntKind.u64.wrap ((v : Int) * 256) = ((v * 256 : Nat) : Int) := by
    rw [IntKind.wrap_u64]; omega
  have e2 : IntKind.u64.wrap (c.toNat : Int) = (c.toNat : Int) := by
    rw [IntKind.wrap_u64]; omega
  rw [e1, e2, bits_or_u64_nat _ _ hv' (by omega), or_join _ _ (by omega)]

/-- The varint of x, k bytes read: a: what they gave; y: what is left. -/
structure UV (x k a y : Nat) : Prop where
  lt : a < 128 ^ k
  eq : x = a + y * 128 ^ k
  rest : (Lib.uvarint x).drop k = Lib.uvarint y
  pos : k = 0 ∨ 1 ≤ y

theorem UV.start (x : Nat) : UV x 0 0 x := ⟨by simp, by simp, rfl, Or.inl rfl⟩

theorem UV.len {x k a y : Nat} (h : UV x k a y) : k + (Lib.uvarint y).length = (Lib.uvarint x).length := by
  have h1 : (Lib.uvarint y).length = (Lib.uvarint x).length - k := by rw [← h.rest, List.length_drop]
  have := Lib.uvarint_pos y
  omega

theorem UV.byte {x k a y : Nat} (h : UV x k a y) : (Lib.uvarint x)[k]? = (Lib.uvarint y)[0]? := by
  rw [← h.rest]; simp

theorem UV.small {x k a y : Nat} (h : UV x k a y) (hy : y < 128) : (Lib.uvarint x)[k]? = some y.toUInt8 := by
  rw [h.byte, Lib.uvarint_small hy]; rfl

theorem UV.big {x k a y : Nat} (h : UV x k a y) (hy : 128 ≤ y) : (Lib.uvarint x)[k]? = some (y % 128 + 128).toUInt8 := by
  rw [h.byte, Lib.uvarint_big hy]; rfl

theorem UV.next {x k a y : Nat} (h : UV x k a y) (hy : 128 ≤ y) : UV x (k + 1) (a + y % 128 * 128 ^ k) (y / 128) := by
  have h1 := h.lt
  have h2 := h.eq
  refine ⟨?_, ?_, ?_, Or.inr (by omega)⟩
  · have : y % 128 * 128 ^ k ≤ 127 * 128 ^ k := Nat.mul_le_mul_right _ (by omega)
    rw [Nat.pow_succ]
    omega
  · rw [Nat.pow_succ, h2]
    have e : y * 128 ^ k = (128 * (y / 128) + y % 128) * 128 ^ k := by rw [Nat.div_add_mod]
    rw [e, Nat.add_mul, Nat.mul_comm (128 ^ k) 128, ← Nat.mul_assoc (y / 128), Nat.mul_comm (y / 128) 128]
    omega
  · rw [← List.drop_drop, h.rest, Lib.uvarint_big hy]; rfl

theorem UV.k9 {x k a y : Nat} (h : UV x k a y) (hx : x < 18446744073709551616) : y * 128 ^ k < 18446744073709551616 := by
  have := h.eq; omega

theorem pow_nine : (128 : Nat) ^ 9 = 9223372036854775808 := by decide

theorem UV.le9 {x k a y : Nat} (h : UV x k a y) (hx : x < 18446744073709551616) (hk : k = 9) : y ≤ 1 := by
  have := h.k9 hx
  subst hk
  rw [pow_nine] at this
  omega

theorem UV.lt9 {x k a y : Nat} (h : UV x k a y) (hx : x < 18446744073709551616) (hy : 128 ≤ y) (hk : k ≤ 9) : k < 9 := by
  rcases Nat.lt_or_ge k 9 with h9 | h9
  · exact h9
  · have := h.le9 hx (by omega)
    omega

theorem u8_and127 (x : Int) (h0 : 0 ≤ x) (h1 : x < 256) : bits .and .u8 x 127 = x % 128 :=
  bits_mask .u8 8 (by decide) wraps_u8 7 (by decide) x h0 h1

theorem pow7 (k : Nat) : (2 : Nat) ^ (7 * k) = 128 ^ k := by rw [Nat.pow_mul]

theorem or_disj (a m j : Nat) (ha : a < 2 ^ j) : a ||| m * 2 ^ j = a + m * 2 ^ j := by
  have := Nat.two_pow_add_eq_or_of_lt (i := j) (b := a) ha m
  rw [Nat.mul_comm, Nat.or_comm] at this
  omega

theorem or_var (a c k : Nat) (hc : c < 256) (ha : a < 128 ^ k) (hb : a + c % 128 * 128 ^ k < 18446744073709551616) :
    bits .or .u64 (a : Int) (IntKind.u64.wrap (IntKind.u64.wrap (bits .and .u8 (c : Int) 127) * 2 ^ (7 * k))) = ((a + c % 128 * 128 ^ k : Nat) : Int) := by
  have e1 : IntKind.u64.wrap (bits .and .u8 (c : Int) 127) = ((c % 128 : Nat) : Int) := by
    rw [u8_and127 _ (by omega) (by omega), IntKind.wrap_u64]; omega
  have e2 : ((c % 128 : Nat) : Int) * 2 ^ (7 * k) = ((c % 128 * 128 ^ k : Nat) : Int) := by
    rw [← pow7]; push_cast; rfl
  rw [e1, e2, IntKind.wrap_u64]
  obtain ⟨m, hm⟩ : ∃ m, m = c % 128 * 128 ^ k := ⟨_, rfl⟩
  rw [← hm] at hb ⊢
  have e3 : (m : Int) % 18446744073709551616 = (m : Int) := by omega
  rw [e3, bits_or_u64_nat _ _ (by omega) (by omega), hm, ← pow7, or_disj _ _ _ (by rw [pow7]; exact ha)]

theorem or_var9 (a c : Nat) (hc : c < 256) (ha : a < 128 ^ 9) (hb : a + c % 128 * 128 ^ 9 < 18446744073709551616) :
    bits .or .u64 (a : Int) (IntKind.u64.wrap (IntKind.u64.wrap (bits .and .u8 (c : Int) 127) * 9223372036854775808)) = ((a + c % 128 * 128 ^ 9 : Nat) : Int) := by
  have := or_var a c 9 hc ha hb
  rwa [show (2 : Int) ^ (7 * 9) = 9223372036854775808 from by decide] at this

theorem or_var0 (a c : Nat) (hc : c < 256) (ha : a < 128 ^ 0) (hb : a + c % 128 * 128 ^ 0 < 18446744073709551616) :
    bits .or .u64 (a : Int) (IntKind.u64.wrap (IntKind.u64.wrap (bits .and .u8 (c : Int) 127))) = ((a + c % 128 * 128 ^ 0 : Nat) : Int) := by
  have := or_var a c 0 hc ha hb
  rwa [show (2 : Int) ^ (7 * 0) = 1 from by decide, Int.mul_one] at this

/-- The last byte: the number is whole. -/
theorem UV.fin {x k a y : Nat} (h : UV x k a y) (hy : y < 128) : a + y % 128 * 128 ^ k = x := by
  rw [Nat.mod_eq_of_lt hy]; exact h.eq.symm

theorem UV.finLen {x k a y : Nat} (h : UV x k a y) (hy : y < 128) : k + 1 = (Lib.uvarint x).length := by
  have := h.len
  rw [Lib.uvarint_small hy] at this
  exact this

theorem UV.below {x k a y : Nat} (h : UV x k a y) (hx : x < 18446744073709551616) : a + y % 128 * 128 ^ k < 18446744073709551616 := by
  have h1 := h.eq
  have : y % 128 * 128 ^ k ≤ y * 128 ^ k := Nat.mul_le_mul_right _ (Nat.mod_le _ _)
  omega

/-- The first k numbers of the path, each as a varint, end to end. -/
def enc (s : ByteArray) : Nat → List UInt8
  | 0 => []
  | k + 1 => enc s k ++ Lib.uvarint (num s (8 * k))

theorem enc_prefix (s : ByteArray) (k : Nat) : ∀ d, ∃ t, enc s (k + d) = enc s k ++ t
  | 0 => ⟨[], by simp⟩
  | d + 1 => by
    obtain ⟨t, ht⟩ := enc_prefix s k d
    exact ⟨t ++ Lib.uvarint (num s (8 * (k + d))), by rw [← Nat.add_assoc, enc, ht, List.append_assoc]⟩

theorem enc_split (s : ByteArray) {k N : Nat} (h : k < N) : ∃ t, enc s N = enc s k ++ (Lib.uvarint (num s (8 * k)) ++ t) := by
  obtain ⟨t, ht⟩ := enc_prefix s (k + 1) (N - (k + 1))
  rw [show k + 1 + (N - (k + 1)) = N by omega] at ht
  exact ⟨t, by rw [ht, enc, List.append_assoc]⟩

theorem enc_lt (s : ByteArray) {k N : Nat} (h : k < N) : (enc s k).length + (Lib.uvarint (num s (8 * k))).length ≤ (enc s N).length := by
  obtain ⟨t, ht⟩ := enc_split s h
  rw [ht]; simp

theorem enc_le10 (s : ByteArray) : ∀ k, (enc s k).length ≤ 10 * k
  | 0 => by simp [enc]
  | k + 1 => by
    have := enc_le10 s k
    have := Lib.uvarint_length64 (num_lt s (8 * k))
    simp only [enc, List.length_append]
    omega

/-- What MarshalBinary makes of an identifier. -/
def inner (o : Nat) (s : ByteArray) : List UInt8 := Lib.uvarint o ++ enc s (s.size / 8)

theorem inner_len (o : Nat) (s : ByteArray) (ho : o < 18446744073709551616) : (inner o s).length ≤ 10 + 10 * (s.size / 8) := by
  have := enc_le10 s (s.size / 8)
  have := Lib.uvarint_length64 ho
  simp only [inner, List.length_append]
  omega

/-- The bytes l lie in block g from cell p on. -/
def Lies (w : World) (g p : Nat) (l : List UInt8) : Prop := ∀ j u, l[j]? = some u → w.cell? ⟨g, p + j, none⟩ = some (.int .u8 u.toNat)

theorem Lies.left {w : World} {g p : Nat} {a b : List UInt8} (h : Lies w g p (a ++ b)) : Lies w g p a := fun j u hj =>
  h j u (by rw [List.getElem?_append_left (List.getElem?_eq_some_iff.1 hj).1]; exact hj)

theorem Lies.right {w : World} {g p : Nat} {a b : List UInt8} (h : Lies w g p (a ++ b)) : Lies w g (p + a.length) b := fun j u hj => by
  rw [Nat.add_assoc]
  exact h (a.length + j) u (by rw [List.getElem?_append_right (by omega), Nat.add_sub_cancel_left]; exact hj)

end Go.Proofs.Qxb6604357aFmt
