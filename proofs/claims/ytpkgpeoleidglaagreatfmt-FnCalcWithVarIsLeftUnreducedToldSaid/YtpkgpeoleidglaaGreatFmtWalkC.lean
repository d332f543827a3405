/- Contracts of the law's own small functions: the guard of lengths, the copy of the numbers, the numeral's text. -/
import Derived.Test.YtpkgpeoleidglaaGreatFmtWalkA
import Derived.WalkKit
import Derived.WalkMore
import Derived.WalkLawsBesides
import Derived.WalkSpells
import Derived.Lib.Hide
import Derived.Outline
import Derived.Handy
import Derived.Laws.BytesArg
import Derived.Laws.NewBlocks
import Derived.Laws.IdiomStrings
import Derived.Laws.Slices
namespace Go.Proofs.YtpkgpeoleidglaaGreatFmt
open Go.RowKit

theorem bytes_ok (b c d : Value) (xa : Option Addr) (n m : Nat) (w : World) (hn : n ≤ 1048576) :
    Calls Tryz.prog 5 #[.slice xa n m, b, c, d] w fun e w' => e = .returned (.bool true) ∧ w = w' := by
  go_enter Tryz.func5, Tryz.ntmps5
  go_wp2
  go_ret
  exact ⟨rfl, rfl⟩

theorem bytes_no (b c d : Value) (xa : Option Addr) (n m : Nat) (w : World) (hn : 1048576 < n) :
    Calls Tryz.prog 5 #[.slice xa n m, b, c, d] w fun e w' => e = .returned (.bool false) ∧ w = w' := by
  go_enter Tryz.func5, Tryz.ntmps5
  go_wp2
  go_ret
  exact ⟨rfl, rfl⟩

def cellOf (b : UInt8) : Value := .int .u8 (b.toNat : Int)
/-- The buffer with p noughts ahead of the bytes l. -/
def buf (p : Nat) (l : List UInt8) : Array Value := (List.replicate p (Value.int .u8 0) ++ l.map cellOf).toArray
theorem buf_size (p : Nat) (l : List UInt8) : (buf p l).size = p + l.length := by simp [buf]
theorem set_rep (v : Value) (L : List Value) : ∀ p : Nat, (List.replicate (p + 1) (Value.int .u8 0) ++ L).set p v = List.replicate p (Value.int .u8 0) ++ v :: L
  | 0 => rfl
  | p + 1 => by
    rw [List.replicate_succ, List.cons_append, List.set_cons_succ, set_rep v L p]
    rfl

theorem buf_set (p : Nat) (l : List UInt8) (d : UInt8) (x : Int) (hx : x = (d.toNat : Int)) : (buf (p + 1) l).setIfInBounds p (.int .u8 x) = buf p (d :: l) := by
  subst hx
  apply Array.ext'
  simp only [buf, Array.toList_setIfInBounds, List.map_cons]
  exact set_rep _ _ p
theorem buf_get (p : Nat) (l : List UInt8) : (buf (p + 1) l)[p]? = some (.int .u8 0) := by
  simp [buf, List.getElem?_append]
theorem buf_dig (p : Nat) (l : List UInt8) (j : Nat) (hj : j < l.length) : (buf p l)[p + j]? = some (.int .u8 (l[j].toNat : Int)) := by
  simp [buf, List.getElem?_append, List.getElem?_map, List.getElem?_eq_getElem hj, cellOf]

theorem B_size (l : List UInt8) : (B l).size = l.length := by simp [ByteArray.size]
theorem B_at (l : List UInt8) (i : Nat) (hi : i < (B l).size) : (B l)[i] = l[i]'(by rw [B_size] at hi; exact hi) := rfl

theorem text_pos (l : List UInt8) (h : AllDig l) (hz : ∃ d r, l = d :: r ∧ d.toNat ≠ 48) (hl : l.length ≤ 10) : IntText (B l) 0 where
  sign := Or.inl rfl
  lo := by obtain ⟨d, r, rfl, _⟩ := hz; rw [B_size]; simp
  hi := by rw [B_size]; show l.length ≤ 0 + 10; omega
  dig := fun i hi _ => by rw [B_at]; exact h _ (List.getElem_mem _)
  lead := by
    obtain ⟨d, r, rfl, hd⟩ := hz
    exact Or.inr ⟨by rw [B_size]; simp, by rw [B_at]; exact hd⟩

theorem text_neg (l : List UInt8) (h : AllDig l) (hz : ∃ d r, l = d :: r ∧ d.toNat ≠ 48) (hl : l.length ≤ 10) : IntText (B (45 :: l)) 1 where
  sign := Or.inr ⟨rfl, by rw [B_size]; simp, rfl⟩
  lo := by obtain ⟨d, r, rfl, _⟩ := hz; rw [B_size]; simp
  hi := by rw [B_size]; show (45 :: l).length ≤ 1 + 10; simp; omega
  dig := fun i hi h1 => by
    obtain ⟨k, rfl⟩ : ∃ k, i = k + 1 := ⟨i - 1, by omega⟩
    rw [B_at]
    exact h _ (List.getElem_mem _)
  lead := by
    obtain ⟨d, r, rfl, hd⟩ := hz
    exact Or.inr ⟨by rw [B_size]; simp, by rw [B_at]; exact hd⟩

theorem text_nought : IntText (B [48]) 0 where
  sign := Or.inl rfl
  lo := by decide
  hi := by decide
  dig := fun i hi _ => by
    have hi' : i < 1 := hi
    obtain rfl : i = 0 := by omega
    exact (by decide : 48 ≤ (48 : UInt8).toNat ∧ (48 : UInt8).toNat ≤ 57)
  lead := Or.inl (by decide)

/-- buf[p:] as a slice. -/
theorem tail_slice (N p : Nat) (w : World) (hp : p < 24) : (Instr.sliceAt 43 (.pointer (some ⟨N, 0, none⟩)) (some (.int .i64 (p : Int))) none none).run Tryz.prog w = .ok (.slice (some ⟨N, p, none⟩) (24 - p) (24 - p)) w := by
  have e1 : Tryz.prog.arrayLen 43 = 24 := by kernel_rfl
  have e2 : Tryz.prog.elem 43 = 5 := by kernel_rfl
  rw [run_sliceAt_array_l w 43 _ (by kernel_rfl) .i64 p (by omega) (by rw [e1]; omega), e1, e2]
  simp only [slicedAt, Int.toNat_natCast]
  have e3 : (sizeOf 5).run Tryz.prog w = .ok 1 w := by kernel_rfl
  have e4 : ¬ 24 = p := by omega
  rw [e3]
  simp [Result.andThen, Addr.add, e4]
  exact fun h => h.symm

theorem tail_text (p : Nat) (l : List UInt8) (w : World) (hp : p + l.length = 24) : (convert 44 9 (.slice (some ⟨w.heap.size, p, none⟩) (24 - p) (24 - p))).run Tryz.prog (w.alloc (.cells (buf p l) 43)) = .ok (.string (B l)) (w.alloc (.cells (buf p l) 43)) := by
  rw [show 24 - p = l.length by omega]
  refine run_convert_bytes_back (w.alloc (.cells (buf p l) 43)) 44 9 5 ⟨w.heap.size, p, none⟩ l.length l (by kernel_rfl) (by kernel_rfl) (by kernel_rfl) (fun j hj => ?_)
  have := buf_dig p l j hj
  have ha : (⟨w.heap.size, p, none⟩ : Addr).add j = ⟨w.heap.size, p + j, none⟩ := by unfold Addr.add; split <;> simp_all
  rw [ha]
  simp [go_sem, this]

/-- The last digit's byte. -/
def dgt (U : Nat) : UInt8 := UInt8.ofNat (48 + U % 10)
theorem dig_ofNat (U : Nat) : 48 ≤ (dgt U).toNat ∧ (dgt U).toNat ≤ 57 ∧ (dgt U).toNat = 48 + U % 10 := by
  have := toNat_digit (U % 10) (by omega)
  unfold dgt
  omega
theorem dig_cons (U : Nat) (l : List UInt8) (h : AllDig l) : AllDig (dgt U :: l) := by
  intro d hd
  rcases List.mem_cons.1 hd with rfl | hd
  · exact ⟨(dig_ofNat U).1, (dig_ofNat U).2.1⟩
  · exact h d hd

set_option maxRecDepth 100000 in
set_option maxHeartbeats 2000000 in
theorem itoa_pos (v : Int) (w : World) (h0 : 0 < v) (h1 : v ≤ 2147483647) :
    Calls Tryz.prog 7 #[.int .i64 v] w fun e w' => (∃ s n, e = .returned (.string s) ∧ IntText s n) ∧ Below w.heap.size w w' ∧ w.heap.size ≤ w'.heap.size := by
  go_enter Tryz.func7, Tryz.ntmps7
  go_wp2_with fail
  go_loopw [6, 4] (fun i u wl => ∃ (p U : Nat) (l : List UInt8), p + l.length = 24 ∧ l.length ≤ 10 ∧ U * 10 ^ l.length ≤ 2147483648 ∧ AllDig l ∧ (U = 0 → ∃ d r, l = d :: r ∧ d.toNat ≠ 48) ∧ i = .int .i64 p ∧ u = .int .u64 U ∧ wl = w.alloc (.cells (buf p l) 43))
    (fun _ u _ => (intOf u).toNat)
  case atStart => exact ⟨24, v.toNat, [], rfl, by decide, by simp; omega, (by intro d hd; cases hd), by omega, rfl, by congr 1; omega, rfl⟩
  case round =>
    obtain ⟨p, U, l, hp, hl, hU, hd, hz, rfl, rfl, rfl⟩ := hrel
    have h10 : 1 ≤ 10 ^ l.length := Nat.one_le_pow _ _ (by decide)
    have hU2 : U ≤ 2147483648 := Nat.le_trans (Nat.le_mul_of_pos_right U h10) hU
    have HU := Lib.hid hU
    have HD := Lib.hid hd
    have HZ := Lib.hid hz
    clear hU hd hz h10
    by_cases hpos : 0 < U
    · have hl9 : l.length ≤ 9 := by
        rcases Nat.lt_or_ge l.length 10 with h | h
        · omega
        · exfalso
          have h1 : 10 ^ 10 ≤ 10 ^ l.length := Nat.pow_le_pow_right (by decide) h
          have h2 : 1 * 10 ^ 10 ≤ U * 10 ^ l.length := Nat.mul_le_mul hpos h1
          have := HU.out
          omega
      obtain ⟨q, rfl⟩ : ∃ q, p = q + 1 := ⟨p - 1, by omega⟩
      have hg := buf_get q l
      have hs := buf_size (q + 1) l
      have hset := buf_set q l (dgt U) (48 + (U : Int) % 10) (by rw [(dig_ofNat U).2.2]; omega)
      go_wp2_with fail
      refine ⟨⟨q, U / 10, dgt U :: l, by simp; omega, by simp; omega, ?_, dig_cons U l HD.out, fun h0 => ⟨_, _, rfl, ?_⟩, rfl, by congr 1, rfl⟩, by simp [intOf]; omega⟩
      · have h1 := HU.out
        rw [List.length_cons, Nat.pow_succ]
        have h2 : U / 10 * (10 ^ l.length * 10) = U / 10 * 10 * 10 ^ l.length := by
          rw [Nat.mul_assoc, Nat.mul_comm 10 (10 ^ l.length)]
        rw [h2]
        exact Nat.le_trans (Nat.mul_le_mul_right _ (by omega)) h1
      · rw [(dig_ofNat U).2.2]
        omega
    · have hs := buf_size p l
      have U0 : U = 0 := by omega
      subst U0
      have HZ2 := Lib.hid (HZ.out rfl)
      have hp24 : p < 24 := by
        obtain ⟨d, r, e, _⟩ := HZ.out rfl
        rw [e] at hp
        simp at hp
        omega
      have ht := tail_slice w.heap.size p (w.alloc (.cells (buf p l) 43)) hp24
      have hc := tail_text p l w hp
      go_wp2_with fail
      go_ret
      refine ⟨⟨_, rfl, 0, text_pos l HD.out HZ2.out hl⟩, ?_, ?_⟩
      · go_grown
      · simp
set_option maxRecDepth 100000 in
set_option maxHeartbeats 2000000 in
theorem itoa_neg (v : Int) (w : World) (h0 : v < 0) (h1 : -2147483648 ≤ v) :
    Calls Tryz.prog 7 #[.int .i64 v] w fun e w' => (∃ s n, e = .returned (.string s) ∧ IntText s n) ∧ Below w.heap.size w w' ∧ w.heap.size ≤ w'.heap.size := by
  go_enter Tryz.func7, Tryz.ntmps7
  go_wp2_with fail
  go_loopw [6, 4] (fun i u wl => ∃ (p U : Nat) (l : List UInt8), p + l.length = 24 ∧ l.length ≤ 10 ∧ U * 10 ^ l.length ≤ 2147483648 ∧ AllDig l ∧ (U = 0 → ∃ d r, l = d :: r ∧ d.toNat ≠ 48) ∧ i = .int .i64 p ∧ u = .int .u64 U ∧ wl = w.alloc (.cells (buf p l) 43))
    (fun _ u _ => (intOf u).toNat)
  case atStart => exact ⟨24, (-v).toNat, [], rfl, by decide, by simp; omega, (by intro d hd; cases hd), by omega, rfl, by congr 1; omega, rfl⟩
  case round =>
    obtain ⟨p, U, l, hp, hl, hU, hd, hz, rfl, rfl, rfl⟩ := hrel
    have h10 : 1 ≤ 10 ^ l.length := Nat.one_le_pow _ _ (by decide)
    have hU2 : U ≤ 2147483648 := Nat.le_trans (Nat.le_mul_of_pos_right U h10) hU
    have HU := Lib.hid hU
    have HD := Lib.hid hd
    have HZ := Lib.hid hz
    clear hU hd hz h10
    by_cases hpos : 0 < U
    · have hl9 : l.length ≤ 9 := by
        rcases Nat.lt_or_ge l.length 10 with h | h
        · omega
        · exfalso
          have h1 : 10 ^ 10 ≤ 10 ^ l.length := Nat.pow_le_pow_right (by decide) h
          have h2 : 1 * 10 ^ 10 ≤ U * 10 ^ l.length := Nat.mul_le_mul hpos h1
          have := HU.out
          omega
      obtain ⟨q, rfl⟩ : ∃ q, p = q + 1 := ⟨p - 1, by omega⟩
      have hg := buf_get q l
      have hs := buf_size (q + 1) l
      have hset := buf_set q l (dgt U) (48 + (U : Int) % 10) (by rw [(dig_ofNat U).2.2]; omega)
      go_wp2_with fail
      refine ⟨⟨q, U / 10, dgt U :: l, by simp; omega, by simp; omega, ?_, dig_cons U l HD.out, fun h0 => ⟨_, _, rfl, ?_⟩, rfl, by congr 1, rfl⟩, by simp [intOf]; omega⟩
      · have h1 := HU.out
        rw [List.length_cons, Nat.pow_succ]
        have h2 : U / 10 * (10 ^ l.length * 10) = U / 10 * 10 * 10 ^ l.length := by
          rw [Nat.mul_assoc, Nat.mul_comm 10 (10 ^ l.length)]
        rw [h2]
        exact Nat.le_trans (Nat.mul_le_mul_right _ (by omega)) h1
      · rw [(dig_ofNat U).2.2]
        omega
    · have hs := buf_size p l
      have U0 : U = 0 := by omega
      subst U0
      have HZ2 := Lib.hid (HZ.out rfl)
      have hp24 : p < 24 := by
        obtain ⟨d, r, e, _⟩ := HZ.out rfl
        rw [e] at hp
        simp at hp
        omega
      obtain ⟨q, rfl⟩ : ∃ q, p = q + 1 := ⟨p - 1, by omega⟩
      have hg := buf_get q l
      have hset := buf_set q l 45 45 rfl
      have ht := tail_slice w.heap.size q (w.alloc (.cells (buf q (45 :: l)) 43)) (by omega)
      have hc := tail_text q (45 :: l) w (by simp; omega)
      go_wp2_with fail
      go_ret
      refine ⟨⟨_, rfl, 1, text_neg l HD.out HZ2.out hl⟩, ?_, ?_⟩
      · go_grown
      · simp

theorem itoa_nought (w : World) :
    Calls Tryz.prog 7 #[.int .i64 0] w fun e w' => (∃ s n, e = .returned (.string s) ∧ IntText s n) ∧ Below w.heap.size w w' ∧ w.heap.size ≤ w'.heap.size := by
  go_enter Tryz.func7, Tryz.ntmps7
  go_wp2
  go_ret
  exact ⟨⟨_, 0, rfl, text_nought⟩, Below.refl _ _, Nat.le_refl _⟩

theorem itoa (v : Int) (w : World) (h0 : -2147483648 ≤ v) (h1 : v ≤ 2147483647) :
    Calls Tryz.prog 7 #[.int .i64 v] w fun e w' => (∃ s n, e = .returned (.string s) ∧ IntText s n) ∧ Below w.heap.size w w' ∧ w.heap.size ≤ w'.heap.size := by
  rcases Int.lt_trichotomy v 0 with h | h | h
  · exact itoa_neg v w h h0
  · subst h; exact itoa_nought w
  · exact itoa_pos v w h h1

end Go.Proofs.YtpkgpeoleidglaaGreatFmt
