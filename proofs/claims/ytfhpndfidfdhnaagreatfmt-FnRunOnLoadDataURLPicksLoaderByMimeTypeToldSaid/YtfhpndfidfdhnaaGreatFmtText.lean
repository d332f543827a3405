/- Plain facts on the text "data:" ++ mime ++ "," ++ payload: where its parts lie. No program in sight. -/
import Derived.Lib.Strings
import Derived.Lib.Bytealg
import Derived.Lib.IndexBytes
namespace Go.Proofs.YtfhpndfidfdhnaaGreatFmt

/-- A string out of its bytes. -/
abbrev B (l : List UInt8) : ByteArray := ⟨l.toArray⟩

/-- "data:" -/
def pre : List UInt8 := [100, 97, 116, 97, 58]
/-- "text/css", "text/javascript", "application/json" -/
def css : List UInt8 := [116, 101, 120, 116, 47, 99, 115, 115]
def js : List UInt8 := [116, 101, 120, 116, 47, 106, 97, 118, 97, 115, 99, 114, 105, 112, 116]
def json : List UInt8 := [97, 112, 112, 108, 105, 99, 97, 116, 105, 111, 110, 47, 106, 115, 111, 110]
/-- ";charset=utf-8" -/
def chr : List UInt8 := [59, 99, 104, 97, 114, 115, 101, 116, 61, 117, 116, 102, 45, 56]

/-- The whole text. -/
def whole (m p : List UInt8) : List UInt8 := pre ++ m ++ [44] ++ p

theorem indexByte_append (a b : List UInt8) (c : UInt8) (h : c ∉ a) (hb : Lib.indexByte b c ≠ -1) : Lib.indexByte (a ++ b) c = a.length + Lib.indexByte b c := by
  induction a with
  | nil => simp
  | cons x a ih =>
    have hx : (x == c) = false := by
      rw [beq_eq_false_iff_ne]
      intro e
      exact h (by simp [e])
    have h' : c ∉ a := fun hc => h (List.mem_cons_of_mem _ hc)
    have hi := ih h'
    have hnn : ∀ l : List UInt8, Lib.indexByte l c ≠ -1 → 0 ≤ Lib.indexByte l c := by
      intro l
      induction l with
      | nil => intro h; exact absurd rfl h
      | cons y l il =>
        intro hl
        rw [Lib.indexByte] at hl ⊢
        by_cases hy : (y == c) = true
        · simp [hy]
        · simp only [hy] at hl ⊢
          by_cases hn : Lib.indexByte l c = -1
          · simp [hn] at hl
          · have := il hn
            simp [hn]
            omega
    have h0 := hnn b hb
    rw [List.cons_append, Lib.indexByte, hx]
    have hne : (Lib.indexByte (a ++ b) c == -1) = false := by
      rw [beq_eq_false_iff_ne, hi]
      omega
    rw [hne, hi]
    simp only [List.length_cons]
    simp
    omega

theorem indexByte_whole (m p : List UInt8) (h : (44 : UInt8) ∉ m) : Lib.indexByte (whole m p) 44 = 5 + m.length := by
  unfold whole
  rw [List.append_assoc (pre ++ m)]
  rw [indexByte_append (pre ++ m) ([44] ++ p) 44 (by simp [pre, h]) (by simp [Lib.indexByte])]
  simp [Lib.indexByte, pre]
  omega

theorem hasPrefix_whole (m p : List UInt8) : Lib.hasPrefix (whole m p) pre = true := by
  unfold Lib.hasPrefix whole
  simp [pre]

theorem whole_length (m p : List UInt8) : (whole m p).length = 6 + m.length + p.length := by
  simp [whole, pre]
  omega

theorem ext_list {s t : ByteArray} (h : s.data.toList = t.data.toList) : s = t := by
  apply ByteArray.ext
  exact Array.toList_inj.1 h

theorem mid (m p : List UInt8) : (B (whole m p)).extract 5 (5 + m.length) = B m := by
  apply ext_list
  rw [Lib.extract_data]
  simp [whole, pre]

theorem rest (m p : List UInt8) : (B (whole m p)).extract (5 + m.length + 1) (B (whole m p)).size = B p := by
  apply ext_list
  rw [Lib.extract_to_end]
  show (whole m p).drop (5 + m.length + 1) = p
  unfold whole
  exact List.drop_left' (by simp [pre]; omega)

theorem whole_size (m p : List UInt8) : (B (whole m p)).size = 6 + m.length + p.length := by
  rw [Lib.size_eq]
  exact whole_length m p

theorem nosuf (m : List UInt8) (h : m = css ∨ m = js ∨ m = json ∨ m = css ++ chr ∨ m = js ++ chr ∨ m = json ++ chr) :
    Lib.hasSuffix m [59, 98, 97, 115, 101, 54, 52] = false ∧ (44 : UInt8) ∉ m ∧ m.length ≤ 30 := by
  rcases h with rfl | rfl | rfl | rfl | rfl | rfl <;> decide

end Go.Proofs.YtfhpndfidfdhnaaGreatFmt
