/-
  THE ESCAPE, PLAIN; AND A SLICE OF BYTES THAT CAME IN ('Src').
-/
import Derived.Test.YbulkiiyDoorPos
namespace Go.Proofs.YbulkiiyDoor
open Go.RowKit Go.Lib

def esc (c : UInt8) : List UInt8 :=
  if c = 92 then [92, 92] else if c = 10 then [92, 110] else if c = 9 then [92, 116] else if c = 13 then [92, 114] else [c]

def fieldsB (file : List UInt8) (line col : Int) (kind X : List UInt8) : List UInt8 := posB file line col ++ ([9] ++ (kind ++ ([9] ++ X.flatMap esc)))

theorem esc_length (c : UInt8) : (esc c).length ≤ 2 := by
  unfold esc
  repeat' split
  all_goals simp

theorem flat_length (X : List UInt8) : (X.flatMap esc).length ≤ 2 * X.length := by
  induction X with
  | nil => simp
  | cons c X ih =>
    rw [List.flatMap_cons, List.length_append, List.length_cons]
    have := esc_length c
    omega

theorem take_flat_length (X : List UInt8) (k : Nat) : ((X.take k).flatMap esc).length ≤ 2 * X.length := by
  have := flat_length (X.take k)
  have h2 : (X.take k).length ≤ X.length := by rw [List.length_take]; omega
  omega

theorem flat_snoc (X : List UInt8) (k : Nat) (h : k < X.length) : (X.take (k + 1)).flatMap esc = (X.take k).flatMap esc ++ esc X[k] := by
  rw [List.take_succ_eq_append_getElem h, List.flatMap_append]
  simp

/-- n bytes X that lie below block B; none, whatever the address -/
def Src (B : Nat) (w : World) (p : Option Addr) (n : Nat) (X : List UInt8) : Prop :=
  X.length = n ∧ (n = 0 ∨ ∃ b o, p = some ⟨b, o, none⟩ ∧ b < B ∧ ∀ i, i < n → w.cell? ⟨b, o + i, none⟩ = some (.int .u8 ((nums X).getD i 0)))

theorem Src.on {B : Nat} {w w' : World} {p : Option Addr} {n : Nat} {X : List UInt8} (h : Src B w p n X) (hb : Below B w w') : Src B w' p n X := by
  refine ⟨h.1, ?_⟩
  rcases h.2 with h0 | ⟨b, o, hp, hlt, hc⟩
  · exact .inl h0
  · exact .inr ⟨b, o, hp, hlt, fun i hi => (hb.cell (p := ⟨b, o + i, none⟩) hlt).trans (hc i hi)⟩

theorem Src.up {B B' : Nat} {w : World} {p : Option Addr} {n : Nat} {X : List UInt8} (h : Src B w p n X) (hb : B ≤ B') : Src B' w p n X := by
  refine ⟨h.1, ?_⟩
  rcases h.2 with h0 | ⟨b, o, hp, hlt, hc⟩
  · exact .inl h0
  · exact .inr ⟨b, o, hp, by omega, hc⟩

theorem Src.bytes {B : Nat} {w : World} {p : Option Addr} {n : Nat} {X : List UInt8} (h : Src B w p n X) : Lib.BytesIn w p n (nums X) := by
  intro hn
  rcases h.2 with h0 | ⟨b, o, hp, hlt, hc⟩
  · omega
  · exact ⟨b, o, hp, hc⟩

theorem esc_92 : esc 92 = [92, 92] := rfl
theorem esc_10 : esc 10 = [92, 110] := rfl
theorem esc_9 : esc 9 = [92, 116] := rfl
theorem esc_13 : esc 13 = [92, 114] := rfl
theorem esc_other {c : UInt8} (h1 : c ≠ 92) (h2 : c ≠ 10) (h3 : c ≠ 9) (h4 : c ≠ 13) : esc c = [c] := by
  unfold esc
  rw [if_neg h1, if_neg h2, if_neg h3, if_neg h4]

theorem ne_num {c d : UInt8} (h : c ≠ d) : ((c.toNat : Int) == (d.toNat : Int)) = false := by
  rw [beq_eq_false_iff_ne]
  intro e
  exact h (UInt8.toNat_inj.1 (by omega))

end Go.Proofs.YbulkiiyDoor
