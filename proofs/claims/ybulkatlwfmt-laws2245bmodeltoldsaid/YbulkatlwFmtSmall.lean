import Derived.Test.YbulkatlwFmtRows
import Derived.Test.YbulkatlwFmtShelf
import Derived.WalkSpells
import Derived.Outline
import Derived.Deep.QuietTactic
import Derived.BigQuiet
import Derived.OpenShut
import Derived.WalkSmall
import Derived.Below
namespace Go.Proofs.YbulkatlwFmt
open Go.RowKit

/-- The table's columns. -/
def tF (k : Nat) : Int := match k with
  | 0 => 1
  | 1 => 2
  | 2 => 4
  | 3 => 8
  | _ => 16
def tN (k : Nat) : ByteArray := match k with
  | 0 => ⟨#[74, 83, 79, 78]⟩
  | 1 => ⟨#[88, 77, 76]⟩
  | 2 => ⟨#[71, 111, 98]⟩
  | 3 => ⟨#[84, 101, 120, 116]⟩
  | _ => ⟨#[72, 84, 77, 76]⟩
def tM (k : Nat) : ByteArray := match k with
  | 0 => ⟨#[97, 112, 112, 108, 105, 99, 97, 116, 105, 111, 110, 47, 106, 115, 111, 110]⟩
  | 1 => ⟨#[97, 112, 112, 108, 105, 99, 97, 116, 105, 111, 110, 47, 120, 109, 108]⟩
  | 2 => ⟨#[97, 112, 112, 108, 105, 99, 97, 116, 105, 111, 110, 47, 103, 111, 98]⟩
  | 3 => ⟨#[116, 101, 120, 116, 47, 112, 108, 97, 105, 110]⟩
  | _ => ⟨#[116, 101, 120, 116, 47, 104, 116, 109, 108]⟩
def tL (k : Nat) : ByteArray := match k with
  | 0 => ⟨#[97, 112, 112, 108, 105, 99, 97, 116, 105, 111, 110, 47, 106, 115, 111, 110]⟩
  | 1 => ⟨#[97, 112, 112, 108, 105, 99, 97, 116, 105, 111, 110, 47, 120, 109, 108]⟩
  | 2 => ⟨#[97, 112, 112, 108, 105, 99, 97, 116, 105, 111, 110, 47, 103, 111, 98]⟩
  | 3 => ⟨#[116, 101, 120, 116, 47, 112, 108, 97, 105, 110, 59, 32, 99, 104, 97, 114, 115, 101, 116, 61, 117, 116, 102, 45, 56]⟩
  | _ => ⟨#[116, 101, 120, 116, 47, 104, 116, 109, 108, 59, 32, 99, 104, 97, 114, 115, 101, 116, 61, 117, 116, 102, 45, 56]⟩
def tS (k : Nat) : ByteArray := match k with
  | 0 => ⟨#[43, 106, 115, 111, 110]⟩
  | 1 => ⟨#[43, 120, 109, 108]⟩
  | 2 => ⟨#[43, 103, 111, 98]⟩
  | _ => ⟨#[]⟩

theorem suf_any (s p : ByteArray) (w : World) (hs : s.size ≤ 9223372036854775807) :
    Calls Ybaf.prog 10 #[.string s, .string p] w fun e w' => e = .returned (.bool (Lib.hasSuffix s.data.toList p.data.toList)) ∧ w' = w := Any.strings_HasSuffix Ybaf.suf s p w hs

/-- The row k of the table holds m. -/
def hit (m : ByteArray) (k : Nat) : Bool := (tM k).toList == m.toList || (!(tS k).toList.isEmpty && Lib.hasSuffix m.data.toList (tS k).data.toList)
/-- The format of m, from the row k on. -/
def foN (m : ByteArray) : Nat → Int
  | 0 => 0
  | d + 1 => bif hit m (5 - (d + 1)) then tF (5 - (d + 1)) else foN m d
def fo (m : ByteArray) : Int := bif m.toList == [116, 101, 120, 116, 47, 120, 109, 108] then 2 else foN m 5

/-- The table lies in memory. -/
structure MT (w : World) (b off cap : Nat) : Prop where
  lt : b < w.heap.size
  pos : 0 < w.heap.size
  gl : w.cell? ⟨0, 0, none⟩ = some (.slice (some ⟨b, off, none⟩) 5 cap)
  row : ∀ k, k < 5 → w.cell? ⟨b, off + k * 5, none⟩ = some (.int .u8 (tF k)) ∧ w.cell? ⟨b, off + k * 5 + 1, none⟩ = some (.string (tN k)) ∧ w.cell? ⟨b, off + k * 5 + 2, none⟩ = some (.string (tM k)) ∧
    w.cell? ⟨b, off + k * 5 + 3, none⟩ = some (.string (tL k)) ∧ w.cell? ⟨b, off + k * 5 + 4, none⟩ = some (.string (tS k))
theorem MT.later {w w' : World} {b off cap : Nat} (h : MT w b off cap) (hb : Below w.heap.size w w') : MT w' b off cap := by
  refine ⟨Nat.lt_of_lt_of_le h.lt hb.size, Nat.lt_of_lt_of_le h.pos hb.size, by rw [hb.cell (by exact h.pos)]; exact h.gl, fun k hk => ?_⟩
  rw [hb.cell (by exact h.lt), hb.cell (by exact h.lt), hb.cell (by exact h.lt), hb.cell (by exact h.lt), hb.cell (by exact h.lt)]
  exact h.row k hk

theorem tF_bd (k : Nat) : 0 ≤ tF k ∧ tF k ≤ 255 := by unfold tF; split <;> omega

set_option maxRecDepth 100000 in
theorem fo_any (m : ByteArray) (b off cap : Nat) (w : World) (h : MT w b off cap) (hs : m.size ≤ 9223372036854775807) :
    Calls Ybaf.prog 8 #[.string m] w fun e w' => e = .returned (.int .u8 (fo m)) ∧ Below w.heap.size w w' := by
  have H : Hid (MT w b off cap) := h
  have gl := h.gl
  clear h
  cases hx : (m.toList == [116, 101, 120, 116, 47, 120, 109, 108]) with
  | true =>
    have HF : Hid (fo m = 2) := by show _ = _; rw [fo, hx]; rfl
    go_enter Ybaf.func8, Ybaf.ntmps8
    go_wp2
    go_ret
    exact ⟨by rw [HF.out]; rfl, Below.refl _ _⟩
  | false =>
    have HF : Hid (fo m = foN m 5) := by show _ = _; rw [fo, hx]; rfl
    go_enter Ybaf.func8, Ybaf.ntmps8
    go_wp2
    clear gl hx
    go_loopw [9] (fun i wr => ∃ k : Nat, k ≤ 5 ∧ i = .int .i64 k ∧ Hid (fo m = foN m (5 - k)) ∧ Below w.heap.size w wr) (fun i _ => 5 - (intOf i).toNat)
    case atStart => exact ⟨0, by omega, rfl, HF, Below.refl _ _⟩
    case round =>
      clear HF
      obtain ⟨k, hk, rfl, hf, hb⟩ := hrel
      by_cases hlt : k < 5
      · obtain ⟨c0, c1, c2, c3, c4⟩ := (H.out.later hb).row k hlt
        have HS : Hid (foN m (5 - k) = bif hit m k then tF k else foN m (5 - (k + 1))) := by
          show _ = _
          obtain ⟨d, hd⟩ : ∃ d, 5 - k = d + 1 := ⟨5 - k - 1, by omega⟩
          rw [hd, foN, show 5 - (d + 1) = k by omega, show 5 - (k + 1) = d by omega]
        have HH : Hid (hit m k = ((tM k).toList == m.toList || (!(tS k).toList.isEmpty && Lib.hasSuffix m.data.toList (tS k).data.toList))) := rfl
        have hsz := hb.size
        generalize tF k = F at c0 HS
        generalize tN k = N at c1
        generalize tL k = L at c3
        generalize tM k = M at c2 HH
        generalize tS k = S at c4 HH
        cases h1 : (M.toList == m.toList) with
        | true =>
          have HR : Hid (fo m = F) := by
            show _ = _
            rw [hf.out, HS.out, HH.out, h1]; rfl
          clear HS HH hf
          go_wp2
          go_ret
          exact ⟨by rw [HR.out]; rfl, hb.alloc hsz _⟩
        | false =>
          cases h2 : S.toList.isEmpty with
          | true =>
            have HR : Hid (fo m = foN m (5 - (k + 1))) := by
              show _ = _
              rw [hf.out, HS.out, HH.out, h1, h2]; rfl
            clear HS HH hf
            go_wp2
            go_roundw
            case rel => exact ⟨k + 1, by omega, by go_num, HR, hb.alloc hsz _⟩
            case measure => simp [intOf]; omega
          | false =>
            cases h3 : Lib.hasSuffix m.data.toList S.data.toList with
            | true =>
              have HR : Hid (fo m = F) := by
                show _ = _
                rw [hf.out, HS.out, HH.out, h1, h2, h3]; rfl
              have HC : Hid (∀ w, Calls Ybaf.prog 10 #[.string m, .string S] w fun e w' => e = .returned (.bool true) ∧ w' = w) := fun w => by rw [← h3]; exact suf_any m S w hs
              clear HS HH hf h3
              go_wp2_with fail
              refine (HC.out _).mono ?_
              rintro e w' ⟨rfl, hw⟩
              obtain rfl := hw.symm
              go_wp2
              go_ret
              exact ⟨by rw [HR.out]; rfl, hb.alloc hsz _⟩
            | false =>
              have HR : Hid (fo m = foN m (5 - (k + 1))) := by
                show _ = _
                rw [hf.out, HS.out, HH.out, h1, h2, h3]; rfl
              have HC : Hid (∀ w, Calls Ybaf.prog 10 #[.string m, .string S] w fun e w' => e = .returned (.bool false) ∧ w' = w) := fun w => by rw [← h3]; exact suf_any m S w hs
              clear HS HH hf h3
              go_wp2_with fail
              refine (HC.out _).mono ?_
              rintro e w' ⟨rfl, hw⟩
              obtain rfl := hw.symm
              go_wp2
              go_roundw
              case rel => exact ⟨k + 1, by omega, by go_num, HR, hb.alloc hsz _⟩
              case measure => simp [intOf]; omega
      · have hr9 : decide ((k : Int) < 5) = false := by simp; omega
        have HR : Hid (fo m = 0) := by
          show _ = _
          rw [hf.out, show 5 - k = 0 by omega, foN]
        clear hf
        go_wp2
        go_ret
        exact ⟨by rw [HR.out]; rfl, hb⟩
end Go.Proofs.YbulkatlwFmt
