/- The text that the hexadecimal verbs write: plain definitions and their laws; no program. -/
import Derived.Test.YtcfllmebcfimeaaDoorBuf
namespace Go.Fmt
open Go.RowKit Go.Lib

/-- The digit at place j. -/
def dig (d : ByteArray) (j : Nat) : UInt8 := d.data.toList.getD j 0
/-- '0x' as the digits write it. -/
def hexPre (d : ByteArray) (sh : Bool) : List UInt8 := if sh then [48, dig d 16] else []
def hexTok (d : ByteArray) (c : UInt8) : List UInt8 := [dig d (c.toNat / 16), dig d (c.toNat % 16)]
/-- What stands between the bytes. -/
def hexSep (d : ByteArray) (sh sp : Bool) (k : Nat) : List UInt8 := if sp = true ∧ 0 < k then 32 :: hexPre d sh else []
/-- The first k bytes, written out. -/
def hexN (d : ByteArray) (sh sp : Bool) (src : List UInt8) : Nat → List UInt8
  | 0 => hexPre d sh
  | k + 1 => hexN d sh sp src k ++ hexSep d sh sp k ++ hexTok d (src.getD k 0)
def hexText (d : ByteArray) (sh sp : Bool) (src : List UInt8) (k : Nat) : List UInt8 := if k = 0 then [] else hexN d sh sp src k

/-- How long that is. -/
def hexLen (sh sp : Bool) (k : Nat) : Nat := if sp then (if sh then 4 * k else 2 * k) + (k - 1) else if sh then 2 * k + 2 else 2 * k
theorem hexN_length (d : ByteArray) (sh sp : Bool) (src : List UInt8) : ∀ k, (hexN d sh sp src (k + 1)).length = hexLen sh sp (k + 1)
  | 0 => by cases sh <;> cases sp <;> simp [hexN, hexSep, hexTok, hexPre, hexLen]
  | k + 1 => by
    rw [hexN, List.length_append, List.length_append, hexN_length d sh sp src k]
    cases sh <;> cases sp <;> simp [hexSep, hexTok, hexPre, hexLen] <;> omega
theorem hexN_length_le (d : ByteArray) (sh sp : Bool) (src : List UInt8) : ∀ k, (hexN d sh sp src k).length ≤ 5 * k + 2
  | 0 => by cases sh <;> simp [hexN, hexPre]
  | k + 1 => by rw [hexN_length]; cases sh <;> cases sp <;> simp [hexLen] <;> omega

/-- The number of bytes that are written. -/
def hexK (pp : Bool) (prec : Int) (n : Nat) : Int := if pp = true ∧ prec < n then prec else n
theorem hexK_le (pp : Bool) (prec : Int) (n : Nat) : hexK pp prec n ≤ n := by unfold hexK; split <;> omega
end Go.Fmt
