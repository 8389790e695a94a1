/- The runes of a text of ASCII and one encoding; the padding in the laws' own words. -/
import Derived.Test.YtfpjkkjhdblmkaaDoorZzR
import Derived.Test.YtfpjkkjhdblmkaaDoorUtf
import Derived.Test.YtfpjkkjhdblmkaaDoorUniG
import Derived.Lib.RuneCountTail
namespace Go.Proofs.YtfpjkkjhdblmkaaDoor.Fm
open Go.ChangeShapes Go.WideShapes Go.ChangeAt Go.RowKit Go.Fmt Go.Num

theorem ext_tail (a t : List UInt8) : (⟨(a ++ t).toArray⟩ : ByteArray).extract a.length (⟨(a ++ t).toArray⟩ : ByteArray).size = ⟨t.toArray⟩ := by
  apply ByteArray.ext
  simp [ByteArray.size]
theorem rcount_ascii_append (a t : List UInt8) (h : ∀ c ∈ a, c.toNat < 128) : rcount (a ++ t) = a.length + rcount t := by
  unfold rcount
  rw [Lib.runeCount_split _ a.length (by simp [ByteArray.size]) ?_, ext_tail]
  intro j hj
  rw [← Lib.getD_get!', List.getD_eq_getElem?_getD]
  show (((a ++ t)[j]?).getD 0).toNat < 128
  rw [List.getElem?_append_left hj, List.getElem?_eq_getElem hj]
  exact h _ (List.getElem_mem hj)
theorem rcount_nil : rcount [] = 0 := rfl
theorem rcount_ascii (a : List UInt8) (h : ∀ c ∈ a, c.toNat < 128) : rcount a = a.length := by
  have := rcount_ascii_append a [] h
  rw [List.append_nil, rcount_nil] at this
  exact this
theorem rcount_enc (r : Int) (t : List UInt8) : rcount (encB r ++ t) = 1 + rcount t := by
  have hp := encB_ne r
  have hs : (⟨(encB r ++ t).toArray⟩ : ByteArray).size = (encB r).length + t.length := by simp [ByteArray.size]
  have hd := dec_encB r t
  unfold Lib.decodeL at hd
  have ht := Lib.tail_count ⟨(encB r ++ t).toArray⟩ (encB r).length
  rw [ext_tail] at ht
  have h2 := ht (t.length) 0
  rw [Nat.add_zero] at h2
  obtain ⟨k, hk⟩ : ∃ k, (encB r).length + t.length = k + 1 := ⟨(encB r).length + t.length - 1, by omega⟩
  unfold rcount Lib.runeCount
  rw [show (⟨t.toArray⟩ : ByteArray).size = t.length by simp [ByteArray.size], h2, hs, hk]
  conv =>
    lhs
    unfold Lib.runeCountFrom
  rw [if_pos (by rw [hs]; omega), hd, Nat.zero_add, Lib.fuel_enough _ k t.length (encB r).length (by rw [hs]; omega) (by rw [hs]; omega)]

theorem padded_zp (f : Flags) (cs : List UInt8) (runes : Int) (h : (rcount cs : Int) = runes) : padded (f.z false) cs = zp cs runes f.widP f.wid f.minus 32 := by
  unfold padded zp
  rw [← h]
  rfl
theorem ascii_mem {c : UInt8} {a : List UInt8} (h : ∀ x ∈ a, x.toNat < 128) (hc : c.toNat < 128) : ∀ x ∈ c :: a, x.toNat < 128 := by
  intro x hx
  rcases List.mem_cons.1 hx with rfl | hx
  · exact hc
  · exact h x hx
theorem repr_ascii (b : Nat) (up : Bool) (m : Nat) : ∀ c ∈ repr b (digs up) m, c.toNat < 128 := by
  intro c hc
  unfold Go.Num.repr txt at hc
  obtain ⟨d, _, rfl⟩ := List.mem_map.1 hc
  exact digs_ascii up d
theorem fillB_ascii (p : Nat) (r : List UInt8) (h : ∀ c ∈ r, c.toNat < 128) : ∀ c ∈ fillB p r, c.toNat < 128 := by
  intro c hc
  unfold fillB at hc
  rcases List.mem_append.1 hc with hc | hc
  · rw [List.eq_of_mem_replicate hc]; decide
  · exact h c hc
/-- 'U+' and the digits. -/
def coreB (p m : Nat) : List UInt8 := 85 :: 43 :: fillB p (repr 16 upper m)
theorem coreB_ascii (p m : Nat) : ∀ c ∈ coreB p m, c.toNat < 128 := ascii_mem (ascii_mem (fillB_ascii p _ (repr_ascii 16 true m)) (by decide)) (by decide)
theorem uniB_plain (p m : Nat) (u : Int) : uniB p m false u = coreB p m := by unfold uniB coreB quoteB; simp
theorem uniB_quoted (p m : Nat) (u : Int) : uniB p m true u = coreB p m ++ (32 :: 39 :: (encB u ++ [39])) := by unfold uniB coreB quoteB; simp
theorem rcount_plain (p m : Nat) : rcount (coreB p m) = (coreB p m).length := rcount_ascii _ (coreB_ascii p m)
theorem rcount_quoted (p m : Nat) (u : Int) : rcount (coreB p m ++ (32 :: 39 :: (encB u ++ [39]))) = (coreB p m).length + 4 := by
  rw [rcount_ascii_append _ _ (coreB_ascii p m)]
  have h2 := rcount_ascii_append [32, 39] (encB u ++ [39]) (by decide)
  have h3 : rcount [39] = 1 := rcount_ascii [39] (by decide)
  rw [rcount_enc, h3] at h2
  show _ + rcount ([32, 39] ++ (encB u ++ [39])) = _
  rw [h2]
  rfl
end Go.Proofs.YtfpjkkjhdblmkaaDoor.Fm
