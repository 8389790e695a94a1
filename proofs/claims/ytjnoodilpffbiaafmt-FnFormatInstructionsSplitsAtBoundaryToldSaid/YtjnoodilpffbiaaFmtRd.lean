/- ReadOperands: the operands are read back out of their fields. -/
import Derived.Test.YtjnoodilpffbiaaFmtMkE
import Derived.Lib.EndianBits
import Derived.Deep.RegionHeld3
import Derived.Deep.AppendLies
import Derived.BigRegion
namespace Go.Mk
/-- What the fields say. -/
def rdAll : List Int → List Int → List Int
  | [], _ => []
  | z :: zs, bs => rd 0 (bs.take z.toNat) :: rdAll zs (bs.drop z.toNat)
theorem rdAll_snoc : ∀ (zs bs : List Int) (k : Nat) (h : k < zs.length), (∀ z ∈ zs, 0 ≤ z) → rdAll (zs.take (k + 1)) bs = rdAll (zs.take k) bs ++ [rd 0 ((bs.drop (tot (zs.take k)).toNat).take (zs[k]).toNat)]
  | [], _, _, h, _ => by simp at h
  | z :: zs, bs, 0, _, _ => by simp [rdAll, tot]
  | z :: zs, bs, k + 1, h, hn => by
    have h1 := rdAll_snoc zs (bs.drop z.toNat) k (by simpa using h) (fun z hz => hn z (by simp [hz]))
    have hz := hn z (by simp)
    have ht := tot_nonneg (zs.take k) (fun z hz => hn z (by simp [List.mem_of_mem_take hz]))
    simp only [List.take_succ_cons, rdAll, h1, List.cons_append, tot, List.getElem_cons_succ, List.drop_drop]
    rw [show (z + tot (zs.take k)).toNat = z.toNat + (tot (zs.take k)).toNat by omega]
theorem rdAll_length : ∀ (zs bs : List Int), (rdAll zs bs).length = zs.length
  | [], _ => rfl
  | z :: zs, bs => by simp [rdAll, rdAll_length zs]
theorem rdAll_body : ∀ (zs xs : List Int), xs.length = zs.length → (∀ z ∈ zs, z = 1 ∨ z = 2 ∨ z = 4) → (∀ j (h : j < zs.length) (h' : j < xs.length), 0 ≤ xs[j] ∧ xs[j] < modW zs[j]) → rdAll zs (body zs xs) = xs
  | [], [], _, _, _ => rfl
  | [], _ :: _, h, _, _ => by simp at h
  | _ :: _, [], h, _, _ => by simp at h
  | z :: zs, x :: xs, h, hz, hf => by
    have h1 := rdAll_body zs xs (by simpa using h) (fun z hz' => hz z (by simp [hz'])) (fun j a b => hf (j + 1) (Nat.succ_lt_succ a) (Nat.succ_lt_succ b))
    have h0 := hf 0 (by simp) (by simp)
    simp only [List.getElem_cons_zero] at h0
    have hl := field_length z.toNat x
    simp only [rdAll, body]
    rw [List.take_append_of_le_length (by omega), List.drop_append_of_le_length (by omega), List.take_of_length_le (by omega), List.drop_of_length_le (by omega), List.nil_append, h1, field_mod z x (hz z (by simp)), Int.emod_eq_of_lt h0.1 h0.2]
theorem wraps_i64 (n : Int) (h₀ : 0 ≤ n) (h₁ : n < 2 ^ 62) : IntKind.i64.wrap n = n := IntWalk.i64_in _ (by omega)
theorem i64_low (i : Nat) (y x : Int) (hi : (2 : Int) ^ i ≤ 2 ^ 62) (hy₀ : 0 ≤ y) (hy : y < 2 ^ i) (hx₀ : 0 ≤ x) (hx : x % 2 ^ i = 0) (hx₁ : x < 2 ^ 62) : bits .or .i64 y x = y + x :=
  bits_join_low .i64 62 (by decide) wraps_i64 i y x hy₀ hy (Int.lt_of_lt_of_le hy hi) hx₀ hx hx₁
end Go.Mk
namespace Go.Proofs.YtjnoodilpffbiaaFmt.Mk
open Go.ChangeShapes Go.WideShapes Go.ChangeAt Go.RowKit Go.Blk Go.Mk Go.LawFrame

theorem take1 (bs : List Int) (o : Nat) (h : o < bs.length) : (bs.drop o).take 1 = [bs[o]] := by rw [List.drop_eq_getElem_cons h]; rfl
theorem take2 (bs : List Int) (o : Nat) (h : o + 1 < bs.length) : (bs.drop o).take 2 = [bs[o], bs[o + 1]] := by
  rw [List.drop_eq_getElem_cons (by omega), List.take_succ_cons, take1 bs (o + 1) h]
theorem take4 (bs : List Int) (o : Nat) (h : o + 3 < bs.length) : (bs.drop o).take 4 = [bs[o], bs[o + 1], bs[o + 2], bs[o + 3]] := by
  rw [List.drop_eq_getElem_cons (by omega), List.take_succ_cons, List.drop_eq_getElem_cons (by omega), List.take_succ_cons, take2 bs (o + 2) h]
theorem news1 (w : World) (v : Value) (e : TypeId) : ∀ j u, [v][j]? = some u → ((w.alloc (.cells #[v] e)).drew).cell? ((⟨w.heap.size, 0, none⟩ : Addr).add j) = some u := fun j u hj =>
  World.news_of_block (t := e) (fr := (0, 0)) (heap_alloc_new w _) j u hj
theorem keep_alloc {w : World} {xb j : Nat} {v : Value} (o : Obj) (hx : xb < w.heap.size) (h : w.cell? ⟨xb, j, none⟩ = some v) : (w.alloc o).cell? ⟨xb, j, none⟩ = some v :=
  (((Below.refl _ w).alloc (Nat.le_refl _) o).cell (p := ⟨xb, j, none⟩) hx).trans h
theorem keep_grown {w w' : World} {xb j : Nat} {v : Value} {o : Obj} {r : Option Nat} (hg : ((w.alloc o).drew).grownBy w' r) (hr : some xb ≠ r) (hx : xb < w.heap.size) (h : w.cell? ⟨xb, j, none⟩ = some v) : w'.cell? ⟨xb, j, none⟩ = some v := by
  have h1 : w'.heap[xb]? = ((w.alloc o).drew).heap[xb]? := hg.block xb (by simp; omega) hr
  exact (World.cell?_of_block (a := ⟨xb, j, none⟩) h1).trans (keep_alloc o hx h)
theorem below_grown {B : Nat} {w0 w w' : World} {o : Obj} {r : Option Nat} (hb : Below B w0 w) (hB : B ≤ w.heap.size) (hg : ((w.alloc o).drew).grownBy w' r) (hr : ∀ k, r = some k → B ≤ k) : Below B w0 w' :=
  have hg' : (w.alloc o).grownBy w' r := ⟨hg.os, hg.tape, hg.output, hg.size, hg.block⟩
  (hb.alloc hB o).grown hg' (by simp; omega) hr
def ints (l : List Int) : List Value := l.map (Value.int .i64)
/-- What ReadOperands gives. -/
def ReadOf (w : World) (zs bs : List Int) (e : Ending) (w' : World) : Prop :=
  ∃ v, e = .returned (.tuple #[v, .int .i64 (tot zs)]) ∧ w'.ownsRow w.heap.size 3 1 v zs.length (ints (rdAll zs bs)) ∧ Below w.heap.size w w'

set_option maxRecDepth 100000 in
set_option maxHeartbeats 4000000 in
theorem readOps (a : Addr) (xb xo : Nat) (zs bs : List Int) (cap l c : Nat) (w : World) (hrow : ∀ j (hj : j < zs.length), w.cell? (a.add j) = some (.int .i64 zs[j])) (hw : Widths zs)
    (hx : ∀ j (hj : j < bs.length), w.cell? ⟨xb, xo + j, none⟩ = some (.int .u8 bs[j])) (hbb : ∀ b ∈ bs, 0 ≤ b ∧ b < 256) (hbl : tot zs ≤ bs.length) (hl : bs.length ≤ l) (_hl2 : l ≤ 1000000000000) :
    Calls Tryf.prog 14 #[.slice (some a) zs.length cap, .slice (some ⟨xb, xo, none⟩) l c] w (ReadOf w zs bs) := by
  have HW := Lib.hid hw
  have HROW := Lib.hid hrow
  have HX := Lib.hid hx
  have HBB := Lib.hid hbb
  have hzl := hw.1
  obtain ⟨i3, hi, hz0, hz1, hz2⟩ := info_parts info3
  have HI := Lib.hid hi
  have HI0 := Lib.hid hz0
  have HI1 := Lib.hid hz1
  have HI2 := Lib.hid hz2
  clear hrow hx hw hbb hi hz0 hz1 hz2
  have hown0 : w.ownsRow w.heap.size 3 1 (.slice none 0 0) 0 (ints []) := World.ownsRow_nil _ _ _ _
  have HO0 := Lib.hid hown0
  clear hown0
  go_enter Tryf.func14, Tryf.ntmps14
  go_wp2
  go_loopw [4, 5, 10] (fun v ov iv wr => ∃ k o : Nat, k ≤ zs.length ∧ iv = .int .i64 k ∧ ov = .int .i64 o ∧ o ≤ 8 ∧ Hid ((o : Int) = tot (zs.take k)) ∧ wr.ownsRow w.heap.size 3 1 v k (ints (rdAll (zs.take k) bs)) ∧ Below w.heap.size w wr) (fun _ _ iv _ => zs.length - (intOf iv).toNat)
  case atStart => exact ⟨0, 0, Nat.zero_le _, rfl, rfl, by omega, Lib.hid (by simp [tot]), HO0.out, Below.refl _ _⟩
  case round =>
    obtain ⟨k, o, hk, rfl, rfl, ho8, HO, hown, hb⟩ := hrel
    obtain ⟨wo, hwo⟩ : ∃ wo : World, wo = wr := ⟨_, rfl⟩
    subst hwo
    have hbs := hb.size
    by_cases hlt : k < zs.length
    · have hck := (hb.cell (World.block_lt_of_cell? w _ (HROW.out k hlt))).trans (HROW.out k hlt)
      have hz := HW.out.2 zs[k] (List.getElem_mem _)
      have HS := Lib.hid (tot_snoc zs k hlt)
      have HSN := Lib.hid (rdAll_snoc zs bs k hlt HW.out.nonneg)
      have hT := HW.out.take (k + 1)
      have hoz : (o : Int) + zs[k] ≤ tot zs := by
        have h1 := HO.out
        have h3 := tot_append (zs.take (k + 1)) (zs.drop (k + 1))
        rw [List.take_append_drop] at h3
        have h4 := tot_nonneg (zs.drop (k + 1)) (fun z hz => HW.out.nonneg z (List.mem_of_mem_drop hz))
        have h5 := HS.out
        omega
      have hob : (o : Int) + zs[k] ≤ bs.length := by omega
      have HC : Hid (∀ j (hj : j < bs.length), wo.cell? ⟨xb, xo + j, none⟩ = some (.int .u8 bs[j])) := Lib.hid (fun j hj => (hb.cell (World.block_lt_of_cell? w _ (HX.out j hj))).trans (HX.out j hj))
      generalize hys : rdAll (zs.take k) bs = ys at *
      have HOWN := Lib.hid hown
      have HTOT := Lib.hid hT
      clear hown hys hoz hT hbl
      generalize zs[k] = z at *
      rcases hz with rfl | rfl | rfl
      · have g0 : o < bs.length := by omega
        have g0' : o < l := by omega
        have hc0 := HC.out o g0
        have hb0 := HBB.out bs[o] (List.getElem_mem _)
        have hE : Hid (rd 0 ((bs.drop (tot (zs.take k)).toNat).take (Int.toNat 1)) = bs[o]) := Lib.hid (by
          rw [show (tot (zs.take k)).toNat = o by have := HO.out; omega, show Int.toNat 1 = 1 from rfl, take1 bs o g0]; simp [rd])
        generalize bs[o] = b0 at *
        have HV : Hid (rdAll (zs.take (k + 1)) bs = ys ++ [b0]) := Lib.hid (by rw [HSN.out, hE.out])
        go_wp2_with ((at_builtin; refine wpList_append_own _ rfl _ _ 23 rfl w.heap.size 3 i3 (.int .i64 0) 1 8 Tryf.underlying23 HI.out HI0.out HI1.out HI2.out rfl (by decide) _ _ _ rfl (HOWN.out.alloc _) ⟨wo.heap.size, 0, none⟩ 1 1 [.int .i64 b0] rfl rfl (cell_one_new _ _ _) (by simp [Value.oneCell']) (by unfold maxLen; omega) (by omega) (by simp; omega) ?_; intro v' w5 hown5 hgrow5 _))
        have hb5 : Below w.heap.size w w5 := (hb.alloc hbs _).grown hgrow5 (by simp; omega) (fun k hk => (HOWN.out.lt k hk).1)
        clear hgrow5
        go_wp2
        go_roundw
        case rel =>
          refine ⟨k + 1, o + 1, hlt, by go_num, by go_num, by have := HTOT.out; have := HS.out; have := HO.out; omega, Lib.hid (by rw [HS.out]; have := HO.out; omega), ?_, hb5⟩
          rw [HV.out, ints, List.map_append]
          exact hown5
        case measure => simp [intOf]; omega
      · have g0 : o < bs.length := by omega
        have g1 : o + 1 < bs.length := by omega
        have g0' : o < l := by omega
        have g1' : o + 1 < l := by omega
        have hc0 := HC.out o g0
        have hc1 := HC.out (o + 1) g1
        have hb0 := HBB.out bs[o] (List.getElem_mem _)
        have hb1 := HBB.out bs[o + 1] (List.getElem_mem _)
        have hE : Hid (rd 0 ((bs.drop (tot (zs.take k)).toNat).take (Int.toNat 2)) = bs[o] * 256 + bs[o + 1]) := Lib.hid (by
          rw [show (tot (zs.take k)).toNat = o by have := HO.out; omega, show Int.toNat 2 = 2 from rfl, take2 bs o g1]; simp [rd])
        generalize bs[o] = b0 at *
        generalize bs[o + 1] = b1 at *
        have HV : Hid (rdAll (zs.take (k + 1)) bs = ys ++ [b0 * 256 + b1]) := Lib.hid (by rw [HSN.out, hE.out])
        have hmax : k + 1 ≤ maxLen := by unfold maxLen; omega
        have hxw : xb < w.heap.size := World.block_lt_of_cell? w _ (HX.out o g0)
        have hxb : xb < wo.heap.size := by omega
        have hxr : some xb ≠ u4.ownBlock := fun e => by have := (HOWN.out.lt xb e.symm).1; omega
        go_wp2
        have s05 : (0 : Int) ≤ (o : Int) := by omega
        have s06 : (o : Int) < (l : Int) := by omega
        have t11 : (0 : Int) ≤ (o : Int) + 1 := by omega
        have t12 : (o : Int) + 1 < (l : Int) := by omega
        have y1 : bits .or .i64 b1 (b0 * 256) = b0 * 256 + b1 := by rw [i64_low 8 b1 (b0 * 256) (by decide) (by omega) (by omega) (by omega) (by omega) (by omega)]; omega
        have v0 := wraps_i64 b0 (by omega) (by omega)
        have x0 := wraps_i64 (b0 * 256) (by omega) (by omega)
        have v1 := wraps_i64 b1 (by omega) (by omega)
        have t13 : ((o : Int) + 1).toNat = o + 1 := by omega
        have t14 : IntKind.i64.wrap ((o : Int) + 1) = (o : Int) + 1 := IntWalk.i64_in _ (by constructor <;> omega)
        go_region_held3 (fun w' => w'.cell? ⟨xb, xo + o, none⟩ = some (.int .u8 b0) ∧ w'.cell? ⟨xb, xo + (o + 1), none⟩ = some (.int .u8 b1)) (first | exact ⟨hc0, hc1⟩ | exact ⟨keep_alloc _ hxb hc0, keep_alloc _ hxb hc1⟩ | exact ⟨keep_grown hgrow5 hxr hxb hc0, keep_grown hgrow5 hxr hxb hc1⟩)
          ((refine step_append_lies _ (by rfl) _ _ _ (by rfl) w.heap.size 3 i3 _ 1 8 Tryf.underlying23 HI.out HI0.out HI1.out HI2.out rfl (by omega) u4 k (ints ys) (by rfl) ((HOWN.out.alloc _).drew)
             ⟨wo.heap.size, 0, none⟩ 1 1 [_] (by rfl) (by rfl) (news1 _ _ _) (by simp [Value.oneCell']) (by omega) hmax (by omega) (by simp; omega) (wo.heap.size + 1) (by simp) ?_; intro gg cap5 w5 hown5 hgrow5 hat5 hlt5))
        all_goals
          have hb5 : Below w.heap.size w w5 := below_grown hb hbs hgrow5 (fun k hk => (HOWN.out.lt k hk).1)
          have HB5 := Lib.hid hb5
          clear hgrow5 hat5 hlt5 hb5
          clear v0
          clear v1
          clear x0
          clear y1
          clear t13
          clear t14
          go_wp2
          go_roundw
          case rel =>
            refine ⟨k + 1, o + 2, hlt, by go_num, by go_num, by have := HTOT.out; have := HS.out; have := HO.out; omega, Lib.hid (by rw [HS.out]; have := HO.out; omega), ?_, HB5.out⟩
            rw [HV.out, ints, List.map_append]
            exact hown5
          case measure => simp [intOf]; omega
      · have g0 : o < bs.length := by omega
        have g1 : o + 1 < bs.length := by omega
        have g2 : o + 2 < bs.length := by omega
        have g3 : o + 3 < bs.length := by omega
        have hc0 := HC.out o g0
        have hc1 := HC.out (o + 1) g1
        have hc2 := HC.out (o + 2) g2
        have hc3 := HC.out (o + 3) g3
        have hb0 := HBB.out bs[o] (List.getElem_mem _)
        have hb1 := HBB.out bs[o + 1] (List.getElem_mem _)
        have hb2 := HBB.out bs[o + 2] (List.getElem_mem _)
        have hb3 := HBB.out bs[o + 3] (List.getElem_mem _)
        have hE : Hid (rd 0 ((bs.drop (tot (zs.take k)).toNat).take (Int.toNat 4)) = bs[o] * 16777216 + (bs[o + 1] * 65536 + (bs[o + 2] * 256 + bs[o + 3]))) := Lib.hid (by
          rw [show (tot (zs.take k)).toNat = o by have := HO.out; omega, show Int.toNat 4 = 4 from rfl, take4 bs o g3]; simp [rd]; omega)
        generalize bs[o] = b0 at *
        generalize bs[o + 1] = b1 at *
        generalize bs[o + 2] = b2 at *
        generalize bs[o + 3] = b3 at *
        have HV : Hid (rdAll (zs.take (k + 1)) bs = ys ++ [b0 * 16777216 + (b1 * 65536 + (b2 * 256 + b3))]) := Lib.hid (by rw [HSN.out, hE.out])
        have hmax : k + 1 ≤ maxLen := by unfold maxLen; omega
        have hxw : xb < w.heap.size := World.block_lt_of_cell? w _ (HX.out o g0)
        have hxb : xb < wo.heap.size := by omega
        have hxr : some xb ≠ u4.ownBlock := fun e => by have := (HOWN.out.lt xb e.symm).1; omega
        go_wp2
        have s05 : (0 : Int) ≤ (o : Int) := by omega
        have s06 : (o : Int) < (l : Int) := by omega
        have t11 : (0 : Int) ≤ (o : Int) + 1 := by omega
        have t12 : (o : Int) + 1 < (l : Int) := by omega
        have t21 : (0 : Int) ≤ (o : Int) + 2 := by omega
        have t22 : (o : Int) + 2 < (l : Int) := by omega
        have t31 : (0 : Int) ≤ (o : Int) + 3 := by omega
        have t32 : (o : Int) + 3 < (l : Int) := by omega
        have y1 : bits .or .i64 b3 (b2 * 256) = b2 * 256 + b3 := by rw [i64_low 8 b3 (b2 * 256) (by decide) (by omega) (by omega) (by omega) (by omega) (by omega)]; omega
        have y2 : bits .or .i64 (b2 * 256 + b3) (b1 * 65536) = b1 * 65536 + (b2 * 256 + b3) := by rw [i64_low 16 (b2 * 256 + b3) (b1 * 65536) (by decide) (by omega) (by omega) (by omega) (by omega) (by omega)]; omega
        have y3 : bits .or .i64 (b1 * 65536 + (b2 * 256 + b3)) (b0 * 16777216) = b0 * 16777216 + (b1 * 65536 + (b2 * 256 + b3)) := by rw [i64_low 24 (b1 * 65536 + (b2 * 256 + b3)) (b0 * 16777216) (by decide) (by omega) (by omega) (by omega) (by omega) (by omega)]; omega
        have v0 := wraps_i64 b0 (by omega) (by omega)
        have x0 := wraps_i64 (b0 * 16777216) (by omega) (by omega)
        have v1 := wraps_i64 b1 (by omega) (by omega)
        have x1 := wraps_i64 (b1 * 65536) (by omega) (by omega)
        have v2 := wraps_i64 b2 (by omega) (by omega)
        have x2 := wraps_i64 (b2 * 256) (by omega) (by omega)
        have v3 := wraps_i64 b3 (by omega) (by omega)
        have t13 : ((o : Int) + 1).toNat = o + 1 := by omega
        have t23 : ((o : Int) + 2).toNat = o + 2 := by omega
        have t33 : ((o : Int) + 3).toNat = o + 3 := by omega
        have t14 : IntKind.i64.wrap ((o : Int) + 1) = (o : Int) + 1 := IntWalk.i64_in _ (by constructor <;> omega)
        have t24 : IntKind.i64.wrap ((o : Int) + 2) = (o : Int) + 2 := IntWalk.i64_in _ (by constructor <;> omega)
        have t34 : IntKind.i64.wrap ((o : Int) + 3) = (o : Int) + 3 := IntWalk.i64_in _ (by constructor <;> omega)
        go_region_held3 (fun w' => w'.cell? ⟨xb, xo + o, none⟩ = some (.int .u8 b0) ∧ w'.cell? ⟨xb, xo + (o + 1), none⟩ = some (.int .u8 b1) ∧ w'.cell? ⟨xb, xo + (o + 2), none⟩ = some (.int .u8 b2) ∧ w'.cell? ⟨xb, xo + (o + 3), none⟩ = some (.int .u8 b3)) (first | exact ⟨hc0, hc1, hc2, hc3⟩ | exact ⟨keep_alloc _ hxb hc0, keep_alloc _ hxb hc1, keep_alloc _ hxb hc2, keep_alloc _ hxb hc3⟩ | exact ⟨keep_grown hgrow5 hxr hxb hc0, keep_grown hgrow5 hxr hxb hc1, keep_grown hgrow5 hxr hxb hc2, keep_grown hgrow5 hxr hxb hc3⟩)
          ((refine step_append_lies _ (by rfl) _ _ _ (by rfl) w.heap.size 3 i3 _ 1 8 Tryf.underlying23 HI.out HI0.out HI1.out HI2.out rfl (by omega) u4 k (ints ys) (by rfl) ((HOWN.out.alloc _).drew)
             ⟨wo.heap.size, 0, none⟩ 1 1 [_] (by rfl) (by rfl) (news1 _ _ _) (by simp [Value.oneCell']) (by omega) hmax (by omega) (by simp; omega) (wo.heap.size + 1) (by simp) ?_; intro gg cap5 w5 hown5 hgrow5 hat5 hlt5))
        all_goals
          have hb5 : Below w.heap.size w w5 := below_grown hb hbs hgrow5 (fun k hk => (HOWN.out.lt k hk).1)
          have HB5 := Lib.hid hb5
          clear hgrow5 hat5 hlt5 hb5
          clear v0
          clear v1
          clear v2
          clear v3
          clear x0
          clear x1
          clear x2
          clear y1
          clear y2
          clear y3
          clear t13
          clear t14
          clear t23
          clear t24
          clear t33
          clear t34
          go_wp2
          go_roundw
          case rel =>
            refine ⟨k + 1, o + 4, hlt, by go_num, by go_num, by have := HTOT.out; have := HS.out; have := HO.out; omega, Lib.hid (by rw [HS.out]; have := HO.out; omega), ?_, HB5.out⟩
            rw [HV.out, ints, List.map_append]
            exact hown5
          case measure => simp [intOf]; omega
    · obtain rfl : k = zs.length := by omega
      rw [List.take_length] at hown
      have HOWN := Lib.hid hown
      have HO2 : Hid ((o : Int) = tot zs) := Lib.hid (by have := HO.out; rwa [List.take_length] at this)
      clear hown
      go_wp2
      go_ret2
      exact ⟨u4, by rw [← HO2.out]; rfl, HOWN.out, hb⟩
end Go.Proofs.YtjnoodilpffbiaaFmt.Mk
