/- The laws' own assembler: an instruction for each entry. -/
import Derived.Test.YtjnoodilpffbiaaFmtAsm
namespace Go.Proofs.YtjnoodilpffbiaaFmt.Ft
open Go.ChangeShapes Go.WideShapes Go.ChangeAt Go.RowKit Go.Blk Go.Mk Go.LawFrame Go.Proofs.YtjnoodilpffbiaaFmt.Mk Go.Fmt Go.Proofs.YtjnoodilpffbiaaFmt.Fm

/-- What zzAssemble gives. -/
def AsmOf (w : World) (n next : Nat) (e : Ending) (w' : World) : Prop :=
  ∃ (insts : List (List Int)) (v : Value) (next' : Nat), e = .returned (.tuple #[v, .int .i64 (next' : Int)]) ∧ insts.length = n ∧ (∀ i ∈ insts, Ins i) ∧ insts.flatten.length ≤ 9 * n ∧ next' ≤ next + 2 * n ∧
    w'.ownsRow w.heap.size 5 1 v insts.flatten.length (Mk.bytes insts.flatten) ∧ Below w.heap.size w w'
theorem row_old {w w' : World} {g i : Nat} {zs : List Int} (h : RowIs w g i zs) (hb : Below w.heap.size w w') (_ : w.heap.size ≤ w'.heap.size) : RowIs w' g i zs := h.old hb
theorem u8op (op : Nat) (h : op < 42) : IntKind.u8.wrap (op : Int) = (op : Int) := by
  simp [IntKind.wrap, IntKind.signed, IntKind.bits]
  omega

set_option maxRecDepth 100000 in
set_option maxHeartbeats 4000000 in
theorem asm (os : List UInt8) (xs : List Int) (next : Nat) (q pa : Option Addr) (c ca : Nat) (w : World) (hq : RowAt w q os.length os) (hxs : Row64 w pa xs) (hos : os.length ≤ 65536) (hxl : xs.length ≤ 65536) (hnx : next ≤ 1000000) (htab : ∀ op, op < 42 → RowIs w 0 op (widthsOf op)) :
    Calls Tryf.prog 9 #[.slice q os.length c, .slice pa xs.length ca, .int .i64 (next : Int)] w (AsmOf w os.length next) := by
  obtain ⟨i8, hi8⟩ := info_parts Fm.info5
  have H8 := Lib.hid hi8
  have HQ := Lib.hid hq
  have HXS := Lib.hid hxs
  have HT := Lib.hid htab
  have hI := Lib.hid info3
  clear hq hxs htab hi8
  go_enter Tryf.func9, Tryf.ntmps9
  go_wp2
  go_loopw [2, 8, 10] (fun nv cv iv wr => ∃ (i nx : Nat) (insts : List (List Int)), i ≤ os.length ∧ iv = .int .i64 i ∧ nv = .int .i64 nx ∧ nx ≤ next + 2 * i ∧ Hid (insts.length = i ∧ (∀ x ∈ insts, Ins x) ∧ insts.flatten.length ≤ 9 * i) ∧
    Hid (wr.ownsRow w.heap.size 5 1 cv insts.flatten.length (Mk.bytes insts.flatten)) ∧ Below w.heap.size w wr) (fun _ _ iv _ => os.length - (intOf iv).toNat)
  case atStart => exact ⟨0, next, [], Nat.zero_le _, rfl, rfl, by omega, Lib.hid ⟨rfl, by simp, by simp⟩, Lib.hid (World.ownsRow_nil _ _ _ _), Below.refl _ _⟩
  case round =>
    obtain ⟨i, nx, insts, hi, rfl, rfl, hnn, HIN, HO, hb⟩ := hrel
    obtain ⟨wo, hwo⟩ : ∃ wo : World, wo = wr := ⟨_, rfl⟩
    subst hwo
    have hbs := hb.size
    by_cases hlt : i < os.length
    · have hrow := HQ.out
      rcases hrow with ⟨_, _, h0⟩ | ⟨x, rfl, _, hx⟩
      · rw [h0] at hlt; simp at hlt
      have hx0 := hx i hlt
      obtain ⟨y, hy⟩ : ∃ y, y = os[i].toNat := ⟨_, rfl⟩
      have hx1 : wo.cell? (x.add i) = some (.int .u8 (y : Int)) := by rw [hy]; exact (hb.cell (World.block_lt_of_cell? w _ hx0)).trans hx0
      have hy256 : y < 256 := by rw [hy]; exact UInt8.toNat_lt _
      obtain ⟨op, hop⟩ : ∃ op, op = y % 42 := ⟨_, rfl⟩
      have hop42 : op < 42 := by omega
      have hmod : (y : Int) % 42 = (op : Int) := by omega
      obtain ⟨az, capz, hz0, hz1, hz2, hz3⟩ := row_old (HT.out op hop42) hb hbs
      have hW := rows_ok op hop42
      obtain ⟨zs, hzs⟩ : ∃ zs, zs = widthsOf op := ⟨_, rfl⟩
      rw [← hzs] at hz0 hz1 hz3 hW
      have HRI : Hid (RowIs wo 0 op zs) := Lib.hid ⟨az, capz, hz0, hz1, hz2, hz3⟩
      have HZS := Lib.hid hzs
      have HW := Lib.hid hW
      have hzl := hW.1
      have s1 : (0 : Int) ≤ (i : Int) := by omega
      have s2 : (i : Int) < (os.length : Int) := by omega
      have s3 : (0 : Int) ≤ (op : Int) := by omega
      have s4 : (op : Int) < 42 := by omega
      have hu8 := u8op op hop42
      clear hx hx0 hy hop hz1 hz3 hzs hW
      go_wp2_with ((at_make; refine make_blk rfl _ 23 rfl 3 Tryf.underlying23 (.int .i64 0) 8 hI.out _ zs.length rfl rfl (by omega) (by omega) rfl ?_; intro w1 hblk1 hb1))
      have HBK : Hid (Blk w1 wo.heap.size 3 (ints (List.replicate zs.length 0))) := Lib.hid (by rw [ints, List.map_replicate]; exact hblk1)
      have HB1 := Lib.hid hb1
      clear hblk1 hb1 hmod
      go_loopw [2, 15] (fun nv jv wr2 => ∃ (j nx2 : Nat) (ys : List Int), j ≤ zs.length ∧ jv = .int .i64 j ∧ nv = .int .i64 nx2 ∧ nx2 ≤ nx + j ∧ Hid (ys.length = zs.length) ∧ Hid (Blk wr2 wo.heap.size 3 (ints ys)) ∧ Hid (Below wo.heap.size wo wr2)) (fun _ jv _ => zs.length - (intOf jv).toNat)
      case atStart => exact ⟨0, nx, List.replicate zs.length 0, Nat.zero_le _, rfl, rfl, by omega, Lib.hid (by simp), HBK, HB1⟩
      case round =>
        obtain ⟨j, nx2, ys, hj, rfl, rfl, hn2, HYL, HYB, HB2⟩ := hrel
        obtain ⟨wp, hwp⟩ : ∃ wp : World, wp = wr := ⟨_, rfl⟩
        subst hwp
        by_cases hlj : j < zs.length
        · by_cases hx0 : xs.length = 0
          · have hd0 : decide (0 < xs.length) = false := by rw [hx0]; rfl
            clear hx0
            go_wp2
            go_roundw
            case rel => exact ⟨j + 1, nx2, ys, hlj, by go_num, rfl, by omega, HYL, HYB, HB2⟩
            case measure => simp [intOf]; omega
          · have hxp : 0 < xs.length := by omega
            obtain ⟨xa, rfl, hxa⟩ : ∃ xa, pa = some xa ∧ ∀ j (hj : j < xs.length), w.cell? (xa.add j) = some (.int .i64 xs[j]) := by
              rcases HXS.out with ⟨_, h0⟩ | h
              · rw [h0] at hx0; simp at hx0
              · exact h
            obtain ⟨m, hm⟩ : ∃ m, m = nx2 % xs.length := ⟨_, rfl⟩
            have hml : m < xs.length := by rw [hm]; exact Nat.mod_lt _ (by omega)
            have hmod2 : (nx2 : Int) % (xs.length : Int) = (m : Int) := by rw [hm]; rfl
            have hcx := hxa m hml
            have hcx1 := (hb.cell (World.block_lt_of_cell? w _ hcx)).trans hcx
            have hcx2 := (HB2.out.cell (World.block_lt_of_cell? wo _ hcx1)).trans hcx1
            obtain ⟨z, hz⟩ : ∃ z, z = xs[m] := ⟨_, rfl⟩
            rw [← hz] at hcx2
            have hcy : ∃ u, wp.cell? ⟨wo.heap.size, j, none⟩ = some u := ⟨_, HYB.out.cell (j := j) (by rw [ints, List.length_map, HYL.out]; exact hlj)⟩
            obtain ⟨u, hcy⟩ := hcy
            have hfy := HYB.out.frz j
            have t1 : (0 : Int) ≤ (m : Int) := by omega
            have t2 : (m : Int) < (xs.length : Int) := by omega
            have t3 : (0 : Int) ≤ (j : Int) := by omega
            have t4 : (j : Int) < (zs.length : Int) := by omega
            have HSET : Hid (Blk (wp.setCell ⟨wo.heap.size, j, none⟩ (.int .i64 z)) wo.heap.size 3 (ints (ys.set j z))) := Lib.hid (by rw [ints, List.map_set]; exact HYB.out.set j _)
            have HBS : Hid (Below wo.heap.size wo (wp.setCell ⟨wo.heap.size, j, none⟩ (.int .i64 z))) := Lib.hid (HB2.out.setCell (Nat.le_refl _) _)
            clear hx0 hm hcx hcx1 hz hxa hml
            go_wp2
            go_roundw
            case rel => exact ⟨j + 1, nx2 + 1, ys.set j z, hlj, by go_num, by go_num, by omega, Lib.hid (by rw [List.length_set]; exact HYL.out), HSET, HBS⟩
            case measure => simp [intOf]; omega
        · obtain rfl : j = zs.length := by omega
          have HMK : Hid (Calls Tryf.prog 13 #[.int .u8 op, .slice (some ⟨wo.heap.size, 0, none⟩) zs.length zs.length] wp fun e w' => e = .returned (.slice (some ⟨wp.heap.size, 0, none⟩) ((body zs ys).length + 1) ((body zs ys).length + 1)) ∧ Blk w' wp.heap.size 5 (Mk.bytes ((op : Int) :: body zs ys)) ∧ Below wp.heap.size wp w') := Lib.hid (by
            have h := makeInstr op zs ys wo.heap.size zs.length wp hop42 (HRI.out.old HB2.out) HW.out (fun j hj => HYB.out.cell (vs := ints ys) (j := j) (by simpa [ints] using hj) |>.trans (by simp [ints])) (by rw [HYL.out]; exact Nat.le_refl _)
            rw [HYL.out] at h
            exact h)
          have hbl : (body zs ys).length ≤ 8 := by
            have h1 := body_length zs ys HW.out.nonneg
            have h2 := HW.out.take zs.length
            rw [List.take_length] at h2
            omega
          have hfl := HIN.out.2.2
          obtain ⟨fl, hfl2⟩ : ∃ fl, fl = insts.flatten.length := ⟨_, rfl⟩
          rw [← hfl2] at hfl
          have HFL := Lib.hid hfl2
          clear hfl2
          go_wp2_with (fail)
          refine HMK.out.mono ?_
          rintro e w2 ⟨rfl, hblk2, hb2⟩
          have hO2 : w2.ownsRow w.heap.size 5 1 u8 fl (Mk.bytes insts.flatten) := by
            rw [HFL.out]
            exact Go.Fmt.ownsRow_below HO.out (fun k hk => (hb2.block k (by have := (HO.out.lt k hk).2; have := HB2.out.size; omega)).trans (HB2.out.block k (HO.out.lt k hk).2))
          have HO2 := Lib.hid hO2
          have HB3 : Hid (Below w.heap.size w w2) := Lib.hid (hb.trans ((HB2.out.trans (hb2.mono HB2.out.size)).mono hbs))
          have HNW : Hid (∀ j u, (Mk.bytes ((op : Int) :: body zs ys))[j]? = some u → w2.cell? ((⟨wp.heap.size, 0, none⟩ : Addr).add j) = some u) := Lib.hid (fun j u hj => by
            have h := hblk2.cell? j
            rw [hj] at h
            by_cases h0 : j = 0
            · subst h0; simpa [Addr.add] using h
            · simpa [Addr.add, h0] using h)
          clear hblk2 hb2 hO2 HMK
          go_wp2_with ((at_builtin; refine wpList_append_lies _ rfl _ _ 22 rfl w.heap.size 5 i8 (.int .u8 0) 1 1 Tryf.underlying22 H8.out.1 H8.out.2.1 H8.out.2.2.1 H8.out.2.2.2 rfl (by decide) u8 fl (Mk.bytes insts.flatten) rfl HO2.out ⟨wp.heap.size, 0, none⟩ ((body zs ys).length + 1) ((body zs ys).length + 1) (Mk.bytes ((op : Int) :: body zs ys)) rfl (by simp [Mk.bytes]) HNW.out (by simp [Mk.bytes, Value.oneCell']) (by omega) (by unfold maxLen; omega) (by omega) HB3.out.size w2.heap.size rfl ?_; intro g5 cap5 w5 hown5 hgrow5 hat5 hlt5; have HO5 := Lib.hid hown5; have HG5 := Lib.hid hgrow5; clear hown5 hgrow5 hat5 hlt5))
          have hb5 : Below w.heap.size w w5 := HB3.out.grown HG5.out HB3.out.size (fun k hk => (HO2.out.lt k hk).1)
          have HB5 := Lib.hid hb5
          clear hb5
          go_roundw
          case rel =>
            refine ⟨i + 1, nx2, insts ++ [(op : Int) :: body zs ys], hlt, by go_num, rfl, by omega, Lib.hid ⟨by simp [HIN.out.1], fun x hx => ?_, by rw [List.flatten_append, List.length_append, ← HFL.out, List.flatten_cons, List.flatten_nil, List.append_nil, List.length_cons]; omega⟩, ?_, HB5.out⟩
            · rcases List.mem_append.1 hx with hx | hx
              · exact HIN.out.2.1 x hx
              · simp only [List.mem_singleton] at hx
                subst hx
                exact ⟨op, _, hop42, rfl, by rw [← HZS.out]; exact body_length zs ys HW.out.nonneg, body_byte zs ys⟩
            · have e1 : (insts ++ [(op : Int) :: body zs ys]).flatten = insts.flatten ++ ((op : Int) :: body zs ys) := by simp
              rw [e1, List.length_append, List.length_cons, ← HFL.out, Mk.bytes, List.map_append]
              exact HO5
          case measure => simp [intOf]; omega
    · obtain rfl : i = os.length := by omega
      go_wp2
      go_ret2
      exact ⟨insts, _, nx, rfl, HIN.out.1, HIN.out.2.1, HIN.out.2.2, hnn, HO.out, hb⟩
end Go.Proofs.YtjnoodilpffbiaaFmt.Ft
