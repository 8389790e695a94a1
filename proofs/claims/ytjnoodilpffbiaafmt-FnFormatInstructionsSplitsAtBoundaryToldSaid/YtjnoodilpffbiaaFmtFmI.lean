/- FormatInstructions: a line an instruction. -/
import Derived.Test.YtjnoodilpffbiaaFmtRd
import Derived.Test.YtjnoodilpffbiaaFmtFmtF
namespace Go.Mk
open Go.Extern.Stop Go.Stop Go.Extern
/-- One instruction: an opcode and its operands' bytes. -/
def widthsOf (op : Nat) : List Int := Go.Proofs.YtjnoodilpffbiaaFmt.Mk.opRows.getD op []
def Ins (i : List Int) : Prop := ∃ (op : Nat) (r : List Int), op < 42 ∧ i = (op : Int) :: r ∧ (r.length : Int) = tot (widthsOf op) ∧ ∀ b ∈ r, 0 ≤ b ∧ b < 256
end Go.Mk
namespace Go.Proofs.YtjnoodilpffbiaaFmt.Ft
open Go.ChangeShapes Go.WideShapes Go.ChangeAt Go.RowKit Go.Blk Go.Mk Go.LawFrame Go.Extern.Stop Go.Stop Go.Extern Go.Proofs.YtjnoodilpffbiaaFmt.Mk

def lineOf (F : Interp) (nm : Nat → ByteArray) (x : Int) (op : Nat) : List Int → ByteArray
  | [] => text0 F x (nm op)
  | [y] => text1 F x (nm op) y
  | y :: z :: _ => text2 F x (nm op) y z
def lineAt (F : Interp) (nm : Nat → ByteArray) (x : Int) (i : List Int) : Value := .string (lineOf F nm x (i.headD 0).toNat (rdAll (widthsOf (i.headD 0).toNat) i.tail))
def lines (F : Interp) (nm : Nat → ByteArray) (p : Int) : Nat → List (List Int) → List Value
  | _, [] => []
  | off, i :: rest => lineAt F nm (wrap64 (p + (off : Int))) i :: lines F nm p (off + i.length) rest
theorem lines_length (F : Interp) (nm : Nat → ByteArray) (p : Int) : ∀ (l : List (List Int)) (off : Nat), (lines F nm p off l).length = l.length
  | [], _ => rfl
  | i :: r, off => by simp [lines, lines_length F nm p r]
theorem lines_append (F : Interp) (nm : Nat → ByteArray) (p : Int) : ∀ (a b : List (List Int)) (off : Nat), lines F nm p off (a ++ b) = lines F nm p off a ++ lines F nm p (off + a.flatten.length) b
  | [], b, off => by simp [lines]
  | i :: r, b, off => by simp [lines, lines_append F nm p r b, Nat.add_assoc]
theorem lines_shift (F : Interp) (nm : Nat → ByteArray) (p : Int) (m : Nat) : ∀ (a : List (List Int)) (off : Nat), lines F nm (wrap64 (p + (m : Int))) off a = lines F nm p (m + off) a
  | [], _ => rfl
  | i :: r, off => by
    have e : wrap64 (wrap64 (p + (m : Int)) + (off : Int)) = wrap64 (p + ((m + off : Nat) : Int)) := by unfold wrap64; omega
    simp only [lines, e, lines_shift F nm p m r, Nat.add_assoc]
/-- A call of a function that is a stop, inside a region. -/
theorem step_stop {P : Program} {w : World} {ops : Array Oper} {o : Oper} {a : Act} {K : Act → World → Prop} {Q : Exit → Act → World → Prop} {E : Prop} (hgd : o.guard = none) (f : FuncId) (x y : Operand) (ats : Array TypeId) (vx vy : Value)
    (ho : o.op = .call { callee := .value (.func f), args := #[x, y], argTypes := ats }) (hx : a.eval x = vx) (hy : a.eval y = vy) (v : Value) (w' : World) (hrun : (callFunc f #[vx, vy]).run P w = .ok (.value v) w') (h : K (a.put o.dst v) w') :
    if Region.wanted o (yielded ops a.tmps) = true then Oper.wp P o a w K Q else E := by
  have hw : Region.wanted o (yielded ops a.tmps) = true := by simp [Region.wanted, hgd]
  rw [if_pos hw]
  have he : (execOp a.eval o).run P w = .ok (.value v) w' := by
    have hf : a.eval (.func f) = .func (.func f) #[] #[] := rfl
    unfold execOp
    simp [ho, resolve, invoke, Deferred.ofValue, hf, hx, hy, hrun]
  unfold Oper.wp
  rw [he]
  exact h
theorem news_k (w : World) (cs : Array Value) (e : TypeId) : ∀ j u, cs.toList[j]? = some u → (w.alloc (.cells cs e)).cell? ((⟨w.heap.size, 0, none⟩ : Addr).add j) = some u := fun j u hj =>
  World.news_of_block (t := e) (fr := (0, 0)) (heap_alloc_new w _) j u (by simpa using hj)
theorem news_d (w : World) (cs : Array Value) (e : TypeId) : ∀ j u, cs.toList[j]? = some u → ((w.alloc (.cells cs e)).drew).cell? ((⟨w.heap.size, 0, none⟩ : Addr).add j) = some u := fun j u hj => news_k w cs e j u hj
theorem wrap_eq (x : Int) : IntKind.i64.wrap x = wrap64 x := by
  simp [IntKind.wrap, IntKind.signed, IntKind.bits, wrap64]
  try omega
theorem own_some {w : World} {B e n : Nat} {v : Value} {xs : List Value} (h : w.ownsRow B e 1 v n xs) (hn : 0 < n) : ∃ g cap, v = .slice (some ⟨g, 0, none⟩) n cap ∧ B ≤ g ∧ g < w.heap.size ∧ ∀ j u, xs[j]? = some u → w.cell? ⟨g, j, none⟩ = some u := by
  have hlt := h.lt
  obtain ⟨h0, ⟨rfl, rfl⟩ | ⟨g, cap, cur, rfl, h2, h3, h4, h5, h6, h7⟩⟩ := h
  · omega
  · refine ⟨g, cap, rfl, h2, (hlt g rfl).2, fun j u hj => ?_⟩
    have hj' : cur[j]? = some u := by
      rw [← h7, List.getElem?_take] at hj
      split at hj
      · simpa using hj
      · cases hj
    simp [World.cell?, h3, hj']
theorem lines_snoc (F : Interp) (nm : Nat → ByteArray) (p : Int) (A : List (List Int)) (op : Nat) (r zs ys : List Int) (off : Nat) (h1 : A.flatten.length = off) (h2 : zs = widthsOf op) (h3 : ys = rdAll zs r) :
    lines F nm p 0 (A ++ [(op : Int) :: r]) = lines F nm p 0 A ++ [.string (lineOf F nm (wrap64 (p + (off : Int))) op ys)] := by
  subst h2 h3
  rw [lines_append, Nat.zero_add, h1]
  simp [lines, lineAt]
theorem news_s (w : World) (v : Value) (n : Nat) (e : TypeId) (hn : w.heap.size = n) : ∀ j u, [v][j]? = some u → (w.alloc (.cells #[v] e)).cell? ((⟨n, 0, none⟩ : Addr).add j) = some u := by
  subst hn
  exact cell_one_new w v e
theorem size8 : (Tryf.prog.info? 5).map (·.size) = some 1 := by kernel_rfl
theorem elem8 : Tryf.prog.elem 22 = 5 := by kernel_rfl
theorem und8 : Tryf.prog.underlying 22 = some (.slice (Tryf.prog.elem 22)) := by rw [elem8]; exact Tryf.underlying22
theorem news_dd (w : World) (v : Value) (n : Nat) (e : TypeId) (hn : w.heap.size = n) : ∀ j u, [v][j]? = some u → ((w.alloc (.cells #[v] e)).drew.drew).cell? ((⟨n, 0, none⟩ : Addr).add j) = some u := fun j u hj => news_s w v n e hn j u hj
theorem infoStr : (Tryf.prog.info? 9).map (fun i => (i.zero, i.size, i.bytes)) = some (some (.string .empty), 1, 16) := by kernel_rfl
theorem rows_ok : ∀ op, op < 42 → Widths (widthsOf op) := by
  intro op h
  have : ∀ op : Fin 42, (widthsOf op).length ≤ 2 ∧ ∀ z ∈ widthsOf op, z = 1 ∨ z = 2 ∨ z = 4 := by decide
  exact this ⟨op, h⟩

set_option maxRecDepth 100000 in
set_option maxHeartbeats 4000000 in
theorem fmtI (F : Interp) (nm : Nat → ByteArray) (insts : List (List Int)) (hI : ∀ i ∈ insts, Ins i) (p : Int) (xb c : Nat) (w : World) (hF : F.answers w.tape) (hx : ∀ j (hj : j < insts.flatten.length), w.cell? ⟨xb, j, none⟩ = some (.int .u8 insts.flatten[j]))
    (hlc : insts.flatten.length ≤ c) (hl : insts.flatten.length ≤ 1000000000) (hin : insts.length ≤ 1000000) (htab : ∀ op, op < 42 → RowIs w 0 op (widthsOf op)) (hnm : ∀ op, op < 42 → w.cell? ⟨1, op, none⟩ = some (.string (nm op))) :
    Calls Tryf.prog 10 #[.slice (some ⟨xb, 0, none⟩) insts.flatten.length c, .int .i64 p] w fun e w' => ∃ v, e = .returned v ∧ w'.ownsRow w.heap.size 9 1 v insts.length (lines F nm p 0 insts) ∧ Below w.heap.size w w' := by
  obtain ⟨iS, hiS⟩ := info_parts infoStr
  have HS := Lib.hid hiS
  have HF := Lib.hid hF
  have HX := Lib.hid hx
  have HI := Lib.hid hI
  have HT := Lib.hid htab
  have HN := Lib.hid hnm
  clear hF hx hI htab hnm hiS
  obtain ⟨L, hL⟩ : ∃ L, L = insts.flatten.length := ⟨_, rfl⟩
  rw [← hL] at hlc hl ⊢
  have HL := Lib.hid hL
  clear hL
  go_enter Tryf.func10, Tryf.ntmps10
  go_wp2_with (fail)
  go_loopw [5, 6] (fun v iv wr => ∃ (A B : List (List Int)) (off : Nat), iv = .int .i64 off ∧ off ≤ L ∧ Hid (insts = A ++ B ∧ A.flatten.length = off) ∧ Hid (wr.ownsRow w.heap.size 9 1 v A.length (lines F nm p 0 A)) ∧ Below w.heap.size w wr) (fun _ iv _ => L - (intOf iv).toNat)
  case atStart => exact ⟨[], insts, 0, rfl, Nat.zero_le _, Lib.hid ⟨rfl, rfl⟩, Lib.hid (World.ownsRow_nil _ _ _ _), Below.refl _ _⟩
  case round =>
    obtain ⟨A, B, off, rfl, hoff, HAB, HO, hb⟩ := hrel
    obtain ⟨wo, hwo⟩ : ∃ wo : World, wo = wr := ⟨_, rfl⟩
    subst hwo
    have hbs := hb.size
    by_cases hlt : off < L
    · have hB : ∃ i B', B = i :: B' := by
        cases B with
        | nil =>
          have h1 := HAB.out.1
          have h2 := HAB.out.2
          have h3 := HL.out
          rw [h1, List.append_nil, h2] at h3
          omega
        | cons i B' => exact ⟨i, B', rfl⟩
      obtain ⟨i, B', rfl⟩ := hB
      obtain ⟨op, r, hop, rfl, hrl, hrb⟩ := HI.out i (by rw [HAB.out.1]; simp)
      have hflat : insts.flatten = A.flatten ++ ((op : Int) :: (r ++ B'.flatten)) := by rw [HAB.out.1]; simp
      have hLe : L = off + (1 + r.length + B'.flatten.length) := by rw [HL.out, hflat]; simp [HAB.out.2]; omega
      have hcb : ∀ j, j < r.length + 1 → ∃ z, ((op : Int) :: r)[j]? = some z ∧ w.cell? ⟨xb, off + j, none⟩ = some (.int .u8 z) := fun j hj => by
        have hj2 : off + j < insts.flatten.length := by rw [← HL.out]; omega
        refine ⟨insts.flatten[off + j], ?_, HX.out (off + j) hj2⟩
        have h1 : insts.flatten[off + j]? = some insts.flatten[off + j] := List.getElem?_eq_getElem hj2
        rw [← h1, hflat, ← HAB.out.2, List.getElem?_append_right (by omega), show A.flatten.length + j - A.flatten.length = j by omega, show ((op : Int) :: (r ++ B'.flatten)) = ((op : Int) :: r) ++ B'.flatten by rfl, List.getElem?_append_left (by simp; omega)]
      have hc0 : wo.cell? ⟨xb, off, none⟩ = some (.int .u8 (op : Int)) := by
        obtain ⟨z, h1, h2⟩ := hcb 0 (by omega)
        simp at h1
        subst h1
        exact (hb.cell (World.block_lt_of_cell? w _ h2)).trans h2
      have hcr : ∀ j (hj : j < r.length), wo.cell? ⟨xb, off + 1 + j, none⟩ = some (.int .u8 r[j]) := fun j hj => by
        obtain ⟨z, h1, h2⟩ := hcb (j + 1) (by omega)
        rw [List.getElem?_cons_succ, List.getElem?_eq_getElem hj] at h1
        simp at h1
        subst h1
        rw [show off + 1 + j = off + (j + 1) by omega]
        exact (hb.cell (World.block_lt_of_cell? w _ h2)).trans h2
      have hxw : xb < w.heap.size := by
        obtain ⟨z, _, h2⟩ := hcb 0 (by omega)
        exact World.block_lt_of_cell? w _ h2
      have hnw : 1 < w.heap.size := World.block_lt_of_cell? w _ (HN.out op hop)
      have hW := rows_ok op hop
      obtain ⟨az, capz, hz0, hz1, hz2, hz3⟩ := HT.out op hop
      have hz0' := (hb.cell (World.block_lt_of_cell? w _ hz0)).trans hz0
      have hz3' : ∀ j (hj : j < (widthsOf op).length), wo.cell? (az.add j) = some (.int .i64 (widthsOf op)[j]) := fun j hj => (hb.cell (World.block_lt_of_cell? w _ (hz3 j hj))).trans (hz3 j hj)
      have hn0 := (hb.cell (World.block_lt_of_cell? w _ (HN.out op hop))).trans (HN.out op hop)
      obtain ⟨zs, hzs⟩ : ∃ zs, zs = widthsOf op := ⟨_, rfl⟩
      rw [← hzs] at hW hz0' hz3' hrl
      have HZS := Lib.hid hzs
      have hzl := hW.1
      have HRL := Lib.hid hrl
      have HRO : (c = off + 1 ∧ L = off + 1 ∧ Hid (Calls Tryf.prog 14 #[.slice (some az) zs.length capz, .slice (some ⟨xb, 0, none⟩) 0 0] wo (ReadOf wo zs r))) ∨
          (¬ c = off + 1 ∧ Hid (Calls Tryf.prog 14 #[.slice (some az) zs.length capz, .slice (some ⟨xb, off + 1, none⟩) (L - (off + 1)) (c - (off + 1))] wo (ReadOf wo zs r))) := by
        by_cases he : c = off + 1
        · exact .inl ⟨he, by omega, Lib.hid (readOps az xb 0 zs r capz 0 0 wo hz3' hW (fun j hj => by omega) hrb (by omega) (by omega) (by omega))⟩
        · exact .inr ⟨he, Lib.hid (readOps az xb (off + 1) zs r capz (L - (off + 1)) (c - (off + 1)) wo hz3' hW hcr hrb (by omega) (by omega) (by omega))⟩
      have hi0 : (0 : Int) ≤ (off : Int) := by omega
      have hi1 : (off : Int) < (L : Int) := by omega
      have ho1 : (op : Int) < 42 := by omega
      have ho0 : (0 : Int) ≤ (op : Int) := by omega
      have hi2 : (off : Int) + 1 ≤ (c : Int) := by omega
      have hi3 : (off : Int) + 1 ≤ (L : Int) := by omega
      have hrl8 : r.length ≤ 8 := by have := hW.take zs.length; rw [List.take_length] at this; omega
      have hF2 : F.answers wo.tape := by rw [hb.tape]; exact HF.out
      have HF2 := Lib.hid hF2
      have HLE := Lib.hid hLe
      have hoff1 : off + (1 + r.length) ≤ L := by omega
      clear hF2 hrl hflat hcb hcr hz0 hz1 hz2 hz3 hzs hW hrb hLe
      rcases HRO with ⟨rfl, rfl, HRO⟩ | ⟨hne, HRO⟩
      all_goals
        go_wp2_with (fail)
        refine HRO.out.mono ?_
        rintro e w2 ⟨v2, rfl, hown2, hb2⟩
        rw [← HRL.out]
        obtain ⟨ys, hys⟩ : ∃ ys, ys = rdAll zs r := ⟨_, rfl⟩
        have hyl : ys.length = zs.length := by rw [hys, rdAll_length]
        rw [← hys] at hown2
        have HYS := Lib.hid hys
        have HB2 := Lib.hid hb2
        have cB := (hb2.cell (World.block_lt_of_cell? wo _ hc0)).trans hc0
        have cN := (hb2.cell (World.block_lt_of_cell? wo _ hn0)).trans hn0
        have HOWN2 := Lib.hid hown2
        have HF3 : Hid (F.answers w2.tape) := Lib.hid (by rw [hb2.tape]; exact HF2.out)
        have ho2 : w2.ownsRow w.heap.size 9 1 u5 A.length (lines F nm p 0 A) := Go.Fmt.ownsRow_below HO.out (fun k hk => hb2.block k (HO.out.lt k hk).2)
        have HO2 := Lib.hid ho2
        have hAl : A.length ≤ 1000000 := by have := HAB.out.1; rw [this] at hin; simp at hin; omega
        clear hys hown2 hb2 ho2 HRO
        rcases zs with _ | ⟨z1, _ | ⟨z2, _ | ⟨z3, zs⟩⟩⟩
        · obtain rfl : ys = [] := List.length_eq_zero_iff.1 hyl
          have hrun := run0 F (w2.alloc (.cells #[.iface 3 (.int .i64 (wrap64 (p + (off : Int)))), .iface 9 (.string (nm op))] 20)) (by exact HF3.out) ⟨w2.heap.size, 0, none⟩ (wrap64 (p + (off : Int))) (nm op) (news_k _ _ _ 0 _ rfl) (news_k _ _ _ 1 _ rfl)
          go_wp2_with ((at_builtin; refine wpList_append_lies _ rfl _ _ 30 rfl w.heap.size 9 iS (.string .empty) 1 16 Tryf.underlying30 HS.out.1 HS.out.2.1 HS.out.2.2.1 HS.out.2.2.2 rfl (by decide) u5 A.length (lines F nm p 0 A) rfl (((HO2.out.alloc _).drew).alloc _) ⟨w2.heap.size + 1, 0, none⟩ 1 1 [.string (text0 F (wrap64 (p + (off : Int))) (nm op))] rfl rfl (news_s _ _ _ _ (by simp)) (by simp [Value.oneCell']) (by decide) (by unfold maxLen; omega) (by omega) (by have := HB2.out.size; simp; omega) (w2.heap.size + 2) (by simp) ?_; intro g5 cap5 w5 hown5 hgrow5 hat5 hlt5; have HO5 := Lib.hid hown5; have HG5 := Lib.hid hgrow5; clear hown5 hgrow5 hat5 hlt5))
          have hb5 : Below w.heap.size w w5 := (((((hb.trans (HB2.out.mono hbs)).alloc (by have := HB2.out.size; omega) _).drew).alloc (by have := HB2.out.size; simp; omega) _).grown HG5.out (by have := HB2.out.size; simp; omega) (fun k hk => (HO2.out.lt k hk).1))
          have HB5 := Lib.hid hb5
          clear hb5
          refine ⟨⟨A ++ [(op : Int) :: r], B', off + (1 + r.length), by go_num, by omega, Lib.hid ⟨by rw [HAB.out.1]; simp, by simp [HAB.out.2]; omega⟩, ?_, HB5.out⟩, by simp [intOf]; omega⟩
          rw [List.length_append, lines_snoc F nm p A op r _ _ off HAB.out.2 HZS.out HYS.out]
          exact HO5
        · obtain ⟨y1, rfl⟩ : ∃ y, ys = [y] := by
            match ys, hyl with
            | [y], _ => exact ⟨y, rfl⟩
          obtain ⟨g2, cap2, rfl, hg1, hg2, hcy⟩ := own_some HOWN2.out (by simp)
          have cY : w2.cell? ⟨g2, 0, none⟩ = some (.int .i64 y1) := hcy 0 _ rfl
          have HK1 : Hid (∀ o, (w2.alloc o).cell? ⟨xb, off, none⟩ = some (.int .u8 (op : Int)) ∧ (w2.alloc o).cell? ⟨1, op, none⟩ = some (.string (nm op)) ∧ (w2.alloc o).cell? ⟨g2, 0, none⟩ = some (.int .i64 y1)) := Lib.hid (fun o => ⟨keep_alloc o (World.block_lt_of_cell? w2 _ cB) cB, keep_alloc o (World.block_lt_of_cell? w2 _ cN) cN, keep_alloc o hg2 cY⟩)
          have HK2 : Hid (∀ o o2, ((w2.alloc o).alloc o2).cell? ⟨xb, off, none⟩ = some (.int .u8 (op : Int)) ∧ ((w2.alloc o).alloc o2).cell? ⟨1, op, none⟩ = some (.string (nm op)) ∧ ((w2.alloc o).alloc o2).cell? ⟨g2, 0, none⟩ = some (.int .i64 y1)) := Lib.hid (fun o o2 => by
            obtain ⟨a, b, d⟩ := HK1.out o
            exact ⟨keep_alloc o2 (World.block_lt_of_cell? _ _ a) a, keep_alloc o2 (World.block_lt_of_cell? _ _ b) b, keep_alloc o2 (World.block_lt_of_cell? _ _ d) d⟩)
          have HKG : Hid (∀ (o o2 : Obj) (W5 : World), (((w2.alloc o).alloc o2).drew.drew).grownBy W5 u5.ownBlock → W5.cell? ⟨xb, off, none⟩ = some (.int .u8 (op : Int)) ∧ W5.cell? ⟨1, op, none⟩ = some (.string (nm op)) ∧ W5.cell? ⟨g2, 0, none⟩ = some (.int .i64 y1)) := Lib.hid (fun o o2 W5 hg => by
            obtain ⟨a, b, d⟩ := HK2.out o o2
            have hsz : ((w2.alloc o).alloc o2).heap.size = w2.heap.size + 2 := by simp
            have hs2 := HB2.out.size
            have far : ∀ k, k < w2.heap.size → (k < w.heap.size ∨ wo.heap.size ≤ k) → W5.heap[k]? = ((w2.alloc o).alloc o2).heap[k]? := fun k hk hk2 => hg.block k (by show k < ((w2.alloc o).alloc o2).heap.size; omega) (fun e => by
              have h1 := HO.out.lt k e.symm
              omega)
            exact ⟨(World.cell?_of_block (a := ⟨xb, off, none⟩) (far xb (by omega) (.inl hxw))).trans a, (World.cell?_of_block (a := ⟨1, op, none⟩) (far 1 (by omega) (.inl hnw))).trans b, (World.cell?_of_block (a := ⟨g2, 0, none⟩) (far g2 hg2 (.inr hg1))).trans d⟩)
          clear hcy
          go_wp2_with (fail)
          go_region_held3 (fun w' => w'.cell? ⟨xb, off, none⟩ = some (.int .u8 (op : Int)) ∧ w'.cell? ⟨1, op, none⟩ = some (.string (nm op)) ∧ w'.cell? ⟨g2, 0, none⟩ = some (.int .i64 y1)) (first | exact ⟨cB, cN, cY⟩ | exact HK1.out _ | exact HK2.out _ _ | exact HKG.out _ _ _ hgrow5)
            (first
              | (refine step_stop rfl 15 _ _ _ (.string ⟨#[37, 48, 52, 100, 32, 37, 45, 55, 115, 32, 37, 45, 53, 100]⟩) (.slice (some ⟨w2.heap.size, 0, none⟩) 3 3) rfl rfl rfl _ _ (run1 F _ (by exact HF3.out) ⟨w2.heap.size, 0, none⟩ (IntKind.i64.wrap (p + (off : Int))) (nm op) y1 (news_d w2 _ _ 0 _ rfl) (news_d w2 _ _ 1 _ rfl) (news_d w2 _ _ 2 _ rfl)) ?_)
              | (refine step_append_lies _ (by rfl) _ _ 30 (by rfl) w.heap.size 9 iS (.string .empty) 1 16 Tryf.underlying30 HS.out.1 HS.out.2.1 HS.out.2.2.1 HS.out.2.2.2 (by rfl) (by decide) u5 A.length (lines F nm p 0 A) (by rfl) (((HO2.out.alloc _).alloc _).drew).drew ⟨w2.heap.size + 1, 0, none⟩ 1 1 [.string (text1 F (IntKind.i64.wrap (p + (off : Int))) (nm op) y1)] (by rfl) (by rfl) (news_dd _ _ _ _ (by simp)) (by simp [Value.oneCell']) (by decide) (by unfold maxLen; omega) (by omega) (by have := HB2.out.size; simp; omega) (w2.heap.size + 2) (by simp) ?_; intro g5 cap5 w5 hown5 hgrow5 hat5 hlt5))
          have hb5 : Below w.heap.size w w5 := ((((((hb.trans (HB2.out.mono hbs)).alloc (by have := HB2.out.size; omega) _).alloc (by have := HB2.out.size; simp; omega) _).drew).drew).grown hgrow5 (by have := HB2.out.size; simp; omega) (fun k hk => (HO2.out.lt k hk).1))
          have HB5 := Lib.hid hb5
          have HO5 := Lib.hid hown5
          clear hb5 hown5 hgrow5 cB cN cY
          go_wp2_with (fail)
          refine ⟨⟨A ++ [(op : Int) :: r], B', off + (1 + r.length), by go_num, by omega, Lib.hid ⟨by rw [HAB.out.1]; simp, by simp [HAB.out.2]; omega⟩, ?_, HB5.out⟩, by simp [intOf]; omega⟩
          rw [List.length_append, lines_snoc F nm p A op r _ _ off HAB.out.2 HZS.out HYS.out, ← wrap_eq]
          exact HO5
        · obtain ⟨y1, y2, rfl⟩ : ∃ y z, ys = [y, z] := by
            match ys, hyl with
            | [y, z], _ => exact ⟨y, z, rfl⟩
          obtain ⟨g2, cap2, rfl, hg1, hg2, hcy⟩ := own_some HOWN2.out (by simp)
          have cY : w2.cell? ⟨g2, 0, none⟩ = some (.int .i64 y1) := hcy 0 _ rfl
          have cZ : w2.cell? ⟨g2, 1, none⟩ = some (.int .i64 y2) := hcy 1 _ rfl
          have HK1 : Hid (∀ o, (w2.alloc o).cell? ⟨xb, off, none⟩ = some (.int .u8 (op : Int)) ∧ (w2.alloc o).cell? ⟨1, op, none⟩ = some (.string (nm op)) ∧ (w2.alloc o).cell? ⟨g2, 0, none⟩ = some (.int .i64 y1) ∧ (w2.alloc o).cell? ⟨g2, 1, none⟩ = some (.int .i64 y2)) := Lib.hid (fun o => ⟨keep_alloc o (World.block_lt_of_cell? w2 _ cB) cB, keep_alloc o (World.block_lt_of_cell? w2 _ cN) cN, keep_alloc o hg2 cY, keep_alloc o hg2 cZ⟩)
          have HK2 : Hid (∀ o o2, ((w2.alloc o).alloc o2).cell? ⟨xb, off, none⟩ = some (.int .u8 (op : Int)) ∧ ((w2.alloc o).alloc o2).cell? ⟨1, op, none⟩ = some (.string (nm op)) ∧ ((w2.alloc o).alloc o2).cell? ⟨g2, 0, none⟩ = some (.int .i64 y1) ∧ ((w2.alloc o).alloc o2).cell? ⟨g2, 1, none⟩ = some (.int .i64 y2)) := Lib.hid (fun o o2 => by
            obtain ⟨a, b, d, d2⟩ := HK1.out o
            exact ⟨keep_alloc o2 (World.block_lt_of_cell? _ _ a) a, keep_alloc o2 (World.block_lt_of_cell? _ _ b) b, keep_alloc o2 (World.block_lt_of_cell? _ _ d) d, keep_alloc o2 (World.block_lt_of_cell? _ _ d2) d2⟩)
          have HKG : Hid (∀ (o o2 : Obj) (W5 : World), (((w2.alloc o).alloc o2).drew.drew).grownBy W5 u5.ownBlock → W5.cell? ⟨xb, off, none⟩ = some (.int .u8 (op : Int)) ∧ W5.cell? ⟨1, op, none⟩ = some (.string (nm op)) ∧ W5.cell? ⟨g2, 0, none⟩ = some (.int .i64 y1) ∧ W5.cell? ⟨g2, 1, none⟩ = some (.int .i64 y2)) := Lib.hid (fun o o2 W5 hg => by
            obtain ⟨a, b, d, d2⟩ := HK2.out o o2
            have hsz : ((w2.alloc o).alloc o2).heap.size = w2.heap.size + 2 := by simp
            have hs2 := HB2.out.size
            have far : ∀ k, k < w2.heap.size → (k < w.heap.size ∨ wo.heap.size ≤ k) → W5.heap[k]? = ((w2.alloc o).alloc o2).heap[k]? := fun k hk hk2 => hg.block k (by show k < ((w2.alloc o).alloc o2).heap.size; omega) (fun e => by
              have h1 := HO.out.lt k e.symm
              omega)
            exact ⟨(World.cell?_of_block (a := ⟨xb, off, none⟩) (far xb (by omega) (.inl hxw))).trans a, (World.cell?_of_block (a := ⟨1, op, none⟩) (far 1 (by omega) (.inl hnw))).trans b, (World.cell?_of_block (a := ⟨g2, 0, none⟩) (far g2 hg2 (.inr hg1))).trans d, (World.cell?_of_block (a := ⟨g2, 1, none⟩) (far g2 hg2 (.inr hg1))).trans d2⟩)
          clear hcy
          go_wp2_with (fail)
          go_region_held3 (fun w' => w'.cell? ⟨xb, off, none⟩ = some (.int .u8 (op : Int)) ∧ w'.cell? ⟨1, op, none⟩ = some (.string (nm op)) ∧ w'.cell? ⟨g2, 0, none⟩ = some (.int .i64 y1) ∧ w'.cell? ⟨g2, 1, none⟩ = some (.int .i64 y2)) (first | exact ⟨cB, cN, cY, cZ⟩ | exact HK1.out _ | exact HK2.out _ _ | exact HKG.out _ _ _ hgrow5)
            (first
              | (refine step_stop rfl 15 _ _ _ (.string ⟨#[37, 48, 52, 100, 32, 37, 45, 55, 115, 32, 37, 45, 53, 100, 32, 37, 45, 53, 100]⟩) (.slice (some ⟨w2.heap.size, 0, none⟩) 4 4) rfl rfl rfl _ _ (run2 F _ (by exact HF3.out) ⟨w2.heap.size, 0, none⟩ (IntKind.i64.wrap (p + (off : Int))) (nm op) y1 y2 (news_d w2 _ _ 0 _ rfl) (news_d w2 _ _ 1 _ rfl) (news_d w2 _ _ 2 _ rfl) (news_d w2 _ _ 3 _ rfl)) ?_)
              | (refine step_append_lies _ (by rfl) _ _ 30 (by rfl) w.heap.size 9 iS (.string .empty) 1 16 Tryf.underlying30 HS.out.1 HS.out.2.1 HS.out.2.2.1 HS.out.2.2.2 (by rfl) (by decide) u5 A.length (lines F nm p 0 A) (by rfl) (((HO2.out.alloc _).alloc _).drew).drew ⟨w2.heap.size + 1, 0, none⟩ 1 1 [.string (text2 F (IntKind.i64.wrap (p + (off : Int))) (nm op) y1 y2)] (by rfl) (by rfl) (news_dd _ _ _ _ (by simp)) (by simp [Value.oneCell']) (by decide) (by unfold maxLen; omega) (by omega) (by have := HB2.out.size; simp; omega) (w2.heap.size + 2) (by simp) ?_; intro g5 cap5 w5 hown5 hgrow5 hat5 hlt5))
          have hb5 : Below w.heap.size w w5 := ((((((hb.trans (HB2.out.mono hbs)).alloc (by have := HB2.out.size; omega) _).alloc (by have := HB2.out.size; simp; omega) _).drew).drew).grown hgrow5 (by have := HB2.out.size; simp; omega) (fun k hk => (HO2.out.lt k hk).1))
          have HB5 := Lib.hid hb5
          have HO5 := Lib.hid hown5
          clear hb5 hown5 hgrow5 cB cN cY cZ
          go_wp2_with (fail)
          refine ⟨⟨A ++ [(op : Int) :: r], B', off + (1 + r.length), by go_num, by omega, Lib.hid ⟨by rw [HAB.out.1]; simp, by simp [HAB.out.2]; omega⟩, ?_, HB5.out⟩, by simp [intOf]; omega⟩
          rw [List.length_append, lines_snoc F nm p A op r _ _ off HAB.out.2 HZS.out HYS.out, ← wrap_eq]
          exact HO5
        · simp at hzl
    · obtain rfl : off = L := by omega
      have hB : B = [] := by
        have h1 := HAB.out.1
        have h2 := HAB.out.2
        have h3 := HL.out
        rw [h1, List.flatten_append, List.length_append, h2] at h3
        cases B with
        | nil => rfl
        | cons i B' =>
          obtain ⟨op, r, _, rfl, _⟩ := HI.out i (by rw [h1]; simp)
          simp at h3
      subst hB
      have hA : insts = A := by have := HAB.out.1; simpa using this
      subst hA
      go_wp2
      go_ret
      exact ⟨_, rfl, HO.out, hb⟩
end Go.Proofs.YtjnoodilpffbiaaFmt.Ft
