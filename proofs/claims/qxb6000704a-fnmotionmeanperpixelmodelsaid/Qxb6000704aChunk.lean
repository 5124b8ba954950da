/-
  THE WALKS OF cloneU8 (12), rowChunk (17), ZZrowChunk (13).
-/
import Derived.Test.Qxb6000704aRows
import Derived.WalkKit
import Derived.WalkSpells
import Derived.WalkLawsBesides
import Derived.Deep.OwnRows
import Derived.Deep.MidRow
import Derived.Laws.CopyOwn
import Derived.Deep.CutRange
namespace Go.Proofs.Qxb6000704a
open Go.RowKit Go.Deep
set_option linter.unusedVariables false

theorem info5 : (Try.prog.info? 5).map (fun i => (i.zero, i.size, i.bytes)) = some (some (.int .u8 0), 1, 1) := by kernel_rfl
theorem size5 : (Try.prog.info? 5).map (·.size) = some 1 := by kernel_rfl
theorem size32 : (Try.prog.info? 32).map (·.size) = some 128 := by kernel_rfl

/-- Forget how a world was come by. -/
theorem gen_world {P : Program} {c : Code} {Q : Exit → Act → World → Prop} {a : Act} {w : World} (p : World → Prop) (hp : p w) (h : ∀ W, p W → Code.wp P c Q a W) : Code.wp P c Q a w := h w hp

/-- ONLY BLOCK S MAY HAVE TURNED. -/
structure Only (S : Nat) (w w' : World) : Prop where
  os : w'.os = w.os
  tape : w'.tape = w.tape
  output : w'.output = w.output
  size : w'.heap.size = w.heap.size
  block : ∀ b, b ≠ S → w'.heap[b]? = w.heap[b]?
theorem Only.refl (S : Nat) (w : World) : Only S w w := ⟨rfl, rfl, rfl, rfl, fun _ _ => rfl⟩
theorem Only.setCell {S : Nat} {w w' : World} (h : Only S w w') (i : Nat) (v : Value) : Only S w (w'.setCell ⟨S, i, none⟩ v) :=
  ⟨h.os, h.tape, h.output, by simpa using h.size, fun b hb => (blk_setCell_other _ _ _ _ hb).trans (h.block b hb)⟩
theorem Only.drew {S : Nat} {w w' : World} (h : Only S w w') : Only S w w'.drew := ⟨h.os, h.tape, h.output, h.size, h.block⟩
theorem Only.setRow {S : Nat} {w w' : World} (h : Only S w w') (cs : Array Value) : Only S w (w'.setRow S cs) :=
  ⟨h.os, h.tape, h.output, by simpa [World.setRow] using h.size, fun b hb => (setRow_other w' S b cs hb).trans (h.block b hb)⟩
theorem Only.row {S b t n : Nat} {w w' : World} {f : Nat → Value} (h : Only S w w') (hr : w.rowIs b t n f) (hb : b ≠ S) : w'.rowIs b t n f := hr.of_block (h.block b hb)
theorem Only.below {S B : Nat} {w0 w w' : World} (h : Only S w w') (hb : Below B w0 w) (hS : B ≤ S) : Below B w0 w' :=
  hb.trans ⟨h.os, h.tape, h.output, by rw [h.size]; exact Nat.le_refl _, fun k hk => h.block k (by omega)⟩

set_option maxHeartbeats 400000 in
theorem clone_any (b off len cap : Nat) (z : Nat → Int) (w : World) (hlen : len ≤ 1048576) (hc : ∀ i, i < len → w.cell? ⟨b, off + i, none⟩ = some (.int .u8 (z i))) :
    Calls Try.prog 12 #[.slice (some ⟨b, off, none⟩) len cap] w fun e w' => e = .returned (.slice (some ⟨w.heap.size, 0, none⟩) len len) ∧ w'.rowIs w.heap.size 5 len (fun i => .int .u8 (z i)) ∧ Below w.heap.size w w' ∧ w'.heap.size = w.heap.size + 1 := by
  have hmk := run_make_row' (P := Try.prog) 31 5 (.int .u8 0) 1 Try.underlying31 info5 rfl .i64 .i64 len (by omega) (by omega)
  have hnil : ∀ (W : World) (a : Option Addr) (n c n' c' : Nat), (binOp .eql 31 (.slice a n c) (.slice none n' c')).run Try.prog W = .ok (.bool a.isNone) W := fun W a n c n' c' => Lib.run_eql_slice_nil W _ _ a n c n' c' Try.underlying31
  go_enter Try.func12, Try.ntmps12
  go_wp2
  go_loopw [4] (fun i wr => ∃ k : Nat, k ≤ len ∧ i = .int .i64 k ∧ wr.rowIs w.heap.size 5 len (fun j => .int .u8 (if j < k then z j else 0)) ∧ Below w.heap.size w wr ∧ wr.heap.size = w.heap.size + 1) (fun i _ => len - (intOf i).toNat)
  case atStart => exact ⟨0, Nat.zero_le _, rfl, (World.rowIs_made w (.int .u8 0) len 5).congr (fun j _ => by rw [if_neg (Nat.not_lt_zero _)]), (Below.refl _ _).alloc (Nat.le_refl _) _, by simp⟩
  case round =>
    obtain ⟨k, hk, rfl, hr, hb, hsz⟩ := hrel
    by_cases hlt : k < len
    · have hbw : b < w.heap.size := World.block_lt_of_cell? _ _ (hc k hlt)
      have q1 : wr.cell? ⟨b, off + k, none⟩ = some (.int .u8 (z k)) := (hb.cell (p := ⟨b, off + k, none⟩) hbw).trans (hc k hlt)
      have q2 := hr.cell hlt
      have q3 := hr.frozen k
      have HZ : Hid (wr.heap.size = w.heap.size + 1) := hsz
      clear hsz
      go_wp2
      go_roundw
      case rel =>
        refine ⟨k + 1, by omega, by go_num, (hr.set k _).congr (fun j _ => ?_), hb.setCell (Nat.le_refl _) _, by simpa using HZ.out⟩
        by_cases e : j = k
        · subst e; simp
        · rw [if_neg e]
          by_cases e2 : j < k
          · rw [if_pos e2, if_pos (by omega)]
          · rw [if_neg e2, if_neg (by omega)]
      case measure => simp [intOf]; omega
    · have e : k = len := by omega
      subst e
      go_wp2
      go_ret
      exact ⟨rfl, hr.congr (fun j hj => by rw [if_pos hj]), hb, hsz⟩

/-- 'copy(dst, src)' in a region that draws its order, dst in a row that is known whole: the world behind it, exactly. -/
theorem step_copy_row {P : Program} {ops : Array Oper} {o : Oper} {a : Act} {w : World} {K : Act → World → Prop} {Q : Exit → Act → World → Prop} {E : Prop} (hgd : o.guard = none) (d s : Operand) (dT sT : TypeId)
    (ho : o.op = .call { callee := .builtin .copy, args := #[d, s], argTypes := #[dT, sT] }) (elem : TypeId) (hu : P.underlying dT = some (.slice elem)) (hsz : (P.info? elem).map (·.size) = some 1)
    (g off dLen dCap : Nat) (ad : Addr) (sLen sCap : Nat) (hd : a.eval d = .slice (some ⟨g, off, none⟩) dLen dCap) (hs : a.eval s = .slice (some ad) sLen sCap)
    (cur : Array Value) (t : TypeId) (hg : w.heap[g]? = some (.cells cur t (0, 0))) (cs : List Value) (hn : cs.length = Nat.min sLen dLen)
    (hsrc : ∀ j v, cs[j]? = some v → w.cell? (ad.add j) = some v) (hfit : off + cs.length ≤ cur.size) (h1 : ∀ v ∈ cs, v.oneCell' = true)
    (h : K (a.put o.dst (goInt cs.length)) (w.setRow g (cur.toList.take off ++ (cs ++ cur.toList.drop (off + cs.length))).toArray)) :
    if Region.wanted o (yielded ops a.tmps) = true then Oper.wp P o a w K Q else E := by
  have hw : Region.wanted o (yielded ops a.tmps) = true := by simp [Region.wanted, hgd]
  rw [if_pos hw]
  have hrun := run_copy_row (P := P) w dT sT o.type elem g off dLen dCap ad sLen sCap cur t cs hu hsz hg hn hsrc hfit h1
  unfold Oper.wp
  simp [execOp, ho, resolve, invoke, builtin, hd, hs, hrun, Result.andThen]
  exact h

/-- the row behind the copy -/
theorem setRow_is {w : World} {S t n : Nat} {F : Nat → Value} (hr : w.rowIs S t n F) (cs : Array Value) (hcs : cs.size = n) : (w.setRow S cs).rowIs S t n (fun i => cs.getD i undef) := by
  obtain ⟨c, hh, hc, _⟩ := hr
  refine ⟨cs, ?_, hcs, fun i hi => by simp [show i < cs.size by omega]⟩
  simp [World.setRow, Array.getElem?_modify, hh]

theorem array_at (R x l : Nat) (h : 128 ≤ l) (W : World) : (Instr.arrayAt 32 (.slice (some ⟨R, x, none⟩) l l)).run Try.prog W = .ok (.pointer (some ⟨R, x, none⟩)) W := by
  unfold Instr.arrayAt
  simp [run_underlying Try.underlying32, show ¬ l < 128 by omega]

set_option maxHeartbeats 400000 in
theorem chunk_whole (R n c S : Nat) (rep : Bool) (w : World) (h1 : c * 128 + 128 ≤ n) (hn : n ≤ 1048576) :
    Calls Try.prog 17 #[.slice (some ⟨R, 0, none⟩) n n, .int .i64 c, .pointer (some ⟨S, 0, none⟩), .bool rep] w fun e w' => e = .returned (.pointer (some ⟨R, c * 128, none⟩)) ∧ w' = w := by
  have hc1 : (c : Int) * 128 + 128 ≤ (n : Int) := by omega
  have hc2 : (0 : Int) ≤ (c : Int) * 128 := by omega
  have hc3 : (c : Int) * 128 ≤ (n : Int) := by omega
  have hc4 : ((c : Int) * 128).toNat = c * 128 := by omega
  have ha := array_at R (c * 128) (n - c * 128) (by omega)
  go_enter Try.func17, Try.ntmps17
  go_wp2
  go_ret
  exact ⟨rfl, rfl⟩

/-- the pad -/
def padOf (rep : Bool) (z : Nat → Int) (n : Nat) : Int := if rep then z (n - 1) else 0

/-- what the chunk's cells hold -/
def chunkF (z : Nat → Int) (n c : Nat) (pad : Int) (i : Nat) : Value := .int .u8 (if c * 128 + i < n then z (c * 128 + i) else pad)

/-- the cells that go over -/
def overL (z : Nat → Int) (n c : Nat) : List Value := (List.range (n - c * 128)).map fun j => .int .u8 (z (c * 128 + j))

theorem over_src {w : World} {R n c : Nat} {z : Nat → Int} (hrow : w.rowIs R 5 n (fun i => .int .u8 (z i))) :
    ∀ j v, (overL z n c)[j]? = some v → w.cell? ((⟨R, c * 128, none⟩ : Addr).add j) = some v := by
  intro j v hj
  have hl : j < n - c * 128 := by
    have := (List.getElem?_eq_some_iff.1 hj).1
    simpa [overL] using this
  rw [Addr.add_mid, hrow.cell (by omega)]
  rw [← hj]
  simp [overL, hl]
theorem over_one (z : Nat → Int) (n c : Nat) : ∀ v ∈ overL z n c, v.oneCell' = true := by
  intro v hv
  obtain ⟨i, _, rfl⟩ := List.mem_map.1 hv
  rfl
theorem over_len (z : Nat → Int) (n c : Nat) : (overL z n c).length = n - c * 128 := by simp [overL]

/-- behind the copy: the scratch's first cells are the row's -/
theorem copied {w : World} {S n c : Nat} {z : Nat → Int} {cur : Array Value} (hh : w.heap[S]? = some (.cells cur 32 (0, 0))) (hs : cur.size = 128) (h2 : n < c * 128 + 128) (pad : Int) :
    ∃ G, (w.setRow S (overL z n c ++ cur.toList.drop (overL z n c).length).toArray).rowIs S 32 128 G ∧ ∀ i, i < n - c * 128 → G i = chunkF z n c pad i := by
  have hr : w.rowIs S 32 128 (fun i => cur.getD i undef) := ⟨cur, hh, hs, fun i hi => by simp [show i < cur.size by omega]⟩
  refine ⟨_, setRow_is hr _ (by simp [over_len, hs]; omega), fun i hi => ?_⟩
  unfold chunkF
  rw [if_pos (by omega)]
  simp [Array.getD_eq_getD_getElem?, List.getElem?_append, over_len, hi]
  simp [overL]

set_option maxHeartbeats 1000000 in
set_option maxRecDepth 100000 in
theorem chunk_part' (R n c S : Nat) (z : Nat → Int) (rep : Bool) (pad : Int) (hp : (rep = false ∧ pad = 0) ∨ (rep = true ∧ pad = z (n - 1))) (F : Nat → Value) (w : World) (hrow : w.rowIs R 5 n (fun i => .int .u8 (z i))) (hscr : w.rowIs S 32 128 F) (hRS : R ≠ S) (h1 : c * 128 < n) (h2 : n < c * 128 + 128) (hn : n ≤ 1048576) :
    Calls Try.prog 17 #[.slice (some ⟨R, 0, none⟩) n n, .int .i64 c, .pointer (some ⟨S, 0, none⟩), .bool rep] w fun e w' => e = .returned (.pointer (some ⟨S, 0, none⟩)) ∧ w'.rowIs S 32 128 (chunkF z n c pad) ∧ Only S w w' := by
  have hc1 : ¬ (c : Int) * 128 + 128 ≤ (n : Int) := by omega
  have hc2 : (0 : Int) ≤ (c : Int) * 128 := by omega
  have hc3 : (c : Int) * 128 ≤ (n : Int) := by omega
  have hc4 : ((c : Int) * 128).toNat = c * 128 := by omega
  obtain ⟨cur, hh, hs, _⟩ := id hscr
  have HH : Hid (w.drew.heap[S]? = some (.cells cur 32 (0, 0))) := hh
  have s1 : Hid _ := over_src (c := c) hrow
  have s2 : Hid _ := over_one z n c
  have s3 : Hid ((overL z n c).length = Nat.min (n - c * 128) 128) := by
    have : (overL z n c).length = Nat.min (n - c * 128) 128 := by rw [over_len]; show _ = min _ _; omega
    exact this
  have s4 : Hid (0 + (overL z n c).length ≤ cur.size) := by
    have : 0 + (overL z n c).length ≤ cur.size := by rw [over_len, hs]; omega
    exact this
  clear hh
  have hn1 : (n : Int) - 1 < (n : Int) := by omega
  have hn0 : (0 : Int) ≤ (n : Int) - 1 := by omega
  have hn2 : ((n : Int) - 1).toNat = n - 1 := by omega
  have HPd : Hid _ := hp
  clear hp
  go_enter Try.func17, Try.ntmps17
  go_upto_region 4 with fail
  go_cut [10] from 24 to 30 (fun cnt wx => cnt = .int .i64 ((n - c * 128 : Nat) : Int) ∧ (∃ G, wx.rowIs S 32 128 G ∧ ∀ i, i < n - c * 128 → G i = chunkF z n c pad i) ∧ Only S w wx)
  case first =>
    go_region_law (refine step_copy_row rfl (.tmp 26) (.tmp 29) 31 31 rfl 5 Try.underlying31 size5 S 0 128 128 ⟨R, c * 128, none⟩ (n - c * 128) (n - c * 128) (by simp [Act.eval, Act.put]) (by simp [Act.eval, Act.put]; omega) cur 32 HH.out (overL z n c) s3.out s1.out s4.out s2.out ?_)
    all_goals
      go_wp2
      go_meet
      case rel => exact ⟨by rw [over_len], copied HH.out hs h2 _, (Only.refl S w).drew.setRow _⟩
  case rest =>
    obtain ⟨rfl, ⟨G, hG, hGv⟩, hO⟩ := hcut
    have q1 : wc.cell? ⟨R, n - 1, none⟩ = some (.int .u8 (z (n - 1))) := (hO.row hrow hRS).cell (by omega)
    clear HH s1 s2 s3 s4
    rcases HPd.out with ⟨rfl, hpe⟩ | ⟨rfl, hpe⟩
    · have HE : Hid (pad = 0) := hpe
      clear HPd hpe
      go_wp2
      clear q1
      go_loopw [12] (fun i wr => ∃ k : Nat, n - c * 128 ≤ k ∧ k ≤ 128 ∧ i = .int .i64 k ∧ (∃ G, wr.rowIs S 32 128 G ∧ ∀ i, i < k → G i = chunkF z n c pad i) ∧ Only S w wr) (fun i _ => 128 - (intOf i).toNat)
      case atStart => exact ⟨n - c * 128, Nat.le_refl _, by omega, rfl, ⟨G, hG, hGv⟩, hO⟩
      case round =>
        clear hG hGv hO
        obtain ⟨k, hk1, hk2, rfl, ⟨G, hG, hGv⟩, hO⟩ := hrel
        by_cases hlt : k < 128
        · have q2 := hG.cell hlt
          have q3 := hG.frozen k
          have q4 : ∃ u, G k = u := ⟨_, rfl⟩
          obtain ⟨u, hu⟩ := q4
          rw [hu] at q2
          have HG : Hid (∀ i, i < k → G i = chunkF z n c pad i) := hGv
          clear hGv hu
          go_wp2
          go_roundw
          case rel =>
            refine ⟨k + 1, by omega, by omega, by go_num, ⟨_, hG.set k _, fun i hi => ?_⟩, hO.setCell k _⟩
            show (if i = k then _ else G i) = chunkF z n c pad i
            by_cases e : i = k
            · subst e
              rw [if_pos rfl]
              unfold chunkF
              rw [if_neg (by omega), HE.out]
            · rw [if_neg e]
              exact HG.out i (by omega)
          case measure => simp [intOf]; omega
        · have e : k = 128 := by omega
          subst e
          have hfin : wr.rowIs S 32 128 (chunkF z n c pad) := hG.congr (fun i hi => hGv i hi)
          clear hG hGv
          go_wp2
          go_ret
          exact ⟨rfl, hfin, hO⟩
    · have HE : Hid (pad = z (n - 1)) := hpe
      clear HPd hpe
      go_wp2
      clear q1
      go_loopw [12] (fun i wr => ∃ k : Nat, n - c * 128 ≤ k ∧ k ≤ 128 ∧ i = .int .i64 k ∧ (∃ G, wr.rowIs S 32 128 G ∧ ∀ i, i < k → G i = chunkF z n c pad i) ∧ Only S w wr) (fun i _ => 128 - (intOf i).toNat)
      case atStart => exact ⟨n - c * 128, Nat.le_refl _, by omega, rfl, ⟨G, hG, hGv⟩, hO⟩
      case round =>
        clear hG hGv hO
        obtain ⟨k, hk1, hk2, rfl, ⟨G, hG, hGv⟩, hO⟩ := hrel
        by_cases hlt : k < 128
        · have q2 := hG.cell hlt
          have q3 := hG.frozen k
          have q4 : ∃ u, G k = u := ⟨_, rfl⟩
          obtain ⟨u, hu⟩ := q4
          rw [hu] at q2
          have HG : Hid (∀ i, i < k → G i = chunkF z n c pad i) := hGv
          clear hGv hu
          go_wp2
          go_roundw
          case rel =>
            refine ⟨k + 1, by omega, by omega, by go_num, ⟨_, hG.set k _, fun i hi => ?_⟩, hO.setCell k _⟩
            show (if i = k then _ else G i) = chunkF z n c pad i
            by_cases e : i = k
            · subst e
              rw [if_pos rfl]
              unfold chunkF
              rw [if_neg (by omega), HE.out]
            · rw [if_neg e]
              exact HG.out i (by omega)
          case measure => simp [intOf]; omega
        · have e : k = 128 := by omega
          subst e
          have hfin : wr.rowIs S 32 128 (chunkF z n c pad) := hG.congr (fun i hi => hGv i hi)
          clear hG hGv
          go_wp2
          go_ret
          exact ⟨rfl, hfin, hO⟩

theorem chunk_part (R n c S : Nat) (z : Nat → Int) (rep : Bool) (F : Nat → Value) (w : World) (hrow : w.rowIs R 5 n (fun i => .int .u8 (z i))) (hscr : w.rowIs S 32 128 F) (hRS : R ≠ S) (h1 : c * 128 < n) (h2 : n < c * 128 + 128) (hn : n ≤ 1048576) :
    Calls Try.prog 17 #[.slice (some ⟨R, 0, none⟩) n n, .int .i64 c, .pointer (some ⟨S, 0, none⟩), .bool rep] w fun e w' => e = .returned (.pointer (some ⟨S, 0, none⟩)) ∧ w'.rowIs S 32 128 (chunkF z n c (padOf rep z n)) ∧ Only S w w' := by
  refine chunk_part' R n c S z rep _ ?_ F w hrow hscr hRS h1 h2 hn
  cases rep
  · exact Or.inl ⟨rfl, rfl⟩
  · exact Or.inr ⟨rfl, rfl⟩
end Go.Proofs.Qxb6000704a
