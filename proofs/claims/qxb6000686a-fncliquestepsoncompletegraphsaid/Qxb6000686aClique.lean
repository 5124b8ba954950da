/-
  THE WALK OF cliqueSteps (39).
-/
import Derived.Test.Qxb6000686aBound
import Derived.Deep.RegionLawGrows
import Derived.BigRegion
import Derived.Deep.QuietTactic
import Derived.BigQuiet
import Derived.Deep.CutRange
namespace Go.Proofs.Qxb6000686a
open Go.RowKit Go.Deep
set_option linter.unusedVariables false

theorem row_cell_add {w : World} {b t n : Nat} {f : Nat → Value} (h : w.rowIs b t n f) (l : List Value) (hl : l.length = n) (hf : ∀ j, j < n → l[j]? = some (f j)) :
    ∀ j u, l[j]? = some u → w.cell? ((⟨b, 0, none⟩ : Addr).add j) = some u := by
  intro j u hj
  have hlt : j < n := by
    have := (List.getElem?_eq_some_iff.1 hj).1
    omega
  have := hf j hlt
  rw [hj] at this
  have e : (⟨b, 0, none⟩ : Addr).add j = ⟨b, j, none⟩ := by
    simp [Addr.add]
    intro h; omega
  rw [e, h.cell hlt, this]

/-- the candidates' row: m of its cells hold what 'd' says -/
structure Cand (W : World) (B cb cp L : Nat) (F : Nat → Value) (d : Nat → Int) : Prop where
  lo : B ≤ cb
  fit : L ≤ cp
  top : cp ≤ maxLen
  row : W.rowIs cb 47 cp F
  vals : ∀ i, i < L → F i = .int .i32 (d i)

theorem cand_grown {w W' : World} {N m n r : Nat} {lim : Int} {v' : Value} (hsb : SB w w N m n nbC lim (.slice none 0 0) 0 (fun _ => 0) (fun _ => 0)) (hm1 : 1 ≤ m)
    (hown : W'.ownsRow w.drew.heap.size 47 1 v' (0 + m) ([] ++ (List.range m).map fun i => Value.int .i32 (nbC r i))) (hgrow : w.drew.grownBy W' none) :
    ∃ cb cp F, v' = .slice (some ⟨cb, 0, none⟩) m cp ∧ Cand W' (N + 8 + 2 * n) cb cp m F (nbC r) ∧ SB w W' N m n nbC lim (.slice none 0 0) 0 (fun _ => 0) (fun _ => 0) := by
  have hb : Below (N + 8 + 2 * n) w W' := ⟨hgrow.os, hgrow.tape, hgrow.output, hgrow.size, fun k hk => hgrow.block k (Nat.lt_of_lt_of_le hk hsb.size) (by simp)⟩
  obtain ⟨hl, h | ⟨g, cap, cur, hv, hg, hh, hnc, hcm, hcs, htk⟩⟩ := hown
  · omega
  · refine ⟨g, cap, fun i => cur.getD i (.int .i32 0), by rw [hv, Nat.zero_add], ⟨Nat.le_trans hsb.size hg, by omega, hcm, ⟨cur, hh, by omega, fun i hi => ?_⟩, fun i hi => ?_⟩, hsb.same hb⟩
    · simp [show i < cur.size by omega]
    · have hlt : i < cur.size := by omega
      have h1 : (cur.toList.take ((0 + m) * 1))[i]? = some cur[i] := by
        rw [List.getElem?_take, if_pos (by omega)]
        simp [hlt]
      rw [htk] at h1
      simp [hi] at h1
      simp [hlt, ← h1]

theorem news_cells {w : World} {N m n r : Nat} {lim : Int} (hsb : SB w w N m n nbC lim (.slice none 0 0) 0 (fun _ => 0) (fun _ => 0)) (hr : r < n) :
    ∀ j u, ((List.range m).map fun i => Value.int .i32 (nbC r i))[j]? = some u → w.drew.cell? ((⟨N + 1 + 1 + r, 0, none⟩ : Addr).add j) = some u := by
  have h := row_cell_add (hsb.erow r hr) ((List.range m).map fun i => Value.int .i32 (nbC r i)) (by simp) (fun j hj => by simp [hj])
  exact h
theorem news_one (m r : Nat) : ∀ u ∈ (List.range m).map fun i => Value.int .i32 (nbC r i), u.oneCell' = true := by
  intro u hu
  obtain ⟨i, _, rfl⟩ := List.mem_map.1 hu
  rfl

/-- WHAT HOLDS AT THE OUTER LOOP's HEAD, t rounds done. -/
structure Head (w wr : World) (N m n r : Nat) (lim : Int) (cb cp t : Nat) (F : Nat → Value) (f g : Nat → Int) : Prop where
  sb : SB w wr N m n nbC lim (.slice (some ⟨cb, 0, none⟩) (Ls m t) cp) t f g
  cand : Cand wr (N + 8 + 2 * n) cb cp (Ls m t) F (fun i => (cd r t i : Int))
  fle : ∀ j, j < m + 1 → f j ≤ t
  gle : ∀ j, j < m + 1 → g j ≤ t

/-- .. INSIDE A ROUND, the marks being laid: the mark is t + 1. -/
structure Mid (w wr : World) (N m n r : Nat) (lim : Int) (cb cp t : Nat) (F : Nat → Value) (f g : Nat → Int) : Prop where
  sb : SB w wr N m n nbC lim (.slice (some ⟨cb, 0, none⟩) (Ls m t) cp) (t + 1) f g
  cand : Cand wr (N + 8 + 2 * n) cb cp (Ls m t) F (fun i => (cd r t i : Int))

/-- .. THE KEEPING LOOP: i candidates are looked at. -/
structure Keep (w wr : World) (N m n r : Nat) (lim : Int) (cb cp t i : Nat) (f g : Nat → Int) : Prop where
  sb : SB w wr N m n nbC lim (.slice (some ⟨cb, 0, none⟩) (Ls m t) cp) (t + 1) f g
  lo : N + 8 + 2 * n ≤ cb
  fit : Ls m t ≤ cp
  top : cp ≤ maxLen
  row : ∃ F, wr.rowIs cb 47 cp F ∧ ∀ p, p < Ls m t → F p = .int .i32 (if p < i - sh t then (cd r t (p + sh t) : Int) else (cd r t p : Int))

section
variable {w wr : World} {N m n r : Nat} {lim : Int} {cb cp t i : Nat} {F : Nat → Value} {f g : Nat → Int}
theorem Cand.same {B L : Nat} {d : Nat → Int} {W' : World} (h : Cand wr B cb cp L F d) (e : W'.heap[cb]? = wr.heap[cb]?) : Cand W' B cb cp L F d := ⟨h.lo, h.fit, h.top, h.row.of_block e, h.vals⟩
theorem Cand.low {B L : Nat} {d : Nat → Int} (h : Cand wr B cb cp L F d) {a : Addr} (ha : a.block < B) (v : Value) : Cand (wr.setCell a v) B cb cp L F d := h.same (blk_setCell_other _ _ _ _ (by have := h.lo; omega))
theorem Head.mark (h : Head w wr N m n r lim cb cp t F f g) : Mid w (wr.setCell ⟨N, 13, none⟩ (.int .i64 ((t : Int) + 1))) N m n r lim cb cp t F f g :=
  ⟨h.sb.setMark _, h.cand.low (by show N < _; omega) _⟩
theorem Mid.ba (h : Mid w wr N m n r lim cb cp t F f g) (y : Nat) : Mid w (wr.setCell ⟨N + 1 + 1 + n + 1 + n + 3, y, none⟩ (.int .i64 ((t : Int) + 1))).drew N m n r lim cb cp t F (fun j => if j = y then (t : Int) + 1 else f j) g :=
  ⟨(h.sb.setBA y _).drew, (h.cand.low (by show N + 1 + 1 + n + 1 + n + 3 < _; omega) _).same rfl⟩
theorem Mid.wa (h : Mid w wr N m n r lim cb cp t F f g) (y : Nat) : Mid w (wr.setCell ⟨N + 1 + 1 + n + 1 + n + 4, y, none⟩ (.int .i64 ((t : Int) + 1))).drew N m n r lim cb cp t F f (fun j => if j = y then (t : Int) + 1 else g j) :=
  ⟨(h.sb.setWA y _).drew, (h.cand.low (by show N + 1 + 1 + n + 1 + n + 4 < _; omega) _).same rfl⟩
theorem Mid.work (h : Mid w wr N m n r lim cb cp t F f g) (k : Int) : Mid w (wr.setCell ⟨N, 4, none⟩ (.int .i64 k)).drew N m n r lim cb cp t F f g :=
  ⟨(h.sb.setWork k).drew, (h.cand.low (by show N < _; omega) _).same rfl⟩
theorem Mid.keep (h : Mid w wr N m n r lim cb cp t F f g) : Keep w wr N m n r lim cb cp t 0 f g :=
  ⟨h.sb, h.cand.lo, h.cand.fit, h.cand.top, F, h.cand.row, fun p hp => by rw [h.cand.vals p hp, if_neg (by omega)]⟩
theorem Keep.at (h : Keep w wr N m n r lim cb cp t i f g) (hi : i < Ls m t) : wr.cell? ⟨cb, i, none⟩ = some (.int .i32 (cd r t i : Int)) := by
  obtain ⟨F, hr, hv⟩ := h.row
  rw [hr.cell (Nat.lt_of_lt_of_le hi h.fit), hv i hi]
  by_cases e : i < i - sh t
  · omega
  · rw [if_neg e]
/-- the candidate is kept -/
theorem Keep.take (h : Keep w wr N m n r lim cb cp t i f g) (hi : i < Ls m t) (hs : sh t ≤ i) (o : Obj) :
    Keep w ((wr.alloc o).setCell ⟨cb, i - sh t, none⟩ (.int .i32 (cd r t i : Int))) N m n r lim cb cp t (i + 1) f g := by
  obtain ⟨F, hr, hv⟩ := h.row
  refine ⟨(h.sb.alloc o).high h.lo _, h.lo, h.fit, h.top, _, (hr.alloc o).set (i - sh t) _, fun p hp => ?_⟩
  show (if p = i - sh t then _ else F p) = _
  by_cases e : p = i - sh t
  · rw [if_pos e, if_pos (by omega), show p + sh t = i by omega]
  · rw [if_neg e, hv p hp]
    by_cases e2 : p < i - sh t
    · rw [if_pos e2, if_pos (by omega)]
    · rw [if_neg e2, if_neg (by omega)]
/-- .. or dropped -/
theorem Keep.skip (h : Keep w wr N m n r lim cb cp t i f g) (hs : i < sh t) : Keep w wr N m n r lim cb cp t (i + 1) f g := by
  obtain ⟨F, hr, hv⟩ := h.row
  refine ⟨h.sb, h.lo, h.fit, h.top, F, hr, fun p hp => ?_⟩
  have h1 : sh t ≤ 1 := by unfold sh; split <;> omega
  rw [hv p hp, if_neg (by omega), if_neg (by omega)]
theorem Keep.drewN (h : Keep w wr N m n r lim cb cp t i f g) (q : Nat) : Keep w (wr.drewN q) N m n r lim cb cp t i f g :=
  ⟨h.sb.same ⟨rfl, rfl, rfl, Nat.le_refl _, fun _ _ => rfl⟩, h.lo, h.fit, h.top, h.row⟩
/-- all are looked at: the round is done -/
theorem Keep.done (h : Keep w wr N m n r lim cb cp t (Ls m t) f g) (ht : t ≤ m) (hf : ∀ j, j < m + 1 → f j ≤ (t : Int) + 1) (hg : ∀ j, j < m + 1 → g j ≤ (t : Int) + 1) :
    ∃ F, Head w (wr.setCell ⟨N, 10, none⟩ (.slice (some ⟨cb, 0, none⟩) (Ls m (t + 1)) cp)) N m n r lim cb cp (t + 1) F f g := by
  obtain ⟨F, hr, hv⟩ := h.row
  obtain ⟨l1, l2, l3⟩ := Ls_next ht
  have hsb := h.sb.setCand (.slice (some ⟨cb, 0, none⟩) (Ls m (t + 1)) cp)
  have e : ((t + 1 : Nat) : Int) = (t : Int) + 1 := by omega
  refine ⟨F, ⟨by rw [e]; exact hsb, ⟨h.lo, by have := h.fit; omega, h.top, hr.setOther (a := ⟨N, 10, none⟩) (by show cb ≠ N; have := h.lo; omega) _, fun p hp => ?_⟩, by rw [e]; exact hf, by rw [e]; exact hg⟩⟩
  rw [hv p (by omega), if_pos (by omega), cd_next]
theorem head_start {W' : World} (hsb : SB w W' N m n nbC lim (.slice none 0 0) 0 (fun _ => 0) (fun _ => 0)) (hc : Cand W' (N + 8 + 2 * n) cb cp m F (nbC r)) :
    Head w (W'.setCell ⟨N, 10, none⟩ (.slice (some ⟨cb, 0, none⟩) m cp)) N m n r lim cb cp 0 F (fun _ => 0) (fun _ => 0) := by
  refine ⟨hsb.setCand _, ?_, fun _ _ => Int.le_refl _, fun _ _ => Int.le_refl _⟩
  have h := hc.low (a := ⟨N, 10, none⟩) (by show N < _; omega) (.slice (some ⟨cb, 0, none⟩) m cp)
  exact ⟨h.lo, h.fit, h.top, h.row, fun i hi => by rw [h.vals i hi]; simp [nbC, cd]⟩
end

set_option maxHeartbeats 2000000 in
set_option maxRecDepth 100000 in
theorem clique_any (N m n r : Nat) (lim : Int) (w : World) (hn : n = m + 1) (hm1 : 1 ≤ m) (hm : m ≤ 511) (hr : r < n) (hl0 : 0 ≤ lim) (hl1 : lim ≤ 9223372036854775806) (hsb : SB w w N m n nbC lim (.slice none 0 0) 0 (fun _ => 0) (fun _ => 0)) :
    Calls Try.prog 39 #[.pointer (some ⟨N, 0, none⟩), .int .i32 r] w fun e w' => e = .returned (.int .i64 (cap (lim + 1) (steps n m))) ∧ Below N w w' := by
  have c0 := hsb.c0
  have c10 := hsb.c10
  have f10 := hsb.free 10
  have et := hsb.etop.cell hr
  obtain ⟨i0, hi, hz0, hz1, hz2⟩ := info_parts info47
  have HN : Hid (n = m + 1) := hn
  clear hn
  have hri : (r : Int) < (n : Int) := by omega
  have s1 : Hid _ := news_cells hsb hr
  have s2 : Hid _ := news_one m r
  have s3 : Hid (0 + m ≤ maxLen) := by unfold maxLen; show 0 + m ≤ _; omega
  go_enter Try.func39, Try.ntmps39
  go_upto_region 1 with fail
  go_cut [] from 17 to 32 (fun wx => ∃ cb cp F, Head w wx N m n r lim cb cp 0 F (fun _ => 0) (fun _ => 0))
  case first =>
    go_region_law (refine step_append_grows rfl (.tmp 22) (.tmp 29) 49 rfl 47 i0 (.int .i32 0) 1 4 Try.underlying49 hi hz0 hz1 hz2 rfl (by decide) none 0 0 [] (by simp [Act.eval, Act.put]) (fun _ => ⟨rfl, rfl⟩) rfl (fun b hb => by cases hb) ⟨N + 1 + 1 + r, 0, none⟩ m m ((List.range m).map fun i => .int .i32 (nbC r i)) (by simp [Act.eval, Act.put]) (by simp) s1.out s2.out (by omega) s3.out (by omega) ?_; intro v' w' hown hgrow; obtain ⟨cb, cp, F, hv, hcd, hsb'⟩ := cand_grown hsb hm1 hown hgrow; clear hown hgrow; subst hv; have a10 := hsb'.c10; have b10 := hsb'.free 10)
    all_goals
      go_wp2
      go_meet
      case rel => exact ⟨_, _, _, head_start (by assumption) (by assumption)⟩
  case rest =>
    obtain ⟨cb, cp, F, h0⟩ := hcut
    clear c0 c10 f10 et s1 s2 s3 hri hsb
    go_wp2
    go_loopw [5, 6] (fun k x wr => ∃ (t : Nat) (F : Nat → Value) (f g : Nat → Int), t ≤ m ∧ k = .int .i64 ((t : Int) + 1) ∧ x = .int .i32 (xs r t) ∧ Head w wr N m n r lim cb cp t F f g) (fun k _ _ => n - (intOf k).toNat)
    case atStart => exact ⟨0, F, _, _, Nat.zero_le _, rfl, rfl, h0⟩
    case round =>
      clear h0
      obtain ⟨t, F, f, g, ht, rfl, rfl, hh⟩ := hrel
      have hX : xs r t < n := by rw [HN.out]; exact xs_lt (by have := HN.out; omega) ht
      obtain ⟨X, HX⟩ : ∃ X, X = xs r t := ⟨_, rfl⟩
      rw [← HX] at hX ⊢
      have HX' : Hid (X = xs r t) := HX
      clear HX
      have q13 := hh.sb.c13
      have p13 := hh.sb.free 13
      go_upto_region 6 with fail
      refine gen_world (fun W => Mid w W N m n r lim cb cp t F f g) hh.mark ?_
      intro W1 hM1
      have q0 := hM1.sb.c0
      have q1 := hM1.sb.etop.cell hX
      clear q13 p13
      have hX' : X < m + 1 := by rw [← HN.out]; exact hX
      have hfle := hh.fle
      have hgle := hh.gle
      clear hh
      go_wp2
      clear q0 q1
      go_loopw [51] (fun i wi => ∃ (k : Nat) (f' : Nat → Int), k ≤ m ∧ i = .int .i64 k ∧ Mid w wi N m n r lim cb cp t F f' g ∧ Mk f' m X k ((t : Int) + 1)) (fun i _ => m - (intOf i).toNat)
      case atStart => exact ⟨0, f, Nat.zero_le _, rfl, hM1, mk_start hX' hfle⟩
      case round =>
        clear hM1
        obtain ⟨k, f', hk, rfl, hM, hmk⟩ := hrel
        by_cases hlt : k < m
        · have q2 := (hM.sb.erow X hX).cell hlt
          obtain ⟨y, hy⟩ : ∃ y, y = nb X k := ⟨_, rfl⟩
          have q3 : wr.cell? ⟨N + 1 + 1 + X, k, none⟩ = some (.int .i32 (y : Int)) := by rw [q2, hy]; rfl
          have hyn : y < n := by rw [hy, HN.out]; exact nb_lt hlt
          have hyi : (y : Int) < (n : Int) := by omega
          have HY : Hid (y = nb X k) := hy
          clear q2 hy
          have q11 := hM.sb.c11
          have q13 := hM.sb.c13
          have q4 := hM.sb.ba.cell hyn
          have q5 := hM.sb.ba.frozen y
          go_wp2
          go_region
          go_wp2
          go_roundw
          case rel =>
            have e := HY.out
            subst e
            exact ⟨k + 1, _, by omega, by go_num, hM.ba _, mk_step hmk⟩
          case measure => simp [intOf]; omega
        · have e : k = m := by omega
          subst e
          have q1 := hM.sb.c1
          have q2 := hM.sb.wtop.cell hX
          go_wp2
          clear q1 q2
          have hmkf := hmk
          clear hmk
          obtain ⟨W2, hW2⟩ : ∃ W2, W2 = wr := ⟨wr, rfl⟩
          subst hW2
          go_loopw [74] (fun i wi => ∃ (j : Nat) (g' : Nat → Int), j ≤ k ∧ i = .int .i64 j ∧ Mid w wi N k n r lim cb cp t F f' g' ∧ Mk g' k X j ((t : Int) + 1)) (fun i _ => k - (intOf i).toNat)
          case atStart => exact ⟨0, g, Nat.zero_le _, rfl, hM, mk_start hX' hgle⟩
          case round =>
            clear hM
            obtain ⟨j, g', hj, rfl, hM, hmk⟩ := hrel
            by_cases hlt : j < k
            · have q2 := (hM.sb.wrow X hX).cell hlt
              obtain ⟨y, hy⟩ : ∃ y, y = nb X j := ⟨_, rfl⟩
              have q3 : wr.cell? ⟨N + 1 + 1 + n + 1 + X, j, none⟩ = some (.int .i32 (y : Int)) := by rw [q2, hy]; rfl
              have hyn : y < n := by rw [hy, HN.out]; exact nb_lt hlt
              have hyi : (y : Int) < (n : Int) := by omega
              have HY : Hid (y = nb X j) := hy
              clear q2 hy
              have q12 := hM.sb.c12
              have q13 := hM.sb.c13
              have q4 := hM.sb.wa.cell hyn
              have q5 := hM.sb.wa.frozen y
              go_wp2
              go_region
              go_wp2
              go_roundw
              case rel =>
                have e := HY.out
                subst e
                exact ⟨j + 1, _, by omega, by go_num, hM.wa _, mk_step hmk⟩
              case measure => simp [intOf]; omega
            · have e : j = k := by omega
              subst e
              obtain ⟨wk, q4⟩ := hM.sb.c4
              have p4 := hM.sb.free 4
              have q0 := hM.sb.c0
              have q1 := hM.sb.c1
              have q2 := hM.sb.etop.cell hX
              have q3 := hM.sb.wtop.cell hX
              have q10 := hM.sb.c10
              go_upto_region 16 with fail
              go_cut [] from 36 to 174 (fun wx => Mid w wx N j n r lim cb cp t F f' g')
              case first =>
                go_region
                all_goals
                  go_wp2
                  go_meet
                  case rel => exact hM.work _
              case rest =>
                clear q0 q1 q2 q3 q4 q10 p4 hM
                have hK0 := hcut.keep
                have hLm := Ls_le ht
                have q10 := hcut.sb.c10
                have hfX := mk_end hmkf hX'
                have hgX := mk_end hmk hX'
                have hfx := hmkf.x
                have hfl := hmkf.le
                have hgl := hmk.le
                clear hcut hmkf hmk hfle hgle
                go_wp2
                clear q10
                go_loopw [11, 130] (fun kp ix wi => ∃ i : Nat, i ≤ Ls j t ∧ ix = .int .i64 i ∧ kp = .slice (some ⟨cb, 0, none⟩) (i - sh t) cp ∧ Keep w wi N j n r lim cb cp t i f' g') (fun _ ix _ => Ls j t - (intOf ix).toNat)
                case atStart => exact ⟨0, Nat.zero_le _, rfl, by simp, hK0⟩
                case round =>
                  clear hK0
                  obtain ⟨i, hiL, rfl, rfl, hK⟩ := hrel
                  by_cases hlt : i < Ls j t
                  · have hcell := hK.at hlt
                    have hyn0 := cd_lt (r := r) ht hlt
                    obtain ⟨y, hy⟩ : ∃ y, y = cd r t i := ⟨_, rfl⟩
                    rw [← hy] at hcell hyn0
                    have hyn : y < n := by rw [HN.out]; exact hyn0
                    have hyi : (y : Int) < (n : Int) := by omega
                    have HY : Hid (y = cd r t i) := hy
                    clear hy
                    have q11 := hK.sb.c11
                    have q12 := hK.sb.c12
                    have q13 := hK.sb.c13
                    have hicp : (i : Int) < ((Ls j t : Nat) : Int) := by omega
                    by_cases hsi : sh t ≤ i
                    · have hne : y ≠ X := by rw [HY.out, HX'.out]; exact cd_ne hsi
                      have b1 : wr.cell? ⟨N + 1 + 1 + n + 1 + n + 3, y, none⟩ = some (.int .i64 ((t : Int) + 1)) := by rw [hK.sb.ba.cell hyn, hfX y hyn0 hne]
                      have b2 : wr.cell? ⟨N + 1 + 1 + n + 1 + n + 4, y, none⟩ = some (.int .i64 ((t : Int) + 1)) := by rw [hK.sb.wa.cell hyn, hgX y hyn0 hne]
                      go_wp2
                      go_quiet (fail)
                      have hK1 := hK.drewN nq
                      have hcpi : i - sh t < cp := by have := hK.fit; omega
                      obtain ⟨wq, hwq⟩ : ∃ wq, wq = wr.drewN nq := ⟨_, rfl⟩
                      rw [← hwq] at hK1 ⊢
                      obtain ⟨Fq, hrq, _⟩ := hK1.row
                      have u1 := fun o => (hrq.alloc o).cell hcpi
                      have u2 := fun o => (hrq.alloc o).frozen (i - sh t)
                      clear b1 b2 q11 q12 q13 hcell hwq
                      go_wp2_with (at_builtin; refine wpList_append_one _ rfl (.tmp 160) (.tmp 162) 49 rfl 47 i0 Try.underlying49 hi hz1 cb (i - sh t) cp rfl ⟨wq.heap.size, 0, none⟩ 1 (.int .i32 (y : Int)) rfl (by simp) rfl (by omega) (by rw [u1]; rfl) (u2 _) ?_)
                      go_roundw
                      case rel =>
                        have e := HY.out
                        subst e
                        exact ⟨i + 1, by omega, by go_num, by rw [show i + 1 - sh t = i - sh t + 1 by omega], hK1.take hlt hsi _⟩
                      case measure => simp [intOf]; omega
                    · have hyX : y = X := by rw [HY.out, HX'.out]; exact cd_eq (by omega)
                      obtain ⟨z, hz⟩ : ∃ z, z = f' X := ⟨_, rfl⟩
                      have hzt : z < (t : Int) + 1 := by rw [hz]; exact hfx
                      have b1 : wr.cell? ⟨N + 1 + 1 + n + 1 + n + 3, y, none⟩ = some (.int .i64 z) := by rw [hK.sb.ba.cell hyn, hz, hyX]
                      have hze : (z == (t : Int) + 1) = false := beq_eq_false_iff_ne.2 (by omega)
                      clear hz hyX
                      go_wp2
                      go_quiet (fail)
                      have hK1 := hK.drewN nq
                      go_wp2
                      go_roundw
                      case rel => exact ⟨i + 1, by omega, by go_num, by rw [show i + 1 - sh t = i - sh t by have h1 : sh t ≤ 1 := by { unfold sh; split <;> omega }; omega], hK1.skip (by omega)⟩
                      case measure => simp [intOf]; omega
                  · have e : i = Ls j t := by omega
                    subst e
                    obtain ⟨l1, l2, l3'⟩ := Ls_next ht
                    have l3 : Hid (Ls j (t + 1) = j - t) := l3'
                    rw [l1]
                    clear l1 l3'
                    have q10 := hK.sb.c10
                    have p10 := hK.sb.free 10
                    obtain ⟨F2, hD⟩ := hK.done ht hfl hgl
                    go_upto_region 25 with fail
                    refine gen_world (fun W => Head w W N j n r lim cb cp (t + 1) F2 f' g') hD ?_
                    intro W4 hD4
                    by_cases htm : t < j
                    · have hL1 : 0 < Ls j (t + 1) := by rw [l3.out]; omega
                      have hL0 : (((Ls j (t + 1) : Nat) : Int) == 0) = false := beq_eq_false_iff_ne.2 (by omega)
                      have q20 : W4.cell? ⟨cb, 0, none⟩ = some (.int .i32 (xs r (t + 1) : Int)) := by
                        rw [hD4.cand.row.cell (by have := hD4.cand.fit; omega), hD4.cand.vals 0 (by omega), xs_next]
                      clear q10 p10
                      go_wp2
                      go_roundw
                      case rel => exact ⟨t + 1, F2, f', g', by omega, by go_num, rfl, hD4⟩
                      case measure => have := HN.out; simp [intOf]; omega
                    · have hL0 : (((Ls j (t + 1) : Nat) : Int) == 0) = true := beq_iff_eq.2 (by have := l3.out; omega)
                      clear q10 p10
                      have e : t = j := by omega
                      subst e
                      have hsb4 := hD4.sb
                      have hc2 := hsb4.c2
                      have hbl : Below N w W4 := hsb4.below
                      clear hD4 hD hsb4 hK hfX hgX hfx hfl hgl
                      go_wp2
                      clear hL0 l2 htm hlt
                      go_loopw [14, 15, 16] (fun st od jj wi => ∃ q : Nat, q ≤ t ∧ jj = .int .i64 ((q : Int) + 2) ∧ st = .int .i64 (cap (lim + 1) (steps n q)) ∧ od = .int .i64 (fall n (q + 1) : Int) ∧ wi = W4) (fun _ _ jj _ => n + 1 - (intOf jj).toNat)
                      case atStart => exact ⟨0, Nat.zero_le _, rfl, by rw [cap_small (by show ((0 : Nat) : Int) ≤ lim + 1; omega)]; rfl, by rw [HN.out]; simp [fall], rfl⟩
                      case round =>
                        obtain ⟨q, hq, rfl, rfl, rfl, rfl⟩ := hrel
                        by_cases hlt : q < t
                        · have o1 : (0 : Int) ≤ (fall n (q + 1) : Int) := by omega
                          by_cases hbig : lim + 1 ≤ (fall n (q + 2) : Int)
                          · have HR : Hid (cap (lim + 1) (steps n t) = lim + 1) := by
                              have := cap_over n q (t - (q + 1)) lim hbig
                              rw [show q + 1 + (t - (q + 1)) = t by omega] at this
                              exact this
                            have HB2 : Hid (lim + 1 ≤ (fall n (q + 2) : Int)) := hbig
                            clear hbig
                            go_wp2_with fail
                            refine (multiply_eq N _ _ (lim + 1) lim _ hc2 ?_ o1 ?_ hl0 hl1 ?_).mono ?_
                            · rw [sM_fall n q lim _ (by have := HN.out; omega), cap_big HB2.out]
                            · have := HN.out; omega
                            · omega
                            rintro e w' ⟨rfl, hw⟩
                            obtain rfl := hw.symm
                            go_wp2
                            go_ret
                            exact ⟨ret_int HR.out.symm, hbl⟩
                          · have hsm : (fall n (q + 2) : Int) ≤ lim := by omega
                            have o2 : (0 : Int) ≤ (fall n (q + 2) : Int) := by omega
                            have o3 := cyc_nonneg n q
                            have o8 : (fall n (q + 2) : Int) / ((q : Int) + 2) ≤ (fall n (q + 2) : Int) := Int.ediv_le_self _ o2
                            have o4 := cap_nonneg (lim + 1) (by omega) (binom n (q + 2) * fact (q + 1) * (q + 3))
                            have o5 := cap_le (lim + 1) (binom n (q + 2) * fact (q + 1) * (q + 3))
                            have o6 := cap_nonneg (lim + 1) (by omega) (steps n q)
                            have o7 := cap_le (lim + 1) (steps n q)
                            clear hbig
                            go_wp2_with fail
                            refine (multiply_eq N _ _ (fall n (q + 2) : Int) lim _ hc2 ?_ o1 ?_ hl0 hl1 ?_).mono ?_
                            · rw [sM_fall n q lim _ (by have := HN.out; omega), cap_small (by omega)]
                            · have := HN.out; omega
                            · omega
                            rintro e w' ⟨rfl, hw⟩
                            obtain rfl := hw.symm
                            go_wp2_with fail
                            refine (multiply_eq N _ _ (cap (lim + 1) (binom n (q + 2) * fact (q + 1) * (q + 3))) lim _ hc2 ?_ o3 ?_ hl0 hl1 ?_).mono ?_
                            · exact sM_cyc n q lim _ _ rfl (by omega)
                            · omega
                            · omega
                            rintro e w' ⟨rfl, hw⟩
                            obtain rfl := hw.symm
                            go_wp2_with fail
                            refine (add_eq N _ _ (cap (lim + 1) (steps n (q + 1))) lim _ hc2 ?_ o6 o4 o7 o5 hl0 hl1).mono ?_
                            · exact sA_steps n q lim hl0
                            rintro e w' ⟨rfl, hw⟩
                            obtain rfl := hw.symm
                            go_wp2
                            go_roundw
                            case rel => exact ⟨q + 1, by omega, by go_num, rfl, rfl, trivial⟩
                            case measure => have := HN.out; simp [intOf]; omega
                        · have e : q = t := by omega
                          subst e
                          go_wp2
                          go_ret
                          exact ⟨rfl, hbl⟩
end Go.Proofs.Qxb6000686a
