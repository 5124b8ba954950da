/-
  SEAT b6601481a: THE WALK OF (*totals).add (29), on.
-/
import Derived.Test.Qxb6601481aAdd
namespace Go.Proofs.Qxb6601481a
open Go.RowKit Go.Deep
set_option linter.unusedVariables false
set_option linter.unusedSimpArgs false

theorem wr64 (n : Int) (h1 : -9223372036854775808 ≤ n) (h2 : n ≤ 9223372036854775807) : wrap64 n = n := by unfold wrap64; omega
theorem na_next (t' t : Tot) (k j : Nat) : (if j = k then t'.na k else if j < k then t'.na j else t.na j) = (if j < k + 1 then t'.na j else t.na j) := by
  by_cases e : j = k
  · subst e; simp
  · rw [if_neg e]
    by_cases e2 : j < k
    · rw [if_pos e2, if_pos (by omega)]
    · rw [if_neg e2, if_neg (by omega)]
/-- 'p != nil', p no nil pointer -/
theorem neq_ptr_nil (tp : TypeId) (te : TypeId) (hp : Try.prog.underlying tp = some (.pointer te)) (a : Addr) (w : World) : (binOp .neq tp (.pointer (some a)) (.pointer none)).run Try.prog w = .ok (.bool true) w := by
  go_simp

set_option maxHeartbeats 4000000 in
set_option maxRecDepth 100000 in
theorem add_any (x : Cx) (ok : x.Ok) (t t' : Tot) (ht : t' = step t x.o) (cal : Calm t)
    (st : ∀ W, Has W x.w.heap.size 74 (oc x.o (.slice x.a x.n x.c)) → Kept (fun _ => False) x.w W → x.St (x.z t.und t.dis t.val t.ones t.rmax t.ms t.mb t.rs t.dec (if x.hasP then t.ps else 0)) t.sf t.cm t.pmax t.na W) :
    Calls Try.prog 29 #[.pointer (some ⟨x.T, 0, none⟩), .agg (oc x.o (.slice x.a x.n x.c))] x.w fun e w' => e = .returned (.tuple #[]) ∧ x.St (x.z t'.und t'.dis t'.val t'.ones t'.rmax t'.ms t'.mb t'.rs t'.dec (if x.hasP then t'.ps else 0)) t'.sf (if x.hasP then t'.cm else t.cm) (if x.hasP then t'.pmax else t.pmax) (if x.hasP then t'.na else t.na) w' := by
  have ST := hid0 (st (x.w.alloc (.cells (oc x.o (.slice x.a x.n x.c)) 74)) (has_new _ _ _) ((Kept.refl _ _).alloc _))
  clear st
  have HT := hid0 ht
  clear ht
  have OK := hid0 ok
  have CAL := hid0 cal
  clear cal
  go_enter Try.func29, Try.ntmps29
  unfold oc at *
  go_upto_region 2 with fail
  refine gen_world _ ST.out ?_
  clear ST
  intro V ST
  obtain ⟨X, hX⟩ : ∃ X : Value, X = .agg (oc x.o (.slice x.a x.n x.c)) := ⟨_, rfl⟩
  unfold oc at hX
  rw [← hX]
  clear hX
  have hne : ¬ x.T = x.w.heap.size := by have := ok.Tw; omega
  have hne' : ¬ x.w.heap.size = x.T := by omega
  have ST1 := hid0 (Cx.St.drew (ST.setZ ok 17 (.int .i64 t'.ms) (x.z t.und t.dis t.val t.ones t.rmax t'.ms t.mb t.rs t.dec (if x.hasP then t.ps else 0)) rfl))
  have q0 : wrap64 (t.ms + x.o.ms) = t'.ms := by rw [HT.out]; rfl
  have q1 := ST.z.cell 17 (.int .i64 t.ms) rfl
  have q2 := ST.z.frozen 17
  have q3 := ST.o.cell 6 (.int .i64 x.o.ms) rfl
  go_region
  go_upto_region 3 with fail
  refine gen_world _ ST1.out ?_
  clear ST1 ST q0 q1 q2 q3 V
  intro V ST
  have ST1 := hid0 (Cx.St.drew (ST.setZ ok 18 (.int .i64 t'.mb) (x.z t.und t.dis t.val t.ones t.rmax t'.ms t'.mb t.rs t.dec (if x.hasP then t.ps else 0)) rfl))
  have q0 : (if t.mb < x.o.mb then x.o.mb else t.mb) = t'.mb := by rw [HT.out]; rfl
  have q1 := ST.z.cell 18 (.int .i64 t.mb) rfl
  have q2 := ST.z.frozen 18
  have q3 := ST.o.cell 7 (.int .i64 x.o.mb) rfl
  go_region
  clear q0 q1 q2 q3
  have q4 := ST.o.cell 0 (.bool x.o.und) rfl
  go_upto_if 30 with fail
  refine gen_world _ ST1.out ?_
  clear ST1 ST q4 V
  intro V ST
  go_cut [] from 7 (fun wx => x.St (x.z t'.und t.dis t.val t.ones t.rmax t'.ms t'.mb t.rs t.dec (if x.hasP then t.ps else 0)) t.sf t.cm t.pmax t.na wx)
  case first => as_aux_lemma =>
    by_cases hb : x.o.und = true
    · have q1 := ST.z.cell 10 (.int .i64 t.und) rfl
      have q2 := ST.z.frozen 10
      have hw : wrap64 (t.und + 1) = t'.und := by
        have := CAL.out.und
        rw [wr64 _ (by omega) (by omega), HT.out]
        simp [step, b2, hb]
      have ST1 := hid0 (ST.setZ ok 10 (.int .i64 t'.und) (x.z t'.und t.dis t.val t.ones t.rmax t'.ms t'.mb t.rs t.dec (if x.hasP then t.ps else 0)) rfl)
      clear ST
      rw [hb]
      go_wp2
      go_meet
      case rel => exact ST1.out
    · have e : t'.und = t.und := by rw [HT.out]; simp [step, b2, hb]
      have HE := hid0 e
      have ST1 := hid0 ST
      clear ST e
      go_wp2
      go_meet
      case rel => rw [HE.out]; exact ST1.out
  replace ST := hcut
  clear hcut
  have q4 := ST.o.cell 1 (.bool x.o.dis) rfl
  go_upto_if 39 with fail
  clear q4
  go_cut [] from 7 (fun wx => x.St (x.z t'.und t'.dis t.val t.ones t.rmax t'.ms t'.mb t.rs t.dec (if x.hasP then t.ps else 0)) t.sf t.cm t.pmax t.na wx)
  case first => as_aux_lemma =>
    by_cases hb : x.o.dis = true
    · have q1 := ST.z.cell 11 (.int .i64 t.dis) rfl
      have q2 := ST.z.frozen 11
      have hw : wrap64 (t.dis + 1) = t'.dis := by
        have := CAL.out.dis
        rw [wr64 _ (by omega) (by omega), HT.out]
        simp [step, b2, hb]
      have ST1 := hid0 (ST.setZ ok 11 (.int .i64 t'.dis) (x.z t'.und t'.dis t.val t.ones t.rmax t'.ms t'.mb t.rs t.dec (if x.hasP then t.ps else 0)) rfl)
      clear ST
      rw [hb]
      go_wp2
      go_meet
      case rel => exact ST1.out
    · have e : t'.dis = t.dis := by rw [HT.out]; simp [step, b2, hb]
      have HE := hid0 e
      have ST1 := hid0 ST
      clear ST e
      go_wp2
      go_meet
      case rel => rw [HE.out]; exact ST1.out
  replace ST := hcut
  clear hcut
  have q4 := ST.o.cell 2 (.bool x.o.val) rfl
  go_upto_if 48 with fail
  clear q4
  go_cut [] from 7 (fun wx => x.St (x.z t'.und t'.dis t'.val t.ones t.rmax t'.ms t'.mb t.rs t.dec (if x.hasP then t.ps else 0)) t.sf t.cm t.pmax t.na wx)
  case first => as_aux_lemma =>
    by_cases hb : x.o.val = true
    · have q1 := ST.z.cell 12 (.int .i64 t.val) rfl
      have q2 := ST.z.frozen 12
      have hw : wrap64 (t.val + 1) = t'.val := by
        have := CAL.out.val
        rw [wr64 _ (by omega) (by omega), HT.out]
        simp [step, b2, hb]
      have ST1 := hid0 (ST.setZ ok 12 (.int .i64 t'.val) (x.z t'.und t'.dis t'.val t.ones t.rmax t'.ms t'.mb t.rs t.dec (if x.hasP then t.ps else 0)) rfl)
      clear ST
      rw [hb]
      go_wp2
      go_meet
      case rel => exact ST1.out
    · have e : t'.val = t.val := by rw [HT.out]; simp [step, b2, hb]
      have HE := hid0 e
      have ST1 := hid0 ST
      clear ST e
      go_wp2
      go_meet
      case rel => rw [HE.out]; exact ST1.out
  replace ST := hcut
  clear hcut
  have q4 := ST.o.cell 3 (.bool x.o.ones) rfl
  go_upto_if 57 with fail
  clear q4
  go_cut [] from 7 (fun wx => x.St (x.z t'.und t'.dis t'.val t'.ones t.rmax t'.ms t'.mb t.rs t.dec (if x.hasP then t.ps else 0)) t.sf t.cm t.pmax t.na wx)
  case first => as_aux_lemma =>
    by_cases hb : x.o.ones = true
    · have q1 := ST.z.cell 13 (.int .i64 t.ones) rfl
      have q2 := ST.z.frozen 13
      have hw : wrap64 (t.ones + 1) = t'.ones := by
        have := CAL.out.ones
        rw [wr64 _ (by omega) (by omega), HT.out]
        simp [step, b2, hb]
      have ST1 := hid0 (ST.setZ ok 13 (.int .i64 t'.ones) (x.z t'.und t'.dis t'.val t'.ones t.rmax t'.ms t'.mb t.rs t.dec (if x.hasP then t.ps else 0)) rfl)
      clear ST
      rw [hb]
      go_wp2
      go_meet
      case rel => exact ST1.out
    · have e : t'.ones = t.ones := by rw [HT.out]; simp [step, b2, hb]
      have HE := hid0 e
      have ST1 := hid0 ST
      clear ST e
      go_wp2
      go_meet
      case rel => rw [HE.out]; exact ST1.out
  replace ST := hcut
  clear hcut
  have q4 := ST.o.cell 4 (.bool x.o.sf) rfl
  go_upto_if 66 with fail
  clear q4
  go_cut [] from 7 (fun wx => x.St (x.z t'.und t'.dis t'.val t'.ones t.rmax t'.ms t'.mb t.rs t.dec (if x.hasP then t.ps else 0)) t'.sf t.cm t.pmax t.na wx)
  case first => as_aux_lemma =>
    by_cases hb : x.o.sf = true
    · have hs := ok.sf hb
      have hsp : x.sp = some ⟨x.S, 0, none⟩ := by simp [Cx.sp, hs]
      have q1 := ST.z.cell 14 (.pointer (some ⟨x.S, 0, none⟩)) (by rw [← hsp]; rfl)
      have q2 := (ST.s hs).cell 0 (.int .i64 t.sf) rfl
      have q3 := (ST.s hs).frozen 0
      have hw : wrap64 (t.sf + 1) = t'.sf := by
        have := CAL.out.sf
        rw [wr64 _ (by omega) (by omega), HT.out]
        simp [step, b2, hb]
      have ST1 := hid0 (ST.setS ok hs t'.sf)
      clear ST
      rw [hb]
      go_wp2
      go_meet
      case rel => exact ST1.out
    · have e : t'.sf = t.sf := by rw [HT.out]; simp [step, b2, hb]
      have HE := hid0 e
      have ST1 := hid0 ST
      clear ST e
      go_wp2
      go_meet
      case rel => rw [HE.out]; exact ST1.out
  replace ST := hcut
  clear hcut
  have q4 := ST.o.cell 5 (.int .i64 x.o.lr) rfl
  go_upto_if 77 with fail
  go_cut [] from 7 (fun wx => x.St (x.z t'.und t'.dis t'.val t'.ones t'.rmax t'.ms t'.mb t'.rs t'.dec (if x.hasP then t.ps else 0)) t'.sf t.cm t.pmax t.na wx)
  case first => as_aux_lemma =>
    by_cases hb : 0 < x.o.lr
    · have q0 : (if t.rmax < x.o.lr then x.o.lr else t.rmax) = t'.rmax := by rw [HT.out]; simp [step, mx, hb]
      have q1 := ST.z.cell 15 (.int .i64 t.rmax) rfl
      have q2 := ST.z.frozen 15
      have ST1 := hid0 (Cx.St.drew (ST.setZ ok 15 (.int .i64 t'.rmax) (x.z t'.und t'.dis t'.val t'.ones t'.rmax t'.ms t'.mb t.rs t.dec (if x.hasP then t.ps else 0)) rfl))
      go_upto_region 15 with fail
      go_region
      clear q0 q1 q2 q4
      go_upto_region 16 with fail
      refine gen_world _ ST1.out ?_
      clear ST1 ST V
      intro V ST
      have q0 : wrap64 (t.rs + x.o.lr) = t'.rs := by
        have := CAL.out.rs
        have := ok.lr
        rw [wr64 _ (by omega) (by omega), HT.out]
        simp [step, hb]
      have q1 := ST.z.cell 20 (.int .i64 t.rs) rfl
      have q2 := ST.z.frozen 20
      have q4 := ST.o.cell 5 (.int .i64 x.o.lr) rfl
      have ST1 := hid0 (Cx.St.drew (ST.setZ ok 20 (.int .i64 t'.rs) (x.z t'.und t'.dis t'.val t'.ones t'.rmax t'.ms t'.mb t'.rs t.dec (if x.hasP then t.ps else 0)) rfl))
      go_region
      clear q0 q1 q2 q4
      go_upto_region 17 with fail
      refine gen_world _ ST1.out ?_
      clear ST1 ST V
      intro V ST
      have hw : wrap64 (t.dec + 1) = t'.dec := by
        have := CAL.out.dec
        rw [wr64 _ (by omega) (by omega), HT.out]
        simp [step, hb]
      have q1 := ST.z.cell 21 (.int .i64 t.dec) rfl
      have q2 := ST.z.frozen 21
      have ST1 := hid0 (ST.setZ ok 21 (.int .i64 t'.dec) (x.z t'.und t'.dis t'.val t'.ones t'.rmax t'.ms t'.mb t'.rs t'.dec (if x.hasP then t.ps else 0)) rfl)
      clear ST
      go_wp2
      go_meet
      case rel => exact ST1.out
    · have e1 : t'.rmax = t.rmax := by rw [HT.out]; simp [step, hb]
      have e2 : t'.rs = t.rs := by rw [HT.out]; simp [step, hb]
      have e3 : t'.dec = t.dec := by rw [HT.out]; simp [step, hb]
      have HE := hid0 (And.intro e1 (And.intro e2 e3))
      have ST1 := hid0 ST
      clear ST e1 e2 e3
      go_wp2
      go_meet
      case rel => rw [HE.out.1, HE.out.2.1, HE.out.2.2]; exact ST1.out
  replace ST := hcut
  clear hcut q4
  by_cases hP : x.hasP = true
  · as_aux_lemma =>
    rw [if_pos hP] at ST
    have hpp : x.pp = some ⟨x.PR, 0, none⟩ := by simp [Cx.pp, hP]
    have q1 := ST.z.cell 19 (.pointer (some ⟨x.PR, 0, none⟩)) (by rw [← hpp]; rfl)
    have hnp := neq_ptr_nil 40 56 Try.underlying40
    have q3 := (ST.p hP).cell 1 (.int .i64 t.cm) rfl
    have q4 := (ST.p hP).frozen 1
    have q5 := ST.o.cell 9 (.int .i64 x.o.cm) rfl
    have q6 : wrap64 (t.cm + x.o.cm) = t'.cm := by rw [HT.out]; rfl
    have ST1 := hid0 (Cx.St.drew (ST.setC ok hP t'.cm))
    go_upto_region 19 with fail
    go_region
    clear q1 q3 q4 q5 q6
    go_upto_region 20 with fail
    refine gen_world _ ST1.out ?_
    clear ST1 ST wc
    intro V ST
    have q1 := ST.z.cell 19 (.pointer (some ⟨x.PR, 0, none⟩)) (by rw [← hpp]; rfl)
    have q3 := (ST.p hP).cell 2 (.int .i64 t.pmax) rfl
    have q4 := (ST.p hP).frozen 2
    have q5 := ST.o.cell 10 (.int .i64 x.o.pp) rfl
    have q6 : (if t.pmax < x.o.pp then x.o.pp else t.pmax) = t'.pmax := by rw [HT.out]; rfl
    have ST1 := hid0 (Cx.St.drew (ST.setX ok hP t'.pmax))
    go_region
    clear q1 q3 q4 q5 q6
    go_upto_region 21 with fail
    refine gen_world _ ST1.out ?_
    clear ST1 ST V
    intro V ST
    have q3 := ST.z.cell 22 (.int .i64 t.ps) rfl
    have q4 := ST.z.frozen 22
    have q5 := ST.o.cell 10 (.int .i64 x.o.pp) rfl
    have q6 : wrap64 (t.ps + x.o.pp) = t'.ps := by
      have := CAL.out.ps
      have := ok.pp1
      have := ok.pp2
      rw [wr64 _ (by omega) (by omega), HT.out]
      rfl
    have ST1 := hid0 (Cx.St.drew (ST.setZ ok 22 (.int .i64 t'.ps) (x.z t'.und t'.dis t'.val t'.ones t'.rmax t'.ms t'.mb t'.rs t'.dec t'.ps) rfl))
    go_region
    clear q3 q4 q5 q6
    go_upto_region 22 with fail
    refine gen_world _ ST1.out ?_
    clear ST1 ST V
    intro V ST
    have q1 := ST.z.cell 19 (.pointer (some ⟨x.PR, 0, none⟩)) (by rw [← hpp]; rfl)
    have q2 := (ST.p hP).cell 0 (.slice (some ⟨x.NR, 0, none⟩) x.ph x.ph) rfl
    have q3 := ST.o.cell 8 (.slice x.a x.n x.c) rfl
    have hn : x.n = x.o.nl := by
      rcases ST.b.it with ⟨a1, c1, h1, h2⟩ | ⟨b, off, cap, h1, _⟩
      · simp only [Value.slice.injEq] at h1
        omega
      · simp only [Value.slice.injEq] at h1
        omega
    have hn2 : x.n ≤ 1048576 := by have := ok.nl2; omega
    have hph := ok.ph2
    have ST1 := hid0 ST
    clear ST
    go_wp2
    clear q1 q2 q3
    go_loopw [158] (fun i wr => ∃ k : Nat, k ≤ x.ph ∧ i = .int .i64 k ∧ x.St (x.z t'.und t'.dis t'.val t'.ones t'.rmax t'.ms t'.mb t'.rs t'.dec t'.ps) t'.sf t'.cm t'.pmax (fun j => if j < k then t'.na j else t.na j) wr) (fun i _ => x.ph - (intOf i).toNat)
    case atStart => exact ⟨0, Nat.zero_le _, rfl, by simpa using ST1.out⟩
    case round => as_aux_lemma =>
      clear ST1
      obtain ⟨k, hk, rfl, ST⟩ := hrel
      by_cases hlt : k < x.ph
      · have hpos := ok.nl hP (by omega)
        obtain ⟨b, off, cap, h1, hbc⟩ : ∃ b off cap, Value.slice x.a x.n x.c = .slice (some ⟨b, off, none⟩) x.o.nl cap ∧ ∀ i, i < x.o.nl → (x.LA ≤ b ∧ b < x.LB) ∧ wr.cell? ⟨b, off + i, none⟩ = some (.bool (x.o.na i)) := by
          rcases ST.b.it with ⟨_, _, _, h2⟩ | h
          · omega
          · exact h
        have hm : min k (x.o.nl - 1) < x.o.nl := by omega
        have q1 := ST.z.cell 19 (.pointer (some ⟨x.PR, 0, none⟩)) (by rw [← hpp]; rfl)
        have q2 := (ST.p hP).cell 0 (.slice (some ⟨x.NR, 0, none⟩) x.ph x.ph) rfl
        have q3 := ST.o.cell 8 (.slice (some ⟨b, off, none⟩) x.o.nl cap) (by rw [← h1]; rfl)
        have q5 : wr.cell? ⟨x.NR, k, none⟩ = some (.int .i64 (t.na k)) := by
          have h := (ST.r hP).cell hlt
          rw [if_neg (Nat.lt_irrefl k)] at h
          exact h
        have q6 := (ST.r hP).frozen k
        by_cases hkl : (x.o.nl : Int) - 1 < (k : Int)
        · obtain ⟨bv, hbv⟩ : ∃ bv, x.o.na (x.o.nl - 1) = bv := ⟨_, rfl⟩
          have hq := (hbc (x.o.nl - 1) (by omega)).2
          rw [hbv] at hq
          have hmn : min k (x.o.nl - 1) = (x.o.nl - 1) := by omega
          have HA := hid0 (fun j (_ : j < x.ph) => show (if j = k then t'.na k else if j < k then t'.na j else t.na j) = (if j < k + 1 then t'.na j else t.na j) from na_next t' t k j)
          clear hbc h1 hm
          cases bv
          · as_aux_lemma =>
            have e : t'.na k = t.na k := by rw [HT.out]; simp [step, hmn, hbv, b2]
            have ST1 := hid0 (show x.St (x.z t'.und t'.dis t'.val t'.ones t'.rmax t'.ms t'.mb t'.rs t'.dec t'.ps) t'.sf t'.cm t'.pmax (fun j => if j < k + 1 then t'.na j else t.na j) wr from ⟨ST.z, ST.o, ST.s, ST.p, fun hp => (ST.r hp).congr (fun j hj => by rw [← HA.out j hj]; by_cases ej : j = k; (subst ej; simp [e]); (simp [ej])), ST.b, ST.k⟩)
            clear ST e HA
            go_wp2
            go_roundw
            case rel => exact ⟨k + 1, by omega, by go_num, ST1.out⟩
            case measure => simp [intOf]; omega
          · as_aux_lemma =>
            have hw : wrap64 (t.na k + 1) = t'.na k := by
              have := CAL.out.na k
              rw [wr64 _ (by omega) (by omega), HT.out]
              simp [step, hmn, hbv, b2]
            have ST1 := hid0 (ST.setR ok hP k (t'.na k) (fun j => if j < k + 1 then t'.na j else t.na j) HA.out)
            clear ST HA
            go_wp2
            go_roundw
            case rel => exact ⟨k + 1, by omega, by go_num, ST1.out⟩
            case measure => simp [intOf]; omega
        · obtain ⟨bv, hbv⟩ : ∃ bv, x.o.na k = bv := ⟨_, rfl⟩
          have hq := (hbc k (by omega)).2
          rw [hbv] at hq
          have hmn : min k (x.o.nl - 1) = k := by omega
          have HA := hid0 (fun j (_ : j < x.ph) => show (if j = k then t'.na k else if j < k then t'.na j else t.na j) = (if j < k + 1 then t'.na j else t.na j) from na_next t' t k j)
          clear hbc h1 hm
          cases bv
          · as_aux_lemma =>
            have e : t'.na k = t.na k := by rw [HT.out]; simp [step, hmn, hbv, b2]
            have ST1 := hid0 (show x.St (x.z t'.und t'.dis t'.val t'.ones t'.rmax t'.ms t'.mb t'.rs t'.dec t'.ps) t'.sf t'.cm t'.pmax (fun j => if j < k + 1 then t'.na j else t.na j) wr from ⟨ST.z, ST.o, ST.s, ST.p, fun hp => (ST.r hp).congr (fun j hj => by rw [← HA.out j hj]; by_cases ej : j = k; (subst ej; simp [e]); (simp [ej])), ST.b, ST.k⟩)
            clear ST e HA
            go_wp2
            go_roundw
            case rel => exact ⟨k + 1, by omega, by go_num, ST1.out⟩
            case measure => simp [intOf]; omega
          · as_aux_lemma =>
            have hw : wrap64 (t.na k + 1) = t'.na k := by
              have := CAL.out.na k
              rw [wr64 _ (by omega) (by omega), HT.out]
              simp [step, hmn, hbv, b2]
            have ST1 := hid0 (ST.setR ok hP k (t'.na k) (fun j => if j < k + 1 then t'.na j else t.na j) HA.out)
            clear ST HA
            go_wp2
            go_roundw
            case rel => exact ⟨k + 1, by omega, by go_num, ST1.out⟩
            case measure => simp [intOf]; omega
      · have e : k = x.ph := by omega
        have ST1 := hid0 ST
        clear ST
        go_wp2
        go_end0
        refine ⟨rfl, ?_⟩
        have h := ST1.out
        exact ⟨h.z, h.o, h.s, h.p, fun hp => (h.r hp).congr (fun j hj => by rw [if_pos (by omega)]), h.b, h.k⟩
  · have hpp : x.pp = none := by simp [Cx.pp, hP]
    have q1 := ST.z.cell 19 (.pointer none) (by rw [← hpp]; rfl)
    simp only [hP] at ST
    have ST1 := hid0 ST
    clear ST
    go_wp2
    go_end0
    exact ⟨rfl, by simpa [hP] using ST1.out⟩
end Go.Proofs.Qxb6601481a
