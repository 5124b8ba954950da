/-
  SEAT b6601481a: THE WALK OF (*totals).add (29).
-/
import Derived.Test.Qxb6601481aZout
namespace Go.Proofs.Qxb6601481a
open Go.RowKit Go.Deep
set_option linter.unusedVariables false
set_option linter.unusedSimpArgs false

def step (t : Tot) (o : Out) : Tot where
  und := t.und + b2 o.und
  dis := t.dis + b2 o.dis
  val := t.val + b2 o.val
  ones := t.ones + b2 o.ones
  sf := t.sf + b2 o.sf
  rmax := if 0 < o.lr then mx t.rmax o.lr else t.rmax
  ms := wrap64 (t.ms + o.ms)
  mb := mx t.mb o.mb
  rs := if 0 < o.lr then t.rs + o.lr else t.rs
  dec := if 0 < o.lr then t.dec + 1 else t.dec
  cm := wrap64 (t.cm + o.cm)
  pmax := mx t.pmax o.pp
  ps := t.ps + o.pp
  na := fun k => t.na k + b2 (o.na (min k (o.nl - 1)))

/-- no sum comes near to the edge -/
structure Calm (t : Tot) : Prop where
  und : 0 ≤ t.und ∧ t.und ≤ 1000000
  dis : 0 ≤ t.dis ∧ t.dis ≤ 1000000
  val : 0 ≤ t.val ∧ t.val ≤ 1000000
  ones : 0 ≤ t.ones ∧ t.ones ≤ 1000000
  sf : 0 ≤ t.sf ∧ t.sf ≤ 1000000
  dec : 0 ≤ t.dec ∧ t.dec ≤ 1000000
  rs : 0 ≤ t.rs ∧ t.rs ≤ 4611686018427387904
  ps : -4611686018427387904 ≤ t.ps ∧ t.ps ≤ 4611686018427387904
  na : ∀ k, 0 ≤ t.na k ∧ t.na k ≤ 1000000

theorem wrap_id (x : Int) (h1 : -9223372036854775808 ≤ x) (h2 : x ≤ 9223372036854775807) : IntKind.i64.wrap x = x := by rw [IntKind.wrap_i64]; omega

/-- WHAT STANDS FAST while add runs. -/
structure Cx where
  w : World
  T : Nat
  S : Nat
  PR : Nat
  NR : Nat
  LA : Nat
  LB : Nat
  ph : Nat
  hasS : Bool
  hasP : Bool
  o : Out
  a : Option Addr
  n : Nat
  c : Nat
  inst : Int
  mean : Nat
  pm : Nat
def Cx.sp (x : Cx) : Option Addr := if x.hasS then some ⟨x.S, 0, none⟩ else none
def Cx.pp (x : Cx) : Option Addr := if x.hasP then some ⟨x.PR, 0, none⟩ else none
def Cx.K (x : Cx) : Nat → Prop := fun b => b = x.T ∨ (x.hasS = true ∧ b = x.S) ∨ (x.hasP = true ∧ b = x.PR) ∨ (x.hasP = true ∧ b = x.NR)
def Cx.z (x : Cx) (und dis val ones rmax ms mb rs dec ps : Int) : Array Value := zcells x.inst x.sp x.pp x.mean und dis val ones rmax ms mb rs dec ps
def prc (NR ph : Nat) (cm pmax : Int) (pm : Nat) : Array Value := #[.slice (some ⟨NR, 0, none⟩) ph ph, .int .i64 cm, .int .i64 pmax, .float .f64 pm]

structure Cx.Ok (x : Cx) : Prop where
  TS : x.hasS = true → x.T ≠ x.S
  TP : x.hasP = true → x.T ≠ x.PR
  TN : x.hasP = true → x.T ≠ x.NR
  SP : x.hasS = true → x.hasP = true → x.S ≠ x.PR
  SN : x.hasS = true → x.hasP = true → x.S ≠ x.NR
  PN : x.hasP = true → x.PR ≠ x.NR
  BT : x.LB ≤ x.T
  BS : x.hasS = true → x.S < x.LA ∨ x.LB ≤ x.S
  BP : x.hasP = true → x.PR < x.LA ∨ x.LB ≤ x.PR
  BN : x.hasP = true → x.NR < x.LA ∨ x.LB ≤ x.NR
  Tw : x.T < x.w.heap.size
  Sw : x.hasS = true → x.S < x.w.heap.size
  Pw : x.hasP = true → x.PR < x.w.heap.size
  Nw : x.hasP = true → x.NR < x.w.heap.size
  sf : x.o.sf = true → x.hasS = true
  nl : x.hasP = true → 0 < x.ph → 0 < x.o.nl
  nl2 : x.o.nl ≤ 1048576
  ph2 : x.ph ≤ 4096
  lr : x.o.lr ≤ 1099511627776
  pp1 : -1099511627776 ≤ x.o.pp
  pp2 : x.o.pp ≤ 1099511627776

/-- HOW MEMORY STANDS while add runs: zc: the totals' cells. -/
structure Cx.St (x : Cx) (zc : Array Value) (sf cm pmax : Int) (na : Nat → Int) (wx : World) : Prop where
  z : Has wx x.T 70 zc
  o : Has wx x.w.heap.size 74 (oc x.o (.slice x.a x.n x.c))
  s : x.hasS = true → Has wx x.S 3 #[.int .i64 sf]
  p : x.hasP = true → Has wx x.PR 56 (prc x.NR x.ph cm pmax x.pm)
  r : x.hasP = true → wx.rowIs x.NR 3 x.ph (fun k => .int .i64 (na k))
  b : Bools x.LA x.LB wx (.slice x.a x.n x.c) x.o.nl x.o.na
  k : Kept x.K x.w wx

section
variable {x : Cx} {zc : Array Value} {sf cm pmax : Int} {na : Nat → Int} {wx : World}
theorem Cx.St.drew (h : x.St zc sf cm pmax na wx) : x.St zc sf cm pmax na wx.drew :=
  ⟨h.z, h.o, h.s, h.p, h.r, h.b.kept (fun _ _ _ => rfl), h.k.drew⟩
theorem Cx.St.setZ (h : x.St zc sf cm pmax na wx) (ok : x.Ok) (i : Nat) (v : Value) (zc' : Array Value) (e : zc.setIfInBounds i v = zc') : x.St zc' sf cm pmax na (wx.setCell ⟨x.T, i, none⟩ v) :=
  ⟨h.z.set i v _ e, h.o.setOther (by have := ok.Tw; simp; omega) _, fun hs => (h.s hs).setOther (by have := ok.TS hs; simp; omega) _, fun hp => (h.p hp).setOther (by have := ok.TP hp; simp; omega) _, fun hp => (h.r hp).setOther (by have := ok.TN hp; simp; omega) _,
    h.b.kept (fun b ha hb => blk_setCell_other _ _ _ _ (by have := ok.BT; simp; omega)), h.k.setCell (.inl (.inl rfl)) _⟩
theorem Cx.St.setS (h : x.St zc sf cm pmax na wx) (ok : x.Ok) (hs : x.hasS = true) (sf' : Int) : x.St zc sf' cm pmax na (wx.setCell ⟨x.S, 0, none⟩ (.int .i64 sf')) :=
  ⟨h.z.setOther (by have := ok.TS hs; simp; omega) _, h.o.setOther (by have := ok.Sw hs; simp; omega) _, fun hs => (h.s hs).set 0 _ _ rfl, fun hp => (h.p hp).setOther (by have := ok.SP hs hp; simp; omega) _, fun hp => (h.r hp).setOther (by have := ok.SN hs hp; simp; omega) _,
    h.b.kept (fun b ha hb => blk_setCell_other _ _ _ _ (by have := ok.BS hs; simp; omega)), h.k.setCell (.inl (.inr (.inl ⟨hs, rfl⟩))) _⟩
theorem Cx.St.setC (h : x.St zc sf cm pmax na wx) (ok : x.Ok) (hP : x.hasP = true) (cm' : Int) : x.St zc sf cm' pmax na (wx.setCell ⟨x.PR, 1, none⟩ (.int .i64 cm')) :=
  ⟨h.z.setOther (by have := ok.TP hP; simp; omega) _, h.o.setOther (by have := ok.Pw hP; simp; omega) _, fun hs => (h.s hs).setOther (by have := ok.SP hs hP; simp; omega) _, fun hp => (h.p hp).set 1 _ _ rfl, fun hp => (h.r hp).setOther (by have := ok.PN hP; simp; omega) _,
    h.b.kept (fun b ha hb => blk_setCell_other _ _ _ _ (by have := ok.BP hP; simp; omega)), h.k.setCell (.inl (.inr (.inr (.inl ⟨hP, rfl⟩)))) _⟩
theorem Cx.St.setX (h : x.St zc sf cm pmax na wx) (ok : x.Ok) (hP : x.hasP = true) (pmax' : Int) : x.St zc sf cm pmax' na (wx.setCell ⟨x.PR, 2, none⟩ (.int .i64 pmax')) :=
  ⟨h.z.setOther (by have := ok.TP hP; simp; omega) _, h.o.setOther (by have := ok.Pw hP; simp; omega) _, fun hs => (h.s hs).setOther (by have := ok.SP hs hP; simp; omega) _, fun hp => (h.p hp).set 2 _ _ rfl, fun hp => (h.r hp).setOther (by have := ok.PN hP; simp; omega) _,
    h.b.kept (fun b ha hb => blk_setCell_other _ _ _ _ (by have := ok.BP hP; simp; omega)), h.k.setCell (.inl (.inr (.inr (.inl ⟨hP, rfl⟩)))) _⟩
theorem Cx.St.setR (h : x.St zc sf cm pmax na wx) (ok : x.Ok) (hP : x.hasP = true) (i : Nat) (v : Int) (na' : Nat → Int) (e : ∀ j, j < x.ph → (if j = i then v else na j) = na' j) : x.St zc sf cm pmax na' (wx.setCell ⟨x.NR, i, none⟩ (.int .i64 v)) :=
  ⟨h.z.setOther (by have := ok.TN hP; simp; omega) _, h.o.setOther (by have := ok.Nw hP; simp; omega) _, fun hs => (h.s hs).setOther (by have := ok.SN hs hP; simp; omega) _, fun hp => (h.p hp).setOther (by have := ok.PN hP; simp; omega) _, fun hp => ((h.r hp).set i _).congr (fun j hj => by rw [← e j hj]; by_cases he : j = i <;> simp [he]),
    h.b.kept (fun b ha hb => blk_setCell_other _ _ _ _ (by have := ok.BN hP; simp; omega)), h.k.setCell (.inl (.inr (.inr (.inr ⟨hP, rfl⟩)))) _⟩
end
end Go.Proofs.Qxb6601481a
