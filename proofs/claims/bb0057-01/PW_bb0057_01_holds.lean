import PyProof.Rows.All
import Wide.All
import OpenK.AllK
import Wide.FinOn
import PySem.Challenge.RW_bb0057_01
open PySem PySem.W PyProof.Rows
set_option Elab.async false
set_option rowWalk.seconds 0
set_option maxRecDepth 100000
-- part Hd
namespace Mine
section PartHd
set_option maxHeartbeats 8000000
theorem freshHd : True := by k_with_none; w_top off; trivial
open_top hd for PySem.Challenge.rw_bb0057_01
end PartHd
end Mine
-- part MBase
namespace Mine
section PartMBase
set_option maxHeartbeats 1000000
theorem freshMBase : True := by k_with_none; w_top off; trivial
abbrev tup2 (x y : Int) (t1 t2 : Tok) (c : Nat) : Obj := { cls := .type "tuple", data := .seq #[.int x t1, .int y t2] c }
abbrev tup3 (x y z : Int) (t1 t2 t3 : Tok) (c : Nat) : Obj := { cls := .type "tuple", data := .seq #[.int x t1, .int y t2, .int z t3] c }
abbrev tup6 (x1 x2 x3 x4 x5 x6 : Int) (t1 t2 t3 t4 t5 t6 : Tok) (c : Nat) : Obj := { cls := .type "tuple", data := .seq #[.int x1 t1, .int x2 t2, .int x3 t3, .int x4 t4, .int x5 t5, .int x6 t6] c }
abbrev Ctr (w : World) (mean : ExcName → Option Value) (mg mb : Str → Option Value) (f : Addr) (sz : Nat) (news : List (Addr × Obj)) (vs : List Value)
    (Ret : Heap → Addr → (Str → Option Value) → Shared → (Value → Shared → Prop) → Prop) : Prop :=
  ∀ (dp un : Nat) (gd : Option (List Code)) (cn : Str) (cs : Scope) (a : Addr) (ccd : Value) (cl : List (Str × Addr)) (outer : List Env) (A₀ : Around) (base h₀ : Heap) (L : Addr) (m : Str → Option Value) (s : Shared) (Q E : Value → Shared → Prop),
    Below A₀ base outer h₀ → Fr h₀ L s.heap m → (hd.heap_39 w.params).In h₀ → News h₀ L s.heap news → Top hd.view_39 (looseW hd.view_39 []) mean mg mb h₀ → cs.kind = .function →
    dp + sz < recursionLimit → un + 8 * sz < cLine → Ret h₀ L m s Q →
      wpAny (model PySem.Challenge.rw_bb0057_01.row.prog w) (ktrTop dp un gd cn cs L a ccd cl outer) (call (.ref f) vs) Q E s
abbrev Ret3 (news : List (Addr × Obj)) (x y z : Int) (h₀ : Heap) (L : Addr) (m : Str → Option Value) (s : Shared) (Q : Value → Shared → Prop) : Prop :=
  ∀ (D : Addr) (t1 t2 t3 : Tok) (c : Nat) (h' : Heap) (tk' : Nat), Fr h₀ L h' m → News h₀ L h' ((D, tup3 x y z t1 t2 t3 c) :: news) → Q (.ref D) { s with heap := h', toks := tk' }
abbrev Ret2 (news : List (Addr × Obj)) (x y : Int) (h₀ : Heap) (L : Addr) (m : Str → Option Value) (s : Shared) (Q : Value → Shared → Prop) : Prop :=
  ∀ (D : Addr) (t1 t2 : Tok) (c : Nat) (h' : Heap) (tk' : Nat), Fr h₀ L h' m → News h₀ L h' ((D, tup2 x y t1 t2 c) :: news) → AllLt D news → Q (.ref D) { s with heap := h', toks := tk' }
abbrev Ret1 (news : List (Addr × Obj)) (x : Int) (h₀ : Heap) (L : Addr) (m : Str → Option Value) (s : Shared) (Q : Value → Shared → Prop) : Prop :=
  ∀ (t1 : Tok) (h' : Heap) (tk' : Nat), Fr h₀ L h' m → News h₀ L h' news → Q (.int x t1) { s with heap := h', toks := tk' }

theorem fm_lo {a P : Int} (h : 0 < P) : 0 ≤ a.fmod P := Int.fmod_nonneg_of_pos a h
theorem fm_hi {a P : Int} (h : 0 < P) : a.fmod P < P := Int.fmod_lt_of_pos a h
theorem fm_abs {a P : Int} (h : 0 < P) (h' : P < 64) : (a.fmod P).natAbs < 2 ^ 64 := by
  have h1 := fm_lo (a := a) h
  have h2 := fm_hi (a := a) h
  omega
theorem in_abs {a P : Int} (h0 : 0 ≤ a) (h1 : a < P) (h' : P < 64) : a.natAbs < 2 ^ 64 := by omega
end PartMBase
end Mine
-- part CDbl
namespace Mine
section PartCDbl
set_option maxHeartbeats 1000000
theorem freshCDbl : True := by k_with_none; w_top off; trivial
local macro_rules | `(tactic| k_steps) => `(tactic| repeat' (first | (k_unfold; (try dsimp only)) | (k_end; wrow_close) | (dsimp only; walk1) | walk1 | (leave1; walk_say "STEP leave1"; try dsimp only) | fail "no step"))
local macro_rules | `(tactic| walk_at "binaryOp Pow int int") => `(tactic| (with_reducible refine pow_int_small (by decide) (by decide) ?k1 ?_; (case k1 => first | exact in_abs (by assumption) (by assumption) (by assumption) | exact fm_abs (by assumption) (by assumption))))
def dbl (P x y z : Int) : Int × Int × Int :=
  if y = 0 then (0, 0, 0) else
    let ysq := (y ^ Int.toNat 2).fmod P
    let S := (4 * x * ysq).fmod P
    let M := (3 * x ^ Int.toNat 2 + 0 * z ^ Int.toNat 4).fmod P
    let nx := (M ^ Int.toNat 2 - 2 * S).fmod P
    (nx, (M * (S - nx) - 8 * ysq ^ Int.toNat 2).fmod P, (2 * y * z).fmod P)
theorem dbl_z {P x y z : Int} (h : y = 0) : dbl P x y z = (0, 0, 0) := if_pos h
theorem dbl_nz {P x y z : Int} (h : y ≠ 0) : dbl P x y z =
  (((3 * x ^ Int.toNat 2 + 0 * z ^ Int.toNat 4).fmod P ^ Int.toNat 2 - 2 * (4 * x * (y ^ Int.toNat 2).fmod P).fmod P).fmod P,
   ((3 * x ^ Int.toNat 2 + 0 * z ^ Int.toNat 4).fmod P * ((4 * x * (y ^ Int.toNat 2).fmod P).fmod P - ((3 * x ^ Int.toNat 2 + 0 * z ^ Int.toNat 4).fmod P ^ Int.toNat 2 - 2 * (4 * x * (y ^ Int.toNat 2).fmod P).fmod P).fmod P) - 8 * (y ^ Int.toNat 2).fmod P ^ Int.toNat 2).fmod P,
   (2 * y * z).fmod P) := if_neg h
theorem dbl_c (w : World) (mean : ExcName → Option Value) (mg mb : Str → Option Value) (news : List (Addr × Obj)) (p curve : Addr) (x y z P N B Gx Gy : Int) (t1 t2 t3 u1 u2 u3 u4 u5 u6 : Tok) (c d : Nat)
    (hp : (p, tup3 x y z t1 t2 t3 c) ∈ news) (hc : (curve, tup6 P N 0 B Gx Gy u1 u2 u3 u4 u5 u6 d) ∈ news)
    (hP : 0 < P) (hP' : P < 64) (hx : 0 ≤ x) (hx' : x < P) (hy : 0 ≤ y) (hy' : y < P) (hz : 0 ≤ z) (hz' : z < P) :
    Ctr w mean mg mb 35 1 news [.ref p, .ref curve] (Ret3 news (dbl P x y z).1 (dbl P x y z).2.1 (dbl P x y z).2.2) := by
  unfold Ctr Ret3
  k_fill
  dsimp only [tup3, tup6] at *
  intros
  rename_i hret
  refine wpAny_call ?_
  k_dflt cell_enter
  k_steps
  all_goals first
    | (rw [dbl_z (by assumption)] at hret; exact hret _ _ _ _ _ _ _ (by assumption) (by assumption))
    | (rw [dbl_nz (by assumption)] at hret; exact hret _ _ _ _ _ _ _ (by assumption) (by assumption))
end PartCDbl
end Mine
-- part CAdd
namespace Mine
section PartCAdd
set_option maxHeartbeats 1000000
theorem freshCAdd : True := by k_with_none; w_top off; trivial
theorem dbl_use {w : World} {mean : ExcName → Option Value} {mg mb : Str → Option Value} {news : List (Addr × Obj)} {p curve : Addr} {x y z P N B Gx Gy : Int} {t1 t2 t3 u1 u2 u3 u4 u5 u6 : Tok} {c d : Nat}
    {dp un : Nat} {gd : Option (List Code)} {cn : Str} {cs : Scope} {a : Addr} {ccd : Value} {cl : List (Str × Addr)} {outer : List Env} {A₀ : Around} {base h₀ : Heap} {L : Addr} {m : Str → Option Value} {s : Shared} {Q E : Value → Shared → Prop}
    (Bl : Below A₀ base outer h₀) (F : Fr h₀ L s.heap m) (X : (hd.heap_39 w.params).In h₀) (N' : News h₀ L s.heap news) (T : Top hd.view_39 (looseW hd.view_39 []) mean mg mb h₀) (hk : cs.kind = .function)
    (hp : (p, tup3 x y z t1 t2 t3 c) ∈ news) (hc : (curve, tup6 P N 0 B Gx Gy u1 u2 u3 u4 u5 u6 d) ∈ news)
    (hP : 0 < P) (hP' : P < 64) (hx : 0 ≤ x) (hx' : x < P) (hy : 0 ≤ y) (hy' : y < P) (hz : 0 ≤ z) (hz' : z < P)
    (hd : dp + 1 < recursionLimit) (hu : un + 8 * 1 < cLine) (ret : Ret3 news (dbl P x y z).1 (dbl P x y z).2.1 (dbl P x y z).2.2 h₀ L m s Q) :
    wpAny (model PySem.Challenge.rw_bb0057_01.row.prog w) (ktrTop dp un gd cn cs L a ccd cl outer) (call (.ref 35) [.ref p, .ref curve]) Q E s :=
  dbl_c w mean mg mb news p curve x y z P N B Gx Gy t1 t2 t3 u1 u2 u3 u4 u5 u6 c d hp hc hP hP' hx hx' hy hy' hz hz' _ _ _ _ _ _ _ _ _ _ _ _ _ _ _ _ _ Bl F X N' T hk hd hu ret
theorem news_cons {h₀ h : Heap} {L : Addr} {news : List (Addr × Obj)} {q : Addr × Obj} (N : News h₀ L h news) (hq : q ∈ news) : News h₀ L h (q :: news) := fun p hp => by
  rcases List.mem_cons.mp hp with rfl | hp
  · exact N _ hq
  · exact N p hp
theorem news_pick {h₀ h : Heap} {L : Addr} {news news' : List (Addr × Obj)} (N : News h₀ L h news') (hs : ∀ p ∈ news, p ∈ news') : News h₀ L h news := fun p hp => N p (hs p hp)
theorem fm_sub_abs {a b P : Int} (h : 0 < P) (h' : P < 64) : (a.fmod P - b.fmod P).natAbs < 2 ^ 64 := by
  have h1 := fm_lo (a := a) h
  have h2 := fm_hi (a := a) h
  have h3 := fm_lo (a := b) h
  have h4 := fm_hi (a := b) h
  omega

local macro_rules | `(tactic| k_steps) => `(tactic| repeat' (first | (k_unfold; (try dsimp only)) | (k_end; wrow_close) | (dsimp only; walk1) | walk1 | (leave1; walk_say "STEP leave1"; try dsimp only) | fail "no step"))
local macro_rules | `(tactic| walk_at "binaryOp Pow int int") => `(tactic| (with_reducible refine pow_int_small (by decide) (by decide) ?k1 ?_; (case k1 => first | exact in_abs (by assumption) (by assumption) (by assumption) | exact fm_abs (by assumption) (by assumption) | exact fm_sub_abs (by assumption) (by assumption))))
local macro_rules | `(tactic| walk_at "call ref") => `(tactic| (k_here; (with_reducible show wpAny _ _ (PySem.call (Value.ref 35) _) _ _ _); k_dflt (refine' dbl_use ?k1 ?k2 ?k3 ?k4 ?k5 ?kK ?hp ?hc ?b1 ?b2 ?b3 ?b4 ?b5 ?b6 ?b7 ?b8 ?kd ?ku ?_; (case k1 => k_asm); (case k2 => k_asm); (case k3 => k_asm); (case k4 => k_asm); (case k5 => k_asm); (case kK => first | exact rfl | assumption); (case hp => k_mem); (case hc => k_mem); (case b1 => assumption); (case b2 => assumption); (case b3 => assumption); (case b4 => assumption); (case b5 => assumption); (case b6 => assumption); (case b7 => assumption); (case b8 => assumption); (case kd => ktr_room); (case ku => ktr_units); k_whole; intro D' t1' t2' t3' c' h' tk' F' N'; (try dsimp only); (try k_fold))))

def jadd (P x1 y1 z1 x2 y2 z2 : Int) : Int × Int × Int :=
  if y1 = 0 then (x2, y2, z2) else if y2 = 0 then (x1, y1, z1) else
    let U1 := (x1 * z2 ^ Int.toNat 2).fmod P
    let U2 := (x2 * z1 ^ Int.toNat 2).fmod P
    let S1 := (y1 * z2 ^ Int.toNat 3).fmod P
    let S2 := (y2 * z1 ^ Int.toNat 3).fmod P
    if U1 = U2 then if S1 = S2 then dbl P x1 y1 z1 else (0, 0, 1) else
      let H := U2 - U1
      let R := S2 - S1
      let H2 := (H * H).fmod P
      let H3 := (H * H2).fmod P
      let U1H2 := (U1 * H2).fmod P
      let nx := (R ^ Int.toNat 2 - H3 - 2 * U1H2).fmod P
      (nx, (R * (U1H2 - nx) - S1 * H3).fmod P, (H * z1 * z2).fmod P)
theorem jadd_1 {P x1 y1 z1 x2 y2 z2 : Int} (h : y1 = 0) : jadd P x1 y1 z1 x2 y2 z2 = (x2, y2, z2) := if_pos h
theorem jadd_2 {P x1 y1 z1 x2 y2 z2 : Int} (h : y1 ≠ 0) (h2 : y2 = 0) : jadd P x1 y1 z1 x2 y2 z2 = (x1, y1, z1) := (if_neg h).trans (if_pos h2)
theorem jadd_3 {P x1 y1 z1 x2 y2 z2 : Int} (h : y1 ≠ 0) (h2 : y2 ≠ 0) (h3 : (x1 * z2 ^ Int.toNat 2).fmod P = (x2 * z1 ^ Int.toNat 2).fmod P) (h4 : (y1 * z2 ^ Int.toNat 3).fmod P ≠ (y2 * z1 ^ Int.toNat 3).fmod P) : jadd P x1 y1 z1 x2 y2 z2 = (0, 0, 1) :=
  (if_neg h).trans ((if_neg h2).trans ((if_pos h3).trans (if_neg h4)))
theorem jadd_4 {P x1 y1 z1 x2 y2 z2 : Int} (h : y1 ≠ 0) (h2 : y2 ≠ 0) (h3 : (x1 * z2 ^ Int.toNat 2).fmod P = (x2 * z1 ^ Int.toNat 2).fmod P) (h4 : (y1 * z2 ^ Int.toNat 3).fmod P = (y2 * z1 ^ Int.toNat 3).fmod P) : jadd P x1 y1 z1 x2 y2 z2 = dbl P x1 y1 z1 :=
  (if_neg h).trans ((if_neg h2).trans ((if_pos h3).trans (if_pos h4)))
theorem jadd_5 {P x1 y1 z1 x2 y2 z2 : Int} (h : y1 ≠ 0) (h2 : y2 ≠ 0) (h3 : (x1 * z2 ^ Int.toNat 2).fmod P ≠ (x2 * z1 ^ Int.toNat 2).fmod P) : jadd P x1 y1 z1 x2 y2 z2 =
  ((((y2 * z1 ^ Int.toNat 3).fmod P - (y1 * z2 ^ Int.toNat 3).fmod P) ^ Int.toNat 2 - (((x2 * z1 ^ Int.toNat 2).fmod P - (x1 * z2 ^ Int.toNat 2).fmod P) * (((x2 * z1 ^ Int.toNat 2).fmod P - (x1 * z2 ^ Int.toNat 2).fmod P) * ((x2 * z1 ^ Int.toNat 2).fmod P - (x1 * z2 ^ Int.toNat 2).fmod P)).fmod P).fmod P - 2 * ((x1 * z2 ^ Int.toNat 2).fmod P * (((x2 * z1 ^ Int.toNat 2).fmod P - (x1 * z2 ^ Int.toNat 2).fmod P) * ((x2 * z1 ^ Int.toNat 2).fmod P - (x1 * z2 ^ Int.toNat 2).fmod P)).fmod P).fmod P).fmod P,
   (((y2 * z1 ^ Int.toNat 3).fmod P - (y1 * z2 ^ Int.toNat 3).fmod P) * (((x1 * z2 ^ Int.toNat 2).fmod P * (((x2 * z1 ^ Int.toNat 2).fmod P - (x1 * z2 ^ Int.toNat 2).fmod P) * ((x2 * z1 ^ Int.toNat 2).fmod P - (x1 * z2 ^ Int.toNat 2).fmod P)).fmod P).fmod P - (((y2 * z1 ^ Int.toNat 3).fmod P - (y1 * z2 ^ Int.toNat 3).fmod P) ^ Int.toNat 2 - (((x2 * z1 ^ Int.toNat 2).fmod P - (x1 * z2 ^ Int.toNat 2).fmod P) * (((x2 * z1 ^ Int.toNat 2).fmod P - (x1 * z2 ^ Int.toNat 2).fmod P) * ((x2 * z1 ^ Int.toNat 2).fmod P - (x1 * z2 ^ Int.toNat 2).fmod P)).fmod P).fmod P - 2 * ((x1 * z2 ^ Int.toNat 2).fmod P * (((x2 * z1 ^ Int.toNat 2).fmod P - (x1 * z2 ^ Int.toNat 2).fmod P) * ((x2 * z1 ^ Int.toNat 2).fmod P - (x1 * z2 ^ Int.toNat 2).fmod P)).fmod P).fmod P).fmod P) - (y1 * z2 ^ Int.toNat 3).fmod P * (((x2 * z1 ^ Int.toNat 2).fmod P - (x1 * z2 ^ Int.toNat 2).fmod P) * (((x2 * z1 ^ Int.toNat 2).fmod P - (x1 * z2 ^ Int.toNat 2).fmod P) * ((x2 * z1 ^ Int.toNat 2).fmod P - (x1 * z2 ^ Int.toNat 2).fmod P)).fmod P).fmod P).fmod P,
   (((x2 * z1 ^ Int.toNat 2).fmod P - (x1 * z2 ^ Int.toNat 2).fmod P) * z1 * z2).fmod P) :=
  (if_neg h).trans ((if_neg h2).trans (if_neg h3))

theorem jadd_c (w : World) (mean : ExcName → Option Value) (mg mb : Str → Option Value) (news : List (Addr × Obj)) (p q curve : Addr) (x1 y1 z1 x2 y2 z2 P N B Gx Gy : Int) (t1 t2 t3 s1 s2 s3 u1 u2 u3 u4 u5 u6 : Tok) (c e d : Nat)
    (hp : (p, tup3 x1 y1 z1 t1 t2 t3 c) ∈ news) (hq : (q, tup3 x2 y2 z2 s1 s2 s3 e) ∈ news) (hc : (curve, tup6 P N 0 B Gx Gy u1 u2 u3 u4 u5 u6 d) ∈ news)
    (hP : 0 < P) (hP' : P < 64) (a1 : 0 ≤ x1) (a2 : x1 < P) (a3 : 0 ≤ y1) (a4 : y1 < P) (a5 : 0 ≤ z1) (a6 : z1 < P) (b1 : 0 ≤ x2) (b2 : x2 < P) (b3 : 0 ≤ y2) (b4 : y2 < P) (b5 : 0 ≤ z2) (b6 : z2 < P) :
    Ctr w mean mg mb 42 2 news [.ref p, .ref q, .ref curve] (Ret3 news (jadd P x1 y1 z1 x2 y2 z2).1 (jadd P x1 y1 z1 x2 y2 z2).2.1 (jadd P x1 y1 z1 x2 y2 z2).2.2) := by
  unfold Ctr Ret3
  k_fill
  dsimp only [tup3, tup6] at *
  intros
  rename_i hret
  refine wpAny_call ?_
  k_dflt cell_enter
  k_steps
  all_goals first
    | (rw [jadd_1 (by assumption)] at hret; exact hret _ _ _ _ _ _ _ (by assumption) (news_cons (by assumption) hq))
    | (rw [jadd_2 (by assumption) (by assumption)] at hret; exact hret _ _ _ _ _ _ _ (by assumption) (news_cons (by assumption) hp))
    | (rw [jadd_3 (by assumption) (by assumption) (by assumption) (by assumption)] at hret; exact hret _ _ _ _ _ _ _ (by assumption) (by assumption))
    | (rw [jadd_4 (by assumption) (by assumption) (by assumption) (by assumption)] at hret; exact hret _ _ _ _ _ _ _ (by assumption) (by assumption))
    | (rw [jadd_5 (by assumption) (by assumption) (by assumption)] at hret; exact hret _ _ _ _ _ _ _ (by assumption) (by assumption))
end PartCAdd
end Mine
-- part CInv
namespace Mine
section PartCInv
set_option maxHeartbeats 1000000
theorem freshCInv : True := by k_with_none; w_top off; trivial
local macro_rules | `(tactic| k_steps) => `(tactic| repeat' (first | (k_unfold; (try dsimp only)) | (k_end; wrow_close) | (dsimp only; walk1) | walk1 | (leave1; walk_say "STEP leave1"; try dsimp only) | fail "no step"))
def eucOk : Nat → Int → Int → Int → Int → Int → Int → Bool
  | 0, _, _, _, _, _, _ => false
  | k + 1, n, R, lm, low, hm, high =>
    decide (lm.natAbs < 1048576) && decide (hm.natAbs < 1048576) && decide (0 ≤ low) && decide (low < 64) && decide (0 < high) && decide (high < 64) &&
    (if 1 < low then decide (0 ≤ high - low * high.fdiv low) && decide (high - low * high.fdiv low < low) && eucOk k n R (hm - lm * high.fdiv low) (high - low * high.fdiv low) lm low
     else decide (lm.fmod n = R))
def EucR (n R lm low hm high : Int) : Prop := ∃ k, eucOk k n R lm low hm high = true
def EucP (n R lm low hm high : Int) : Prop := (-1048576 < lm ∧ lm < 1048576 ∧ -1048576 < hm ∧ hm < 1048576 ∧ 0 ≤ low ∧ low < 64 ∧ 0 < high ∧ high < 64) ∧ EucR n R lm low hm high
theorem eucP_of {n R lm low hm high : Int} (h : EucR n R lm low hm high) : EucP n R lm low hm high := by
  refine ⟨?_, h⟩
  obtain ⟨k, h⟩ := h
  cases k with
  | zero => simp [eucOk] at h
  | succ k =>
    unfold eucOk at h
    simp only [Bool.and_eq_true, decide_eq_true_eq] at h
    omega
theorem euc_step {n R lm low hm high : Int} (h : EucP n R lm low hm high) (h1 : 1 < low) :
    EucP n R (hm - lm * high.fdiv low) (high - low * high.fdiv low) lm low ∧ (high - low * high.fdiv low).toNat < low.toNat := by
  obtain ⟨_, k, h⟩ := h
  cases k with
  | zero => simp [eucOk] at h
  | succ k =>
    unfold eucOk at h
    rw [if_pos h1] at h
    simp only [Bool.and_eq_true, decide_eq_true_eq] at h
    refine ⟨eucP_of ⟨k, h.2.2⟩, ?_⟩
    omega
theorem euc_end {n R lm low hm high : Int} (h : EucP n R lm low hm high) (h1 : ¬ 1 < low) : lm.fmod n = R := by
  obtain ⟨_, k, h⟩ := h
  cases k with
  | zero => simp [eucOk] at h
  | succ k =>
    unfold eucOk at h
    rw [if_neg h1] at h
    simp only [Bool.and_eq_true, decide_eq_true_eq] at h
    exact h.2

theorem inv_c (w : World) (mean : ExcName → Option Value) (mg mb : Str → Option Value) (news : List (Addr × Obj)) (a n R : Int) (t1 t2 : Tok)
    (hP : 0 < n) (hP' : n < 64) (hx : 0 ≤ a) (hx' : a < n) (hR0 : a = 0 → R = 0) (hR : a ≠ 0 → EucR n R 1 (a.fmod n) 0 n) :
    Ctr w mean mg mb 21 1 news [.int a t1, .int n t2] (Ret1 news R) := by
  unfold Ctr Ret1
  k_fill
  intros
  rename_i hret
  refine wpAny_call ?_
  k_dflt cell_enter
  k_with "state" => first | exact eucP_of (hR (by assumption)) | exact (euc_step (by assumption) (by assumption)).1
  k_with "measure" => exact (euc_step (by assumption) (by assumption)).2
  k_with "exec While Compare cons nil" => (k_while (fun _ lm low hm high => EucP n R lm low hm high) (fun _ lm low hm high => low.toNat) "lm" "low" "hm" "high"; (rename EucP n R _ _ _ _ => hI); (obtain ⟨i1, i2, i3, i4, i5, i6, i7, i8⟩ := hI.1))
  k_with "binaryOp FloorDiv int int" => (with_reducible refine floordiv_int ?kb ?_ (Or.inl (PyProof.noPylong_small ?kp)); (case kb => omega); (case kp => omega))
  k_steps
  all_goals first
    | (rw [hR0 (by assumption)] at hret; exact hret _ _ _ (by assumption) (by assumption))
    | ((rename EucP n R _ _ _ _ => hI); (have e := euc_end hI (by assumption)); rw [← e] at hret; refine hret _ _ _ (by assumption) (news_pick (by assumption) ?_); kcj_all)
end PartCInv
end Mine
-- part CFrj
namespace Mine
section PartCFrj
set_option maxHeartbeats 1000000
theorem freshCFrj : True := by k_with_none; w_top off; trivial
def WP (P : Int) : Prop := P = 7 ∨ P = 19 ∨ P = 31 ∨ P = 43
theorem WP.pos {P : Int} (h : WP P) : 0 < P := by unfold WP at h; omega
theorem WP.lt {P : Int} (h : WP P) : P < 64 := by unfold WP at h; omega
theorem WP.one {P : Int} (h : WP P) : 1 < P := by unfold WP at h; omega
def eucL : Nat → Int → Int → Int → Int → Int → Int
  | 0, _, _, _, _, _ => 0
  | k + 1, n, lm, low, hm, high => if 1 < low then eucL k n (hm - lm * high.fdiv low) (high - low * high.fdiv low) lm low else lm.fmod n
def finv (P a : Int) : Int := if a = 0 then 0 else eucL 10 P 1 (a.fmod P) 0 P
theorem finv_ok : ∀ P ∈ [7, 19, 31, 43], ∀ a ∈ List.range P, (a = 0 ∨ eucOk 10 (P : Nat) (finv (P : Nat) (a : Nat)) 1 (((a : Nat) : Int).fmod (P : Nat)) 0 (P : Nat) = true) ∧ 0 ≤ finv (P : Nat) (a : Nat) ∧ finv (P : Nat) (a : Nat) < (P : Nat) := by decide +kernel
theorem finv_all {P a : Int} (h : WP P) (h0 : 0 ≤ a) (h1 : a < P) : (a = 0 → finv P a = 0) ∧ (a ≠ 0 → EucR P (finv P a) 1 (a.fmod P) 0 P) ∧ 0 ≤ finv P a ∧ finv P a < P := by
  have hP := h.pos
  obtain ⟨p, rfl⟩ := Int.eq_ofNat_of_zero_le (Int.le_of_lt hP)
  obtain ⟨k, rfl⟩ := Int.eq_ofNat_of_zero_le h0
  have hm : p ∈ [7, 19, 31, 43] := by
    unfold WP at h
    simp only [List.mem_cons, List.not_mem_nil, or_false]
    omega
  have hk : k ∈ List.range p := List.mem_range.mpr (by omega)
  obtain ⟨q1, q2, q3⟩ := finv_ok p hm k hk
  refine ⟨fun e => if_pos e, fun e => ?_, q2, q3⟩
  rcases q1 with q1 | q1
  · exact absurd (by rw [q1]; rfl) e
  · exact ⟨10, q1⟩
theorem inv_use {w : World} {mean : ExcName → Option Value} {mg mb : Str → Option Value} {news : List (Addr × Obj)} {a n : Int} {t1 t2 : Tok}
    {dp un : Nat} {gd : Option (List Code)} {cn : Str} {cs : Scope} {ca : Addr} {ccd : Value} {cl : List (Str × Addr)} {outer : List Env} {A₀ : Around} {base h₀ : Heap} {L : Addr} {m : Str → Option Value} {s : Shared} {Q E : Value → Shared → Prop}
    (Bl : Below A₀ base outer h₀) (F : Fr h₀ L s.heap m) (X : (hd.heap_39 w.params).In h₀) (N' : News h₀ L s.heap news) (T : Top hd.view_39 (looseW hd.view_39 []) mean mg mb h₀) (hk : cs.kind = .function)
    (hP : WP n) (hx : 0 ≤ a) (hx' : a < n)
    (hd : dp + 1 < recursionLimit) (hu : un + 8 * 1 < cLine) (ret : ∀ R, R = finv n a → 0 ≤ R → R < n → Ret1 news R h₀ L m s Q) :
    wpAny (model PySem.Challenge.rw_bb0057_01.row.prog w) (ktrTop dp un gd cn cs L ca ccd cl outer) (call (.ref 21) [.int a t1, .int n t2]) Q E s :=
  have q := finv_all hP hx hx'
  inv_c w mean mg mb news a n (finv n a) t1 t2 hP.pos hP.lt hx hx' q.1 q.2.1 _ _ _ _ _ _ _ _ _ _ _ _ _ _ _ _ _ Bl F X N' T hk hd hu (ret _ rfl q.2.2.1 q.2.2.2)

local macro_rules | `(tactic| k_steps) => `(tactic| repeat' (first | (k_unfold; (try dsimp only)) | (k_end; wrow_close) | (dsimp only; walk1) | walk1 | (leave1; walk_say "STEP leave1"; try dsimp only) | fail "no step"))
local macro_rules | `(tactic| walk_at "binaryOp Pow int int") => `(tactic| (with_reducible refine pow_int_small (by decide) (by decide) ?k1 ?_; (case k1 => first | exact in_abs (by assumption) (by assumption) (by assumption) | exact fm_abs (by assumption) (by assumption) | exact fm_sub_abs (by assumption) (by assumption))))
local macro_rules | `(tactic| walk_at "call ref") => `(tactic| (k_here; (with_reducible show wpAny _ _ (PySem.call (Value.ref 21) _) _ _ _); k_dflt (refine' inv_use ?k1 ?k2 ?k3 ?k4 ?k5 ?kK ?b1 ?b2 ?b3 ?kd ?ku ?_; (case k1 => k_asm); (case k2 => k_asm); (case k3 => k_asm); (case k4 => k_asm); (case k5 => k_asm); (case kK => first | exact rfl | assumption); (case b1 => assumption); (case b2 => assumption); (case b3 => assumption); (case kd => ktr_room); (case ku => ktr_units); k_whole; intro R' hR' hRl' hRh' t1' h' tk' F' N'; (try dsimp only); (try k_fold))))

def frj (P x y z : Int) : Int × Int := ((x * finv P z ^ Int.toNat 2).fmod P, (y * finv P z ^ Int.toNat 3).fmod P)
theorem frj_c (w : World) (mean : ExcName → Option Value) (mg mb : Str → Option Value) (news : List (Addr × Obj)) (p curve : Addr) (x y z P N A B Gx Gy : Int) (t1 t2 t3 u1 u2 u3 u4 u5 u6 : Tok) (c d : Nat)
    (hp : (p, tup3 x y z t1 t2 t3 c) ∈ news) (hc : (curve, tup6 P N A B Gx Gy u1 u2 u3 u4 u5 u6 d) ∈ news)
    (hP : WP P) (hx : 0 ≤ x) (hx' : x < P) (hy : 0 ≤ y) (hy' : y < P) (hz : 0 ≤ z) (hz' : z < P) :
    Ctr w mean mg mb 49 2 news [.ref p, .ref curve] (Ret2 news (frj P x y z).1 (frj P x y z).2) := by
  have hP0 := hP.pos
  have hP1 := hP.lt
  unfold Ctr Ret2
  k_fill
  dsimp only [tup2, tup3, tup6] at *
  intros
  rename_i hret
  refine wpAny_call ?_
  k_dflt cell_enter
  k_steps
  all_goals ((rename (_ : Int) = finv _ _ => hR); subst hR; exact hret _ _ _ _ _ _ (by assumption) (by assumption) (allLt_of (by assumption)))
end PartCFrj
end Mine
-- part CJm
namespace Mine
section PartCJm
set_option maxHeartbeats 1000000
theorem freshCJm : True := by k_with_none; w_top off; trivial
abbrev RetJ (news : List (Addr × Obj)) (P : Int) (r : Int × Int × Int) (h₀ : Heap) (L : Addr) (m : Str → Option Value) (s : Shared) (Q : Value → Shared → Prop) : Prop :=
  ∀ X Y Z : Int, r = (X, Y, Z) → 0 ≤ X → X < P → 0 ≤ Y → Y < P → 0 ≤ Z → Z < P →
    ∀ (D : Addr) (t1 t2 t3 : Tok) (c : Nat) (h' : Heap) (tk' : Nat), Fr h₀ L h' m → News h₀ L h' ((D, tup3 X Y Z t1 t2 t3 c) :: news) → Q (.ref D) { s with heap := h', toks := tk' }
def InP (P : Int) (r : Int × Int × Int) : Prop := 0 ≤ r.1 ∧ r.1 < P ∧ 0 ≤ r.2.1 ∧ r.2.1 < P ∧ 0 ≤ r.2.2 ∧ r.2.2 < P
theorem dbl_in {P x y z : Int} (h : 0 < P) : InP P (dbl P x y z) := by
  by_cases hy : y = 0
  · rw [dbl_z hy]
    exact ⟨Int.le_refl _, h, Int.le_refl _, h, Int.le_refl _, h⟩
  · rw [dbl_nz hy]
    exact ⟨fm_lo h, fm_hi h, fm_lo h, fm_hi h, fm_lo h, fm_hi h⟩
theorem jadd_in {P x1 y1 z1 x2 y2 z2 : Int} (h : 1 < P) (h1 : InP P (x1, y1, z1)) (h2 : InP P (x2, y2, z2)) : InP P (jadd P x1 y1 z1 x2 y2 z2) := by
  have h0 : 0 < P := by omega
  unfold jadd
  split
  · exact h2
  · split
    · exact h1
    · dsimp only
      split
      · split
        · exact dbl_in h0
        · exact ⟨Int.le_refl _, h0, Int.le_refl _, h0, by decide, h⟩
      · exact ⟨fm_lo h0, fm_hi h0, fm_lo h0, fm_hi h0, fm_lo h0, fm_hi h0⟩
theorem dblJ {w : World} {mean : ExcName → Option Value} {mg mb : Str → Option Value} {news : List (Addr × Obj)} {p curve : Addr} {x y z P N B Gx Gy : Int} {t1 t2 t3 u1 u2 u3 u4 u5 u6 : Tok} {c d : Nat}
    {dp un : Nat} {gd : Option (List Code)} {cn : Str} {cs : Scope} {a : Addr} {ccd : Value} {cl : List (Str × Addr)} {outer : List Env} {A₀ : Around} {base h₀ : Heap} {L : Addr} {m : Str → Option Value} {s : Shared} {Q E : Value → Shared → Prop}
    (Bl : Below A₀ base outer h₀) (F : Fr h₀ L s.heap m) (X : (hd.heap_39 w.params).In h₀) (N' : News h₀ L s.heap news) (T : Top hd.view_39 (looseW hd.view_39 []) mean mg mb h₀) (hk : cs.kind = .function)
    (hp : (p, tup3 x y z t1 t2 t3 c) ∈ news) (hc : (curve, tup6 P N 0 B Gx Gy u1 u2 u3 u4 u5 u6 d) ∈ news)
    (hP : WP P) (hx : 0 ≤ x) (hx' : x < P) (hy : 0 ≤ y) (hy' : y < P) (hz : 0 ≤ z) (hz' : z < P)
    (hd : dp + 1 < recursionLimit) (hu : un + 8 * 1 < cLine) (ret : RetJ news P (dbl P x y z) h₀ L m s Q) :
    wpAny (model PySem.Challenge.rw_bb0057_01.row.prog w) (ktrTop dp un gd cn cs L a ccd cl outer) (call (.ref 35) [.ref p, .ref curve]) Q E s :=
  have q : InP P (dbl P x y z) := dbl_in hP.pos
  dbl_use Bl F X N' T hk hp hc hP.pos hP.lt hx hx' hy hy' hz hz' hd hu (ret _ _ _ rfl q.1 q.2.1 q.2.2.1 q.2.2.2.1 q.2.2.2.2.1 q.2.2.2.2.2)
theorem jaddJ {w : World} {mean : ExcName → Option Value} {mg mb : Str → Option Value} {news : List (Addr × Obj)} {p q curve : Addr} {x1 y1 z1 x2 y2 z2 P N B Gx Gy : Int} {t1 t2 t3 s1 s2 s3 u1 u2 u3 u4 u5 u6 : Tok} {c e d : Nat}
    {dp un : Nat} {gd : Option (List Code)} {cn : Str} {cs : Scope} {a : Addr} {ccd : Value} {cl : List (Str × Addr)} {outer : List Env} {A₀ : Around} {base h₀ : Heap} {L : Addr} {m : Str → Option Value} {s : Shared} {Q E : Value → Shared → Prop}
    (Bl : Below A₀ base outer h₀) (F : Fr h₀ L s.heap m) (X : (hd.heap_39 w.params).In h₀) (N' : News h₀ L s.heap news) (T : Top hd.view_39 (looseW hd.view_39 []) mean mg mb h₀) (hk : cs.kind = .function)
    (hp : (p, tup3 x1 y1 z1 t1 t2 t3 c) ∈ news) (hq : (q, tup3 x2 y2 z2 s1 s2 s3 e) ∈ news) (hc : (curve, tup6 P N 0 B Gx Gy u1 u2 u3 u4 u5 u6 d) ∈ news)
    (hP : WP P) (a1 : 0 ≤ x1) (a2 : x1 < P) (a3 : 0 ≤ y1) (a4 : y1 < P) (a5 : 0 ≤ z1) (a6 : z1 < P) (b1 : 0 ≤ x2) (b2 : x2 < P) (b3 : 0 ≤ y2) (b4 : y2 < P) (b5 : 0 ≤ z2) (b6 : z2 < P)
    (hd : dp + 2 < recursionLimit) (hu : un + 8 * 2 < cLine) (ret : RetJ news P (jadd P x1 y1 z1 x2 y2 z2) h₀ L m s Q) :
    wpAny (model PySem.Challenge.rw_bb0057_01.row.prog w) (ktrTop dp un gd cn cs L a ccd cl outer) (call (.ref 42) [.ref p, .ref q, .ref curve]) Q E s :=
  have r : InP P (jadd P x1 y1 z1 x2 y2 z2) := jadd_in hP.one ⟨a1, a2, a3, a4, a5, a6⟩ ⟨b1, b2, b3, b4, b5, b6⟩
  jadd_c w mean mg mb news p q curve x1 y1 z1 x2 y2 z2 P N B Gx Gy t1 t2 t3 s1 s2 s3 u1 u2 u3 u4 u5 u6 c e d hp hq hc hP.pos hP.lt a1 a2 a3 a4 a5 a6 b1 b2 b3 b4 b5 b6 _ _ _ _ _ _ _ _ _ _ _ _ _ _ _ _ _ Bl F X N' T hk hd hu
    (ret _ _ _ rfl r.1 r.2.1 r.2.2.1 r.2.2.2.1 r.2.2.2.2.1 r.2.2.2.2.2)

def jm (P N x y z : Int) : Nat → Int → Int × Int × Int
  | 0, _ => (0, 0, 1)
  | k + 1, n => if y = 0 ∨ n = 0 then (0, 0, 1) else if n = 1 then (x, y, z) else if n < 0 ∨ N ≤ n then jm P N x y z k (n.fmod N) else
    match jm P N x y z k (n.fdiv 2) with
    | (X, Y, Z) => if n.fmod 2 = 0 then dbl P X Y Z else match dbl P X Y Z with | (X', Y', Z') => jadd P X' Y' Z' x y z
/-- the fuel f is enough for n -/
def JOk (f : Nat) (N n : Int) : Prop := 1 ≤ f ∧ ((0 ≤ n ∧ n < N ∧ n < ((2 ^ (f - 1) : Nat) : Int)) ∨ ((n < 0 ∨ N ≤ n) ∧ 2 ≤ f ∧ N ≤ ((2 ^ (f - 2) : Nat) : Int)))
theorem jok_mod {f : Nat} {N n : Int} (hN : 1 < N) (h : JOk (f + 1) N n) (hn : n < 0 ∨ N ≤ n) : JOk f N (n.fmod N) := by
  have h0 : 0 < N := by omega
  have h1 := fm_lo (a := n) h0
  have h2 := fm_hi (a := n) h0
  obtain ⟨_, h | h⟩ := h
  · omega
  · have e : f + 1 - 2 = f - 1 := by omega
    rw [e] at h
    exact ⟨by omega, .inl ⟨h1, h2, by omega⟩⟩
theorem jok_half {f : Nat} {N n : Int} (h : JOk (f + 1) N n) (hn : ¬ (n < 0 ∨ N ≤ n)) (h0 : n ≠ 0) (h1 : n ≠ 1) : JOk f N (n.fdiv 2) := by
  obtain ⟨_, h | h⟩ := h
  · have e : n.fdiv 2 = n / 2 := Int.fdiv_eq_ediv_of_nonneg n (by decide)
    rw [e]
    simp only [Nat.add_sub_cancel] at h
    cases f with
    | zero => simp at h; omega
    | succ f =>
      have p : (2 ^ (f + 1) : Nat) = 2 * 2 ^ f := by rw [Nat.pow_succ, Nat.mul_comm]
      rw [p] at h
      simp only [JOk, Nat.add_sub_cancel]
      refine ⟨by omega, .inl ⟨by omega, by omega, ?_⟩⟩
      omega
  · exact absurd h.1 hn
theorem jok_zero {N n : Int} (h : JOk 0 N n) : False := by
  have := h.1
  omega
theorem jok8 {N n : Int} (hN : N < 64) : JOk 8 N n := by
  refine ⟨by decide, ?_⟩
  have e1 : ((2 ^ (8 - 1) : Nat) : Int) = 128 := by decide
  have e2 : ((2 ^ (8 - 2) : Nat) : Int) = 64 := by decide
  rw [e1, e2]
  omega
theorem jm_z {P N x y z n : Int} {f : Nat} (h : y = 0 ∨ n = 0) : jm P N x y z (f + 1) n = (0, 0, 1) := if_pos h
theorem jm_1 {P N x y z n : Int} {f : Nat} (h : y ≠ 0) (h1 : n = 1) : jm P N x y z (f + 1) n = (x, y, z) :=
  (if_neg (by omega)).trans (if_pos h1)
theorem jm_m {P N x y z n : Int} {f : Nat} {r : Int × Int × Int} (h : y ≠ 0) (h0 : n ≠ 0) (h1 : n ≠ 1) (h2 : n < 0 ∨ N ≤ n) (e : jm P N x y z f (n.fmod N) = r) : jm P N x y z (f + 1) n = r :=
  (if_neg (by omega)).trans ((if_neg h1).trans ((if_pos h2).trans e))
theorem jm_d {P N x y z n X Y Z : Int} {f : Nat} {r : Int × Int × Int} (h : y ≠ 0) (h0 : n ≠ 0) (h1 : n ≠ 1) (h2 : ¬ n < 0) (h3 : ¬ N ≤ n) (h4 : n.fmod 2 = 0) (e : jm P N x y z f (n.fdiv 2) = (X, Y, Z)) (d : dbl P X Y Z = r) : jm P N x y z (f + 1) n = r := by
  unfold jm
  rw [if_neg (by omega), if_neg h1, if_neg (by omega), e]
  exact (if_pos h4).trans d
theorem jm_a {P N x y z n X Y Z X' Y' Z' : Int} {f : Nat} {r : Int × Int × Int} (h : y ≠ 0) (h0 : n ≠ 0) (h1 : n ≠ 1) (h2 : ¬ n < 0) (h3 : ¬ N ≤ n) (h4 : n.fmod 2 ≠ 0) (e : jm P N x y z f (n.fdiv 2) = (X, Y, Z)) (d : dbl P X Y Z = (X', Y', Z')) (a : jadd P X' Y' Z' x y z = r) : jm P N x y z (f + 1) n = r := by
  unfold jm
  rw [if_neg (by omega), if_neg h1, if_neg (by omega), e]
  dsimp only
  rw [if_neg h4, d]
  exact a
theorem fm2 {n : Int} (h0 : n.fmod 2 ≠ 0) (h1 : n.fmod 2 ≠ 1) : False := by
  have a := fm_lo (a := n) (P := 2) (by decide)
  have b := fm_hi (a := n) (P := 2) (by decide)
  omega
theorem news_d1 {h₀ h : Heap} {L : Addr} {news : List (Addr × Obj)} {a b : Addr × Obj} (N : News h₀ L h (a :: b :: news)) : News h₀ L h (a :: news) := fun p hp => by
  rcases List.mem_cons.mp hp with rfl | hp
  · exact N _ (.head _)
  · exact N _ (.tail _ (.tail _ hp))
theorem news_d2 {h₀ h : Heap} {L : Addr} {news : List (Addr × Obj)} {a b c : Addr × Obj} (N : News h₀ L h (a :: b :: c :: news)) : News h₀ L h (a :: news) := news_d1 (news_d1 N)
abbrev JmCl (w : World) (mean : ExcName → Option Value) (mg mb : Str → Option Value) (f : Nat) : Prop :=
  ∀ (news : List (Addr × Obj)) (p curve : Addr) (x y z P N B Gx Gy n : Int) (t1 t2 t3 tn u1 u2 u3 u4 u5 u6 : Tok) (c d : Nat),
    (p, tup3 x y z t1 t2 t3 c) ∈ news → (curve, tup6 P N 0 B Gx Gy u1 u2 u3 u4 u5 u6 d) ∈ news →
    WP P → 1 < N → N < 64 → 0 ≤ x → x < P → 0 ≤ y → y < P → 0 ≤ z → z < P → JOk f N n →
    Ctr w mean mg mb 56 (f + 3) news [.ref p, .int n tn, .ref curve] (RetJ news P (jm P N x y z f n))
end PartCJm
end Mine
-- part CJm2
namespace Mine
section PartCJm2
set_option maxHeartbeats 1000000
theorem freshCJm2 : True := by k_with_none; w_top off; trivial
local macro_rules | `(tactic| walk_at "pad 0") => `(tactic| fail "pad")
local macro_rules | `(tactic| k_steps) => `(tactic| repeat' (first | (k_unfold; (try dsimp only)) | (k_end; wrow_close) | (dsimp only; walk1) | walk1 | (leave1; walk_say "STEP leave1"; try dsimp only) | fail "no step"))
local macro_rules | `(tactic| k_mem) => `(tactic| first | assumption | exact List.mem_cons_self | (refine List.mem_cons_of_mem _ ?_; k_mem))
local macro_rules | `(tactic| walk_at "call ref") => `(tactic| (k_here; (with_reducible show wpAny _ _ (PySem.call (Value.ref 35) _) _ _ _); k_dflt (refine' dblJ ?k1 ?k2 ?k3 ?k4 ?k5 ?kK ?hp ?hc ?b1 ?b3 ?b4 ?b5 ?b6 ?b7 ?b8 ?kd ?ku ?_; (case k1 => k_asm); (case k2 => k_asm); (case k3 => k_asm); (case k4 => k_asm); (case k5 => k_asm); (case kK => first | exact rfl | assumption); (case hp => first | assumption | k_mem); (case hc => first | assumption | k_mem); (case b1 => assumption); (case b3 => assumption); (case b4 => assumption); (case b5 => assumption); (case b6 => assumption); (case b7 => assumption); (case b8 => assumption); (case kd => ktr_room); (case ku => ktr_units); k_whole; intro X' Y' Z' hr' r1' r2' r3' r4' r5' r6' D' t1' t2' t3' c' h' tk' F' N'; (try dsimp only); (try k_fold))))
local macro_rules | `(tactic| walk_at "call ref") => `(tactic| (k_here; (with_reducible show wpAny _ _ (PySem.call (Value.ref 42) _) _ _ _); k_dflt (refine' jaddJ ?k1 ?k2 ?k3 ?k4 ?k5 ?kK ?hp ?hq ?hc ?b1 ?b3 ?b4 ?b5 ?b6 ?b7 ?b8 ?c3 ?c4 ?c5 ?c6 ?c7 ?c8 ?kd ?ku ?_; (case k1 => k_asm); (case k2 => k_asm); (case k3 => k_asm); (case k4 => k_asm); (case k5 => k_asm); (case kK => first | exact rfl | assumption); (case hp => first | assumption | k_mem); (case hq => first | assumption | k_mem); (case hc => first | assumption | k_mem); (case b1 => assumption); (case b3 => assumption); (case b4 => assumption); (case b5 => assumption); (case b6 => assumption); (case b7 => assumption); (case b8 => assumption); (case c3 => assumption); (case c4 => assumption); (case c5 => assumption); (case c6 => assumption); (case c7 => assumption); (case c8 => assumption); (case kd => ktr_room); (case ku => ktr_units); k_whole; intro X' Y' Z' hr' r1' r2' r3' r4' r5' r6' D' t1' t2' t3' c' h' tk' F' N'; (try dsimp only); (try k_fold))))
theorem jm_c (w : World) (mean : ExcName → Option Value) (mg mb : Str → Option Value) : ∀ f, JmCl w mean mg mb f := by
  intro f
  induction f with
  | zero => exact fun _ _ _ _ _ _ _ _ _ _ _ _ _ _ _ _ _ _ _ _ _ _ _ _ _ _ _ _ _ _ _ _ _ _ _ h => (jok_zero h).elim
  | succ f ih =>
    unfold JmCl Ctr RetJ at *
    k_fill
    dsimp only [tup3, tup6] at *
    intro news p curve x y z P N B Gx Gy n t1 t2 t3 tn u1 u2 u3 u4 u5 u6 c d hp hc hP hN hN' hx hx' hy hy' hz hz' hJ
    intros
    rename_i hret
    refine wpAny_call ?_
    k_dflt cell_enter
    k_with "call ref" => (k_here; (with_reducible show wpAny _ _ (PySem.call (Value.ref 56) _) _ _ _); k_dflt (refine' ih _ _ _ _ _ _ _ _ _ _ _ _ _ _ _ _ _ _ _ _ _ _ _ _ ?hp ?hc ?b1 ?b2 ?b3 ?b4 ?b5 ?b6 ?b7 ?b8 ?b9 ?bJ _ _ _ _ _ _ _ _ _ _ _ _ _ _ _ _ _ ?k1 ?k2 ?k3 ?k4 ?k5 ?kK ?kd ?ku ?_; (case k1 => k_asm); (case k2 => k_asm); (case k3 => k_asm); (case k4 => k_asm); (case k5 => k_asm); (case kK => first | exact rfl | assumption); (case hp => first | assumption | k_mem); (case hc => first | assumption | k_mem); (case b1 => assumption); (case b2 => assumption); (case b3 => assumption); (case b4 => assumption); (case b5 => assumption); (case b6 => assumption); (case b7 => assumption); (case b8 => assumption); (case b9 => assumption); (case bJ => first | exact jok_mod hN hJ (by omega) | exact jok_half hJ (by omega) (by omega) (by omega)); (case kd => ktr_room); (case ku => ktr_units); k_whole; intro X' Y' Z' hr' r1' r2' r3' r4' r5' r6' D' t1' t2' t3' c' h' tk' F' N'; (try dsimp only); (try k_fold)))
    k_steps
    all_goals first
      | exact hret 0 0 1 (jm_z (by first | exact .inl (by assumption) | exact .inr (by assumption))) (by decide) hP.pos (by decide) hP.pos (by decide) hP.one _ _ _ _ _ _ _ (by assumption) (by assumption)
      | exact hret x y z (jm_1 (by assumption) (by assumption)) hx hx' hy hy' hz hz' _ _ _ _ _ _ _ (by assumption) (news_cons (by assumption) hp)
      | exact hret _ _ _ (jm_m (by assumption) (by assumption) (by assumption) (by omega) (by assumption)) (by assumption) (by assumption) (by assumption) (by assumption) (by assumption) (by assumption) _ _ _ _ _ _ _ (by assumption) (by assumption)
      | exact hret _ _ _ (jm_d (by assumption) (by assumption) (by assumption) (by assumption) (by assumption) (by assumption) (by assumption) (by assumption)) (by assumption) (by assumption) (by assumption) (by assumption) (by assumption) (by assumption) _ _ _ _ _ _ _ (by assumption) (news_d1 (by assumption))
      | exact hret _ _ _ (jm_a (by assumption) (by assumption) (by assumption) (by assumption) (by assumption) (by assumption) (by assumption) (by assumption) (by assumption)) (by assumption) (by assumption) (by assumption) (by assumption) (by assumption) (by assumption) _ _ _ _ _ _ _ (by assumption) (news_d2 (by assumption))
      | exact (fm2 (by assumption) (by assumption)).elim
end PartCJm2
end Mine
-- part CMul
namespace Mine
section PartCMul
set_option maxHeartbeats 1000000
theorem freshCMul : True := by k_with_none; w_top off; trivial
abbrev RetP (news : List (Addr × Obj)) (P : Int) (r : Int × Int) (h₀ : Heap) (L : Addr) (m : Str → Option Value) (s : Shared) (Q : Value → Shared → Prop) : Prop :=
  ∀ X Y : Int, r = (X, Y) → 0 ≤ X → X < P → 0 ≤ Y → Y < P →
    ∀ (D : Addr) (t1 t2 : Tok) (c : Nat) (h' : Heap) (tk' : Nat), Fr h₀ L h' m → News h₀ L h' ((D, tup2 X Y t1 t2 c) :: news) → AllLt D news → Q (.ref D) { s with heap := h', toks := tk' }
theorem frjP {w : World} {mean : ExcName → Option Value} {mg mb : Str → Option Value} {news : List (Addr × Obj)} {p curve : Addr} {x y z P N A B Gx Gy : Int} {t1 t2 t3 u1 u2 u3 u4 u5 u6 : Tok} {c d : Nat}
    {dp un : Nat} {gd : Option (List Code)} {cn : Str} {cs : Scope} {a : Addr} {ccd : Value} {cl : List (Str × Addr)} {outer : List Env} {A₀ : Around} {base h₀ : Heap} {L : Addr} {m : Str → Option Value} {s : Shared} {Q E : Value → Shared → Prop}
    (Bl : Below A₀ base outer h₀) (F : Fr h₀ L s.heap m) (X : (hd.heap_39 w.params).In h₀) (N' : News h₀ L s.heap news) (T : Top hd.view_39 (looseW hd.view_39 []) mean mg mb h₀) (hk : cs.kind = .function)
    (hp : (p, tup3 x y z t1 t2 t3 c) ∈ news) (hc : (curve, tup6 P N A B Gx Gy u1 u2 u3 u4 u5 u6 d) ∈ news)
    (hP : WP P) (hx : 0 ≤ x) (hx' : x < P) (hy : 0 ≤ y) (hy' : y < P) (hz : 0 ≤ z) (hz' : z < P)
    (hd : dp + 2 < recursionLimit) (hu : un + 8 * 2 < cLine) (ret : RetP news P (frj P x y z) h₀ L m s Q) :
    wpAny (model PySem.Challenge.rw_bb0057_01.row.prog w) (ktrTop dp un gd cn cs L a ccd cl outer) (call (.ref 49) [.ref p, .ref curve]) Q E s :=
  frj_c w mean mg mb news p curve x y z P N A B Gx Gy t1 t2 t3 u1 u2 u3 u4 u5 u6 c d hp hc hP hx hx' hy hy' hz hz' _ _ _ _ _ _ _ _ _ _ _ _ _ _ _ _ _ Bl F X N' T hk hd hu
    (ret _ _ rfl (fm_lo hP.pos) (fm_hi hP.pos) (fm_lo hP.pos) (fm_hi hP.pos))
theorem jmJ {w : World} {mean : ExcName → Option Value} {mg mb : Str → Option Value} {news : List (Addr × Obj)} {p curve : Addr} {x y z P N B Gx Gy n : Int} {t1 t2 t3 tn u1 u2 u3 u4 u5 u6 : Tok} {c d : Nat}
    {dp un : Nat} {gd : Option (List Code)} {cn : Str} {cs : Scope} {a : Addr} {ccd : Value} {cl : List (Str × Addr)} {outer : List Env} {A₀ : Around} {base h₀ : Heap} {L : Addr} {m : Str → Option Value} {s : Shared} {Q E : Value → Shared → Prop}
    (Bl : Below A₀ base outer h₀) (F : Fr h₀ L s.heap m) (X : (hd.heap_39 w.params).In h₀) (N' : News h₀ L s.heap news) (T : Top hd.view_39 (looseW hd.view_39 []) mean mg mb h₀) (hk : cs.kind = .function)
    (hp : (p, tup3 x y z t1 t2 t3 c) ∈ news) (hc : (curve, tup6 P N 0 B Gx Gy u1 u2 u3 u4 u5 u6 d) ∈ news)
    (hP : WP P) (hN : 1 < N) (hN' : N < 64) (hx : 0 ≤ x) (hx' : x < P) (hy : 0 ≤ y) (hy' : y < P) (hz : 0 ≤ z) (hz' : z < P)
    (hd : dp + 11 < recursionLimit) (hu : un + 8 * 11 < cLine) (ret : RetJ news P (jm P N x y z 8 n) h₀ L m s Q) :
    wpAny (model PySem.Challenge.rw_bb0057_01.row.prog w) (ktrTop dp un gd cn cs L a ccd cl outer) (call (.ref 56) [.ref p, .int n tn, .ref curve]) Q E s :=
  jm_c w mean mg mb 8 news p curve x y z P N B Gx Gy n t1 t2 t3 tn u1 u2 u3 u4 u5 u6 c d hp hc hP hN hN' hx hx' hy hy' hz hz' (jok8 hN') _ _ _ _ _ _ _ _ _ _ _ _ _ _ _ _ _ Bl F X N' T hk hd hu ret

local macro_rules | `(tactic| k_steps) => `(tactic| repeat' (first | (k_unfold; (try dsimp only)) | (k_end; wrow_close) | (dsimp only; walk1) | walk1 | (leave1; walk_say "STEP leave1"; try dsimp only) | fail "no step"))
local macro_rules | `(tactic| k_mem) => `(tactic| first | assumption | exact List.mem_cons_self | (refine List.mem_cons_of_mem _ ?_; k_mem))

theorem toj_c (w : World) (mean : ExcName → Option Value) (mg mb : Str → Option Value) (news : List (Addr × Obj)) (p : Addr) (x y : Int) (t1 t2 : Tok) (c : Nat)
    (hp : (p, tup2 x y t1 t2 c) ∈ news) : Ctr w mean mg mb 28 1 news [.ref p] (Ret3 news x y 1) := by
  unfold Ctr Ret3
  k_fill
  dsimp only [tup2, tup3] at *
  intros
  rename_i hret
  refine wpAny_call ?_
  k_dflt cell_enter
  k_steps
  all_goals exact hret _ _ _ _ _ _ _ (by assumption) (by assumption)
theorem tojJ {w : World} {mean : ExcName → Option Value} {mg mb : Str → Option Value} {news : List (Addr × Obj)} {p : Addr} {x y : Int} {t1 t2 : Tok} {c : Nat}
    {dp un : Nat} {gd : Option (List Code)} {cn : Str} {cs : Scope} {a : Addr} {ccd : Value} {cl : List (Str × Addr)} {outer : List Env} {A₀ : Around} {base h₀ : Heap} {L : Addr} {m : Str → Option Value} {s : Shared} {Q E : Value → Shared → Prop}
    (Bl : Below A₀ base outer h₀) (F : Fr h₀ L s.heap m) (X : (hd.heap_39 w.params).In h₀) (N' : News h₀ L s.heap news) (T : Top hd.view_39 (looseW hd.view_39 []) mean mg mb h₀) (hk : cs.kind = .function)
    (hp : (p, tup2 x y t1 t2 c) ∈ news)
    (hd : dp + 1 < recursionLimit) (hu : un + 8 * 1 < cLine) (ret : Ret3 news x y 1 h₀ L m s Q) :
    wpAny (model PySem.Challenge.rw_bb0057_01.row.prog w) (ktrTop dp un gd cn cs L a ccd cl outer) (call (.ref 28) [.ref p]) Q E s :=
  toj_c w mean mg mb news p x y t1 t2 c hp _ _ _ _ _ _ _ _ _ _ _ _ _ _ _ _ _ Bl F X N' T hk hd hu ret

local macro_rules | `(tactic| walk_at "call ref") => `(tactic| (k_here; (with_reducible show wpAny _ _ (PySem.call (Value.ref 28) _) _ _ _); k_dflt (refine' tojJ ?k1 ?k2 ?k3 ?k4 ?k5 ?kK ?hp ?kd ?ku ?_; (case k1 => k_asm); (case k2 => k_asm); (case k3 => k_asm); (case k4 => k_asm); (case k5 => k_asm); (case kK => first | exact rfl | assumption); (case hp => k_mem); (case kd => ktr_room); (case ku => ktr_units); k_whole; intro D' t1' t2' t3' c' h' tk' F' N'; (try dsimp only); (try k_fold))))
local macro_rules | `(tactic| walk_at "call ref") => `(tactic| (k_here; (with_reducible show wpAny _ _ (PySem.call (Value.ref 42) _) _ _ _); k_dflt (refine' jaddJ ?k1 ?k2 ?k3 ?k4 ?k5 ?kK ?hp ?hq ?hc ?b1 ?b3 ?b4 ?b5 ?b6 ?b7 ?b8 ?c3 ?c4 ?c5 ?c6 ?c7 ?c8 ?kd ?ku ?_; (case k1 => k_asm); (case k2 => k_asm); (case k3 => k_asm); (case k4 => k_asm); (case k5 => k_asm); (case kK => first | exact rfl | assumption); (case hp => k_mem); (case hq => k_mem); (case hc => k_mem); (case b1 => assumption); (case b3 => assumption); (case b4 => assumption); (case b5 => assumption); (case b6 => assumption); (case b7 => first | assumption | decide); (case b8 => assumption); (case c3 => assumption); (case c4 => assumption); (case c5 => assumption); (case c6 => assumption); (case c7 => first | assumption | decide); (case c8 => assumption); (case kd => ktr_room); (case ku => ktr_units); k_whole; intro X' Y' Z' hr' r1' r2' r3' r4' r5' r6' D' t1' t2' t3' c' h' tk' F' N'; (try dsimp only); (try k_fold))))
local macro_rules | `(tactic| walk_at "call ref") => `(tactic| (k_here; (with_reducible show wpAny _ _ (PySem.call (Value.ref 49) _) _ _ _); k_dflt (refine' frjP ?k1 ?k2 ?k3 ?k4 ?k5 ?kK ?hp ?hc ?b1 ?b3 ?b4 ?b5 ?b6 ?b7 ?b8 ?kd ?ku ?_; (case k1 => k_asm); (case k2 => k_asm); (case k3 => k_asm); (case k4 => k_asm); (case k5 => k_asm); (case kK => first | exact rfl | assumption); (case hp => k_mem); (case hc => k_mem); (case b1 => assumption); (case b3 => assumption); (case b4 => assumption); (case b5 => assumption); (case b6 => assumption); (case b7 => assumption); (case b8 => assumption); (case kd => ktr_room); (case ku => ktr_units); k_whole; intro X' Y' hr' r1' r2' r3' r4' D' t1' t2' c' h' tk' F' N' hl'; (try dsimp only); (try k_fold))))
local macro_rules | `(tactic| walk_at "call ref") => `(tactic| (k_here; (with_reducible show wpAny _ _ (PySem.call (Value.ref 56) _) _ _ _); k_dflt (refine' jmJ ?k1 ?k2 ?k3 ?k4 ?k5 ?kK ?hp ?hc ?b1 ?n1 ?n2 ?b3 ?b4 ?b5 ?b6 ?b7 ?b8 ?kd ?ku ?_; (case k1 => k_asm); (case k2 => k_asm); (case k3 => k_asm); (case k4 => k_asm); (case k5 => k_asm); (case kK => first | exact rfl | assumption); (case hp => k_mem); (case hc => k_mem); (case b1 => assumption); (case n1 => assumption); (case n2 => assumption); (case b3 => assumption); (case b4 => assumption); (case b5 => assumption); (case b6 => assumption); (case b7 => first | assumption | decide); (case b8 => assumption); (case kd => ktr_room); (case ku => ktr_units); k_whole; intro X' Y' Z' hr' r1' r2' r3' r4' r5' r6' D' t1' t2' t3' c' h' tk' F' N'; (try dsimp only); (try k_fold))))

def pmul (P N x y n : Int) : Int × Int := match jm P N x y 1 8 n with | (X, Y, Z) => frj P X Y Z
def padd (P x1 y1 x2 y2 : Int) : Int × Int := match jadd P x1 y1 1 x2 y2 1 with | (X, Y, Z) => frj P X Y Z
theorem pmul_eq {P N x y n X Y Z X' Y' : Int} (h : jm P N x y 1 8 n = (X, Y, Z)) (h2 : frj P X Y Z = (X', Y')) : pmul P N x y n = (X', Y') := by unfold pmul; rw [h]; exact h2
theorem padd_eq {P x1 y1 x2 y2 X Y Z X' Y' : Int} (h : jadd P x1 y1 1 x2 y2 1 = (X, Y, Z)) (h2 : frj P X Y Z = (X', Y')) : padd P x1 y1 x2 y2 = (X', Y') := by unfold padd; rw [h]; exact h2
theorem news_d3 {h₀ h : Heap} {L : Addr} {news : List (Addr × Obj)} {a b c d : Addr × Obj} (N : News h₀ L h (a :: b :: c :: d :: news)) : News h₀ L h (a :: news) := news_d2 (news_d1 N)
theorem pmul_c (w : World) (mean : ExcName → Option Value) (mg mb : Str → Option Value) (news : List (Addr × Obj)) (p curve : Addr) (x y P N B Gx Gy n : Int) (t1 t2 tn u1 u2 u3 u4 u5 u6 : Tok) (c d : Nat)
    (hp : (p, tup2 x y t1 t2 c) ∈ news) (hc : (curve, tup6 P N 0 B Gx Gy u1 u2 u3 u4 u5 u6 d) ∈ news)
    (hP : WP P) (hN : 1 < N) (hN' : N < 64) (hx : 0 ≤ x) (hx' : x < P) (hy : 0 ≤ y) (hy' : y < P) :
    Ctr w mean mg mb 63 12 news [.ref p, .int n tn, .ref curve] (RetP news P (pmul P N x y n)) := by
  have hP1 := hP.one
  unfold Ctr RetP
  k_fill
  dsimp only [tup2, tup3, tup6] at *
  intros
  rename_i hret
  refine wpAny_call ?_
  k_dflt cell_enter
  k_steps
  all_goals exact hret _ _ (pmul_eq (by assumption) (by assumption)) (by assumption) (by assumption) (by assumption) (by assumption) _ _ _ _ _ _ (by assumption) (news_d2 (by assumption)) (by rename AllLt _ _ => hl; exact hl.2.2)
theorem padd_c (w : World) (mean : ExcName → Option Value) (mg mb : Str → Option Value) (news : List (Addr × Obj)) (p q curve : Addr) (x1 y1 x2 y2 P N B Gx Gy : Int) (t1 t2 s1 s2 u1 u2 u3 u4 u5 u6 : Tok) (c e d : Nat)
    (hp : (p, tup2 x1 y1 t1 t2 c) ∈ news) (hq : (q, tup2 x2 y2 s1 s2 e) ∈ news) (hc : (curve, tup6 P N 0 B Gx Gy u1 u2 u3 u4 u5 u6 d) ∈ news)
    (hP : WP P) (hx : 0 ≤ x1) (hx' : x1 < P) (hy : 0 ≤ y1) (hy' : y1 < P) (hX : 0 ≤ x2) (hX' : x2 < P) (hY : 0 ≤ y2) (hY' : y2 < P) :
    Ctr w mean mg mb 70 12 news [.ref p, .ref q, .ref curve] (RetP news P (padd P x1 y1 x2 y2)) := by
  have hP1 := hP.one
  unfold Ctr RetP
  k_fill
  dsimp only [tup2, tup3, tup6] at *
  intros
  rename_i hret
  refine wpAny_call ?_
  k_dflt cell_enter
  k_steps
  all_goals exact hret _ _ (padd_eq (by assumption) (by assumption)) (by assumption) (by assumption) (by assumption) (by assumption) _ _ _ _ _ _ (by assumption) (news_d3 (by assumption)) (by rename AllLt _ _ => hl; exact hl.2.2.2)
end PartCMul
end Mine
-- part LBase
namespace Mine
section PartLBase
set_option maxHeartbeats 1000000
theorem freshLBase : True := by k_with_none; w_top off; trivial
def lawDef : List Stmt × Scope := match PySem.Challenge.pw_bb0057_01.main.body with
  | [_, _, _, _, _, _, _, _, _, _, _, Stmt.FunctionDef _ _ b _ _ _ sc _ _ _] => (b, sc)
  | _ => ([], { kind := .module, names := [], isGenerator := false, isCoroutine := false, more := [] })
def lawBody : List Stmt := lawDef.1
def lawScope : Scope := lawDef.2
abbrev lawEnv (L a : Addr) (ccd : Value) : Env := envOfC (Str.ofString "law") lawScope L a ccd
abbrev lawA (dp un : Nat) (gd : Option (List Code)) (L a : Addr) (ccd : Value) (outer : List Env) : Around := { handled := none, depth := dp, frames := some (lawEnv L a ccd :: outer), guards := gd, units := un }
theorem kst_canon {α : Type} {M : Model} {A : Around} {T : Sem α} {Q : α → Shared → Prop} {E : Value → Shared → Prop} {s : Shared} {h₀ : Heap} {L : Addr} {m : Str → Option Value} (ps : List (Str × Value))
    (F : Fr h₀ L s.heap m) (hk : ∀ p ∈ ps, m p.1 = some p.2) (h : ∀ u, Fr h₀ L s.heap (kstB u ps) → wpAny M A T Q E s) : wpAny M A T Q E s := by
  refine h m ?_
  have e : kstB m ps = m := by
    funext y
    exact kstB_eq hk fun _ => rfl
  rw [e]
  exact F
end PartLBase
end Mine
-- part LH
namespace Mine
section PartLH
set_option maxHeartbeats 4000000
theorem freshLH : True := by k_with_none; w_top off; trivial
theorem pmulJ {w : World} {mean : ExcName → Option Value} {mg mb : Str → Option Value} {news : List (Addr × Obj)} {p curve : Addr} {x y P N B Gx Gy n : Int} {t1 t2 tn u1 u2 u3 u4 u5 u6 : Tok} {c d : Nat}
    {dp un : Nat} {gd : Option (List Code)} {cn : Str} {cs : Scope} {a : Addr} {ccd : Value} {cl : List (Str × Addr)} {outer : List Env} {A₀ : Around} {base h₀ : Heap} {L : Addr} {m : Str → Option Value} {s : Shared} {Q E : Value → Shared → Prop}
    (Bl : Below A₀ base outer h₀) (F : Fr h₀ L s.heap m) (X : (hd.heap_39 w.params).In h₀) (N' : News h₀ L s.heap news) (T : Top hd.view_39 (looseW hd.view_39 []) mean mg mb h₀) (hk : cs.kind = .function)
    (hp : (p, tup2 x y t1 t2 c) ∈ news) (hc : (curve, tup6 P N 0 B Gx Gy u1 u2 u3 u4 u5 u6 d) ∈ news)
    (hP : WP P) (hN : 1 < N) (hN' : N < 64) (hx : 0 ≤ x ∧ x < P) (hy : 0 ≤ y ∧ y < P)
    (hd : dp + 12 < recursionLimit) (hu : un + 8 * 12 < cLine) (ret : RetP news P (pmul P N x y n) h₀ L m s Q) :
    wpAny (model PySem.Challenge.rw_bb0057_01.row.prog w) (ktrTop dp un gd cn cs L a ccd cl outer) (call (.ref 63) [.ref p, .int n tn, .ref curve]) Q E s :=
  pmul_c w mean mg mb news p curve x y P N B Gx Gy n t1 t2 tn u1 u2 u3 u4 u5 u6 c d hp hc hP hN hN' hx.1 hx.2 hy.1 hy.2 _ _ _ _ _ _ _ _ _ _ _ _ _ _ _ _ _ Bl F X N' T hk hd hu ret
theorem paddJ {w : World} {mean : ExcName → Option Value} {mg mb : Str → Option Value} {news : List (Addr × Obj)} {p q curve : Addr} {x1 y1 x2 y2 P N B Gx Gy : Int} {t1 t2 s1 s2 u1 u2 u3 u4 u5 u6 : Tok} {c e d : Nat}
    {dp un : Nat} {gd : Option (List Code)} {cn : Str} {cs : Scope} {a : Addr} {ccd : Value} {cl : List (Str × Addr)} {outer : List Env} {A₀ : Around} {base h₀ : Heap} {L : Addr} {m : Str → Option Value} {s : Shared} {Q E : Value → Shared → Prop}
    (Bl : Below A₀ base outer h₀) (F : Fr h₀ L s.heap m) (X : (hd.heap_39 w.params).In h₀) (N' : News h₀ L s.heap news) (T : Top hd.view_39 (looseW hd.view_39 []) mean mg mb h₀) (hk : cs.kind = .function)
    (hp : (p, tup2 x1 y1 t1 t2 c) ∈ news) (hq : (q, tup2 x2 y2 s1 s2 e) ∈ news) (hc : (curve, tup6 P N 0 B Gx Gy u1 u2 u3 u4 u5 u6 d) ∈ news)
    (hP : WP P) (hx : 0 ≤ x1) (hx' : x1 < P) (hy : 0 ≤ y1) (hy' : y1 < P) (hX : 0 ≤ x2) (hX' : x2 < P) (hY : 0 ≤ y2) (hY' : y2 < P)
    (hd : dp + 12 < recursionLimit) (hu : un + 8 * 12 < cLine) (ret : RetP news P (padd P x1 y1 x2 y2) h₀ L m s Q) :
    wpAny (model PySem.Challenge.rw_bb0057_01.row.prog w) (ktrTop dp un gd cn cs L a ccd cl outer) (call (.ref 70) [.ref p, .ref q, .ref curve]) Q E s :=
  padd_c w mean mg mb news p q curve x1 y1 x2 y2 P N B Gx Gy t1 t2 s1 s2 u1 u2 u3 u4 u5 u6 c e d hp hq hc hP hx hx' hy hy' hX hX' hY hY' _ _ _ _ _ _ _ _ _ _ _ _ _ _ _ _ _ Bl F X N' T hk hd hu ret

local macro_rules | `(tactic| k_steps) => `(tactic| repeat' (first | (k_unfold; (try dsimp only)) | (k_end; wrow_close) | ((fail_if_success (with_reducible show wpAny _ _ (subscriptTail _ _ _ (Value.ref _)) _ _ _)); dsimp only; walk1) | walk1 | (leave1; walk_say "STEP leave1"; try dsimp only) | fail "no step"))
local macro_rules | `(tactic| k_mem) => `(tactic| first | assumption | exact List.mem_cons_self | (refine List.mem_cons_of_mem _ ?_; k_mem) | (refine List.mem_append.mpr (Or.inr ?_); k_mem) | (refine List.mem_append.mpr (Or.inl ?_); k_mem))
local macro_rules | `(tactic| walk_at "call ref") => `(tactic| (k_here; (with_reducible show wpAny _ _ (PySem.call (Value.ref 63) _) _ _ _); k_dflt (refine' pmulJ ?k1 ?k2 ?k3 ?k4 ?k5 ?kK ?hp ?hc ?b1 ?n1 ?n2 ?b3 ?b4 ?kd ?ku ?_; (case k1 => k_asm); (case k2 => k_asm); (case k3 => k_asm); (case k4 => k_asm); (case k5 => k_asm); (case kK => first | exact rfl | assumption); (case hp => k_mem); (case hc => k_mem); (case b1 => assumption); (case n1 => assumption); (case n2 => assumption); (case b3 => first | assumption | exact ⟨fm_lo (by assumption), fm_hi (by assumption)⟩); (case b4 => first | assumption | exact ⟨fm_lo (by assumption), fm_hi (by assumption)⟩); (case kd => ktr_room); (case ku => ktr_units); k_whole; intro X' Y' hr' r1' r2' r3' r4' D' t1' t2' c' h' tk' F' N' hl'; (try dsimp only); (try k_fold))))
local macro_rules | `(tactic| walk_at "call ref") => `(tactic| (k_here; (with_reducible show wpAny _ _ (PySem.call (Value.ref 70) _) _ _ _); k_dflt (refine' paddJ ?k1 ?k2 ?k3 ?k4 ?k5 ?kK ?hp ?hq ?hc ?b1 ?b3 ?b4 ?b5 ?b6 ?c3 ?c4 ?c5 ?c6 ?kd ?ku ?_; (case k1 => k_asm); (case k2 => k_asm); (case k3 => k_asm); (case k4 => k_asm); (case k5 => k_asm); (case kK => first | exact rfl | assumption); (case hp => k_mem); (case hq => k_mem); (case hc => k_mem); (case b1 => assumption); (case b3 => assumption); (case b4 => assumption); (case b5 => assumption); (case b6 => assumption); (case c3 => assumption); (case c4 => assumption); (case c5 => assumption); (case c6 => assumption); (case kd => ktr_room); (case ku => ktr_units); k_whole; intro X' Y' hr' r1' r2' r3' r4' D' t1' t2' c' h' tk' F' N' hl'; (try dsimp only); (try k_fold))))

theorem phH {w : World} {mean : ExcName → Option Value} {mg mb : Str → Option Value} {dp un : Nat} {gd : Option (List Code)} {a : Addr} {ccd : Value} {outer : List Env} {A₀ : Around} {base h₀ : Heap} {L : Addr} {s : Shared} {Q : Flow → Shared → Prop}
    {CL RL CV DU : Addr} {x y e r0 r1 P N B Gx Gy dx dy c0 c1 c2 c3 : Int} {tx ty te tr0 tr1 tc0 tc1 tc2 tc3 td0 td1 tN tP u1 u2 u3 u4 u5 u6 : Tok} {cc cr cv cu : Nat} {po mo : Obj} (u : Str → Option Value)
    (Bl : Below A₀ base outer h₀) (X : (hd.heap_39 w.params).In h₀) (T : Top hd.view_39 (looseW hd.view_39 []) mean mg mb h₀) (hd : dp + 20 < recursionLimit) (hu : un + 200 < cLine)
    (F : Fr h₀ L s.heap (kstB u [(Str.ofString "cells", .ref CL), (Str.ofString "roots", .ref RL), (Str.ofString "x", .int x tx), (Str.ofString "y", .int y ty), (Str.ofString "e", .int e te), (Str.ofString "curve", .ref CV), (Str.ofString "due", .ref DU)]))
    (N' : News h₀ L s.heap [(DU, tup2 dx dy td0 td1 cu), (CV, tup6 P N 0 B Gx Gy u1 u2 u3 u4 u5 u6 cv), (RL, listOf #[.int r0 tr0, .int r1 tr1] cr), (CL, listOf #[.int c0 tc0, .int c1 tc1, .int c2 tc2, .int c3 tc3] cc), (L + 1 + 1, mo), (L + 1, po)])
    (hmo : mo.data = .cell (some (.int N tN))) (hpo : po.data = .cell (some (.int P tP)))
    (hP : WP P) (hN : 1 < N) (hN' : N < 64) (hx : 0 ≤ x ∧ x < P) (hy : 0 ≤ y ∧ y < P) (he : 0 ≤ e ∧ e < P) (hr0 : 0 ≤ r0 ∧ r0 < N)
    (hfin : ∀ k m X1 Y1 X2 Y2 X3 Y3 : Int, -5 ≤ k → k ≤ 5 → -5 ≤ m → m ≤ 5 → 3 * (k * k - k * m + m * m) ≤ N → (k + m * r0 - c3).fmod N = 0 → pmul P N x y k = (X1, Y1) → pmul P N ((e * x).fmod P) y m = (X2, Y2) → padd P X1 Y1 X2 Y2 = (X3, Y3) → X3 = dx ∧ Y3 = dy)
    (hQ : ∀ h' tk' m', Fr h₀ L h' m' → Q (.ret (.bool true)) { s with heap := h', toks := tk' }) :
    wpAny (model PySem.Challenge.rw_bb0057_01.row.prog w) (lawA dp un gd L a ccd outer) (execs (lawBody.drop 15) (lawEnv L a ccd)) Q (fun _ _ => False) s := by
  have hP0 := hP.pos
  have hP1 := hP.lt
  dsimp only [lawA, lawEnv, lawBody, lawScope, lawDef, PySem.Challenge.pw_bb0057_01, List.drop, tup2, tup6, kstB] at *
  revert X
  k_fill
  intro X
  k_with "pyIter ref" => k_search (fun pre => True)
  k_with "InvEndN" => ((rename News _ _ _ _ => nE'); (try simp only [List.push_toArray] at nE'); (refine kst_end () (by assumption) nE' ?a1 ?a2 (by rfl) True.intro (List.forall_mem_nil _) ?a3 trivial); (case a1 => first | exact fun p hp => List.mem_append_left _ hp | kst_in); (case a2 => (intro p hp; k_mem)); (case a3 => kst_same))
  (try k_fold)
  k_steps
  all_goals first
    | exact hQ _ _ _ (by assumption)
    | (exfalso; (rename ((_ == _ && _ == _) = false) => hne); (simp only [Bool.and_eq_false_iff, beq_eq_false_iff_ne] at hne); (rename (padd P _ _ _ _ = (_, _)) => g3); (rename (pmul P N ((e * x).fmod P) y _ = (_, _)) => g2); (rename (pmul P N x y _ = (_, _)) => g1); have hh := hfin _ _ _ _ _ _ _ _ (by omega) (by omega) (by omega) (by omega) (by assumption) (by assumption) g1 g2 g3; omega)
end PartLH
end Mine
-- part LSr
namespace Mine
section PartLSr
set_option maxHeartbeats 1000000
theorem freshLSr : True := by k_with_none; w_top off; trivial
def SrEnd (h₀ : Heap) (L : Addr) (s : Shared) (led own : List (Addr × Obj)) (stored : List Str) (m₀ : Str → Option Value) (s₃ : Shared) : Prop :=
  ∃ h' tk m' news', s₃ = { s with heap := h', toks := tk } ∧ Fr h₀ L h' m' ∧ News h₀ L h' news' ∧ (∀ p ∈ led ++ own, p ∈ news') ∧ (∀ z, stored.contains z = false → m' z = m₀ z)
def SrPost (h₀ : Heap) (L : Addr) (s : Shared) (led own : List (Addr × Obj)) (stored : List Str) (m₀ : Str → Option Value) (Q : Flow → Shared → Prop) (f : Flow) (s₃ : Shared) : Prop :=
  match f with
  | .ret v => Q (.ret v) s₃
  | .brk => Q .next s₃
  | _ => SrEnd h₀ L s led own stored m₀ s₃
theorem sr_end {h₀ h' : Heap} {L : Addr} {s : Shared} {led own news' : List (Addr × Obj)} {stored : List Str} {m₀ m' : Str → Option Value} {tk : Nat}
    (F : Fr h₀ L h' m') (N : News h₀ L h' news') (hn : ∀ p ∈ led ++ own, p ∈ news') (hm : ∀ z, stored.contains z = false → m' z = m₀ z) : SrEnd h₀ L s led own stored m₀ { s with heap := h', toks := tk } :=
  ⟨h', tk, m', news', rfl, F, N, hn, hm⟩
section
variable {prog : Program} {w : World} {A : Around} {E : Value → Shared → Prop} {s : Shared} {env : Env} {h₀ : Heap} {target : Expr} {body : List Stmt} {Q : Flow → Shared → Prop}
theorem sr_fr {h : Heap} {L : Addr} {stored : List Str} {m m₀ : Str → Option Value} (hm : ∀ z, stored.contains z = false → m z = m₀ z) (F : Fr h₀ L h m) : Fr h₀ L h (fun z => if stored.contains z then m z else m₀ z) := by
  have e : (fun z => if stored.contains z then m z else m₀ z) = m := by
    funext z
    cases hz : stored.contains z with
    | true => simp
    | false => simp [hm z hz]
  rw [e]
  exact F
theorem iter_search {l : Addr} {vs : List Value} {nn : Nat} {m₀ : Str → Option Value} (led : List (Addr × Obj)) (stored : List Str)
    (hh : A.handled = none) (hl : (l, listOf vs.toArray nn) ∈ led) (F : Fr h₀ env.locals s.heap m₀) (N : News h₀ env.locals s.heap led)
    (turn : ∀ (i : Nat) (v : Value) (u : Str → Option Value) (h : Heap) (tk : Nat) (own : List (Addr × Obj)), vs[i]? = some v → Fr h₀ env.locals h (fun z => if stored.contains z then u z else m₀ z) → News h₀ env.locals h (led ++ own) →
      wpAny (model prog w) A (assign target env v) (fun _ s₃ => wpAny (model prog w) A (execs body env) (SrPost h₀ env.locals { s with heap := h, toks := tk } led own stored m₀ Q) E s₃) E { s with heap := h, toks := tk })
    (done : ∀ (u : Str → Option Value) h tk, Fr h₀ env.locals h (fun z => if stored.contains z then u z else m₀ z) → News h₀ env.locals h led → Q .next { s with heap := h, toks := tk }) :
    wpAny (model prog w) A (pyIter (.ref l)) (fun it s₂ => TurnsAt prog w A h₀ env target body Q E it s₂) E s := by
  have hol : s.heap.get? l = some (listOf vs.toArray nn) := (N _ hl).1
  have hls : s.heap.IsList l vs.toArray := ⟨_, hol, rfl, nn, rfl⟩
  have hne : l ≠ s.heap.objs.size := Nat.ne_of_lt (Heap.lt_size hol)
  refine wpAny_pyIter_list hls ?_
  have W := Walks.list (prog := prog) (w := w) hh s.heap.objs.size l hne vs.toArray
  have hlen : vs.toArray.size = vs.length := by simp
  rw [hlen] at W
  have KT := KTurns.ofWalks (target := target) W (fun i v s Q E st q => letGo_listiter st.1 q)
  refine ⟨_, _, _, vs.length, _, _, _, m₀, led, (fun _ m nx => nx = led ∧ ∀ z, stored.contains z = false → m z = m₀ z), rfl, KT, ?_, ?_, ?_, ⟨⟨_, Heap.get?_push_size _ rfl, rfl, rfl⟩, hls.at fun o e => Heap.get?_push_of_some _ e⟩, F.push _, (fun p hp => ⟨Heap.get?_push_of_some _ (N p hp).1, (N p hp).2⟩), ⟨rfl, fun _ _ => rfl⟩, ?_, ?_⟩
  · intro hm
    rcases List.mem_cons.mp hm with e | hm
    · exact absurd F.ns.lt (e ▸ Nat.lt_irrefl _)
    · exact (N _ hl).2.1 ((List.mem_singleton.mp hm).symm)
  · intro b hb
    rw [List.mem_singleton.mp hb]
    exact next_is_new F
  · intro p hp hI
    exact absurd (Heap.lt_size (N p hp).1) ((List.mem_singleton.mp hI) ▸ Nat.lt_irrefl _)
  · rintro i v m₁ news₁ h₁ tk₁ own hin hP ⟨rfl, hm⟩ hoff _ _ _ _ F₁ N₁
    have hP' : vs[i]? = some v := by simpa using hP
    have N₂ : News h₀ env.locals h₁ (news₁ ++ own) := fun p hp => N₁ p ((List.mem_append.mp hp).elim (fun h => List.mem_append.mpr (.inr h)) fun h => List.mem_append.mpr (.inl h))
    refine wpAny_mono (turn i v m₁ h₁ tk₁ own hP' (sr_fr hm F₁) N₂) (fun _ s₃ h₃ => wpAny_mono h₃ (fun f s₄ p => ?_) fun _ _ e => e) fun _ _ e => e
    have fin : SrEnd h₀ env.locals { s with heap := h₁, toks := tk₁ } news₁ own stored m₀ s₄ →
        LoopStepU h₀ env.locals [s.heap.objs.size] own (fun m nx => nx = news₁ ∧ ∀ z, stored.contains z = false → m z = m₀ z) { s with heap := h₁, toks := tk₁ } .next s₄ := by
      rintro ⟨h', tk, m', news', e, F', N', hn, hm'⟩
      exact ⟨rfl, h', tk, m', news₁, e, F', fun p hp => N' p (hn p ((List.mem_append.mp hp).elim (fun h => List.mem_append.mpr (.inr h)) fun h => List.mem_append.mpr (.inl h))), hoff, rfl, hm'⟩
    cases f with
    | ret v => exact .ret p
    | brk => exact .brk p
    | next => exact .next (fin p)
    | cont => exact .cont (fin p)
  · rintro h' tk m' news' F' N' _ ⟨rfl, hm⟩
    exact done m' h' tk (sr_fr hm F') N'
end
end PartLSr
end Mine
-- part LF
namespace Mine
section PartLF
set_option maxHeartbeats 4000000
theorem freshLF : True := by k_with_none; w_top off; trivial
def ptDat (p : Int × Int) : Dat := Dat.tuple [Dat.int p.1, Dat.int p.2]
theorem datIn_pt {tl : List (Addr × Obj)} {v : Value} {p : Int × Int} (h : DatIn tl v (ptDat p)) : ∃ (T : Addr) (t1 t2 : Tok) (c : Nat), v = .ref T ∧ (T, tup2 p.1 p.2 t1 t2 c) ∈ tl := by
  unfold ptDat at h
  cases h with
  | tuple hm ha =>
    cases ha with
    | cons h1 ha =>
      cases ha with
      | cons h2 ha =>
        cases ha
        cases h1
        cases h2
        exact ⟨_, _, _, _, rfl, hm⟩
theorem dat_at {tl : List (Addr × Obj)} {vs : List Value} {pts : List (Int × Int)} {i : Nat} {v : Value} (hD : DatAll tl vs (pts.map ptDat)) (hv : vs[i]? = some v) :
    ∃ (p : Int × Int) (T : Addr) (t1 t2 : Tok) (c : Nat), v = .ref T ∧ (T, tup2 p.1 p.2 t1 t2 c) ∈ tl ∧ pts[i]? = some p := by
  obtain ⟨hi, hvi⟩ := List.getElem?_eq_some_iff.mp hv
  have hl := hD.length
  have hi' : i < (pts.map ptDat).length := hl ▸ hi
  obtain ⟨v', hv', hd⟩ := hD.get hi'
  have e : v' = v := by rw [hv] at hv'; exact (Option.some.inj hv').symm
  subst e
  have hi2 : i < pts.length := by simpa using hi'
  rw [List.getElem_map] at hd
  obtain ⟨T, t1, t2, c, e, hm⟩ := datIn_pt hd
  exact ⟨pts[i], T, t1, t2, c, e, hm, List.getElem?_eq_getElem hi2⟩
theorem dat_take {tl : List (Addr × Obj)} {vs : List Value} {pts : List (Int × Int)} {i n : Nat} {v : Value} (hD : DatAll tl vs (pts.map ptDat)) (hv : (vs.take n)[i]? = some v) :
    ∃ (p : Int × Int) (T : Addr) (t1 t2 : Tok) (c : Nat), v = .ref T ∧ (T, tup2 p.1 p.2 t1 t2 c) ∈ tl ∧ p ∈ pts.take n ∧ p ∈ pts := by
  have hv' : vs[i]? = some v := by
    rw [List.getElem?_take] at hv
    split at hv
    · exact hv
    · cases hv
  have hin : i < n := by
    rw [List.getElem?_take] at hv
    split at hv
    · assumption
    · cases hv
  obtain ⟨p, T, t1, t2, c, e, hm, hp⟩ := dat_at hD hv'
  refine ⟨p, T, t1, t2, c, e, hm, ?_, List.mem_of_getElem? hp⟩
  refine List.mem_of_getElem? (i := i) ?_
  rw [List.getElem?_take, if_pos hin]
  exact hp
theorem sr_rest {x y : Int} (h : (x == x && y == y) = false) : False := by simp at h
theorem sl_list {prog : Program} {w : World} {A : Around} {E : Value → Shared → Prop} {s : Shared} {h₀ : Heap} {L l : Addr} {m : Str → Option Value} {news : List (Addr × Obj)} {vs : List Value} {value slice : PySem.Expr} {Q : Value → Shared → Prop} {t : Tok}
    (F : Fr h₀ L s.heap m) (N : News h₀ L s.heap news) (hl : s.heap.IsList l vs.toArray)
    (h : ∀ D h', Fr h₀ L h' m → News h₀ L h' ((D, listOf (vs.take 3).toArray 0) :: news) → (∀ p ∈ news, p.1 < D) → Q (.ref D) { s with heap := h' })
    (hs : subscripted slice false (.ref l) (.ref s.heap.objs.size) = operate [.ref s.heap.objs.size, .ref l] (getItem (.ref l) (.ref s.heap.objs.size))) (ht : ∀ r, letTemporaryGo value (.ref l) r = pure ()) (hz : vs.toArray.size ≤ sizeLine) :
    wpAny (model prog w) A (subscriptTail value slice (.ref l) (.ref s.heap.objs.size)) Q E { s with heap := s.heap.push { cls := .type "slice", data := .fields #[.none, .int 3 t, .none] } } := by
  refine kmk_slice F N hl IsPart.none (IsPart.int 3 t) (fun D h' F' N' l1 => h D h' F' ?_ l1) hs ht hz
  have e : sliceBounds none (some 3) none vs.toArray.size = (((0 : Nat) : Int), ((min 3 vs.toArray.size : Nat) : Int), 1) := by
    simp only [sliceBounds, Option.getD_none, show (1 : Int) > 0 by decide, if_true, if_neg (show ¬ ((3 : Int) < 0) by decide)]
    congr 1
    congr 1
    omega
  have e2 : slicePick vs.toArray none (some 3) none = (vs.take 3).toArray := by
    rw [kmk_pick_nat _ e]
    simp only [List.drop_zero, Nat.sub_zero, List.size_toArray]
    congr 1
    exact (List.take_eq_take_iff.mpr (by omega))
  rw [← e2]
  exact N'
end PartLF
end Mine
-- part LF2
namespace Mine
section PartLF2
set_option maxHeartbeats 4000000
theorem freshLF2 : True := by k_with_none; w_top off; trivial
local macro_rules | `(tactic| walk_at "pad 0") => `(tactic| fail "pad")
local macro_rules | `(tactic| k_steps) => `(tactic| repeat' ((fail_if_success (with_reducible show wpAny _ _ (execs (Stmt.For (Expr.Name _ ⟨101, 8, 101, 9⟩) _ _ _ _ :: _) _) _ _ _)); first | (k_unfold; (try dsimp only)) | (k_end; wrow_close) | ((fail_if_success (with_reducible show wpAny _ _ (subscriptTail _ _ _ (Value.ref _)) _ _ _)); dsimp only; walk1) | walk1 | (leave1; walk_say "STEP leave1"; try dsimp only) | fail "no step"))
local macro_rules | `(tactic| k_mem) => `(tactic| first | assumption | exact List.mem_cons_self | (refine List.mem_cons_of_mem _ ?_; k_mem) | (refine List.mem_append.mpr (Or.inr ?_); k_mem) | (refine List.mem_append.mpr (Or.inl ?_); k_mem))
local macro_rules | `(tactic| walk_at "call ref") => `(tactic| (k_here; (with_reducible show wpAny _ _ (PySem.call (Value.ref 63) _) _ _ _); k_dflt (refine' pmulJ ?k1 ?k2 ?k3 ?k4 ?k5 ?kK ?hp ?hc ?b1 ?n1 ?n2 ?b3 ?b4 ?kd ?ku ?_; (case k1 => k_asm); (case k2 => k_asm); (case k3 => k_asm); (case k4 => k_asm); (case k5 => k_asm); (case kK => first | exact rfl | assumption); (case hp => k_mem); (case hc => k_mem); (case b1 => assumption); (case n1 => assumption); (case n2 => assumption); (case b3 => first | assumption | exact ⟨fm_lo (by assumption), fm_hi (by assumption)⟩); (case b4 => first | assumption | exact ⟨fm_lo (by assumption), fm_hi (by assumption)⟩); (case kd => ktr_room); (case ku => ktr_units); k_whole; intro X' Y' hr' r1' r2' r3' r4' D' t1' t2' c' h' tk' F' N' hl'; (try dsimp only); (try k_fold))))
local macro_rules | `(tactic| walk_at "subscriptTail Name Slice ref ref") => `(tactic| (k_here; (with_reducible show wpAny _ _ (subscriptTail _ (PySem.Expr.Slice _ _ none _) (Value.ref _) (Value.ref _)) _ _ _); k_dflt (refine' sl_list ?F ?N ?l ?_ ?s ?t ?z; (case F => k_asm); (case N => k_asm); (case l => exact News.isList (by k_asm) (by k_mem)); (case s => with_unfolding_all rfl); (case t => kmk_pure); (case z => assumption)); intro D' h' F' N' l1; (try k_lt l1); (try k_sweep)))

theorem news_fh {h₀ h : Heap} {L : Addr} {tl : List (Addr × Obj)} {d1 d2 d3 cv rl pl cl mo po : Addr × Obj} (N : News h₀ L h (d1 :: d2 :: d3 :: cv :: rl :: pl :: cl :: mo :: po :: tl)) : News h₀ L h [d1, cv, rl, cl, mo, po] :=
  news_pick N (by intro q hq; simp only [List.mem_cons, List.not_mem_nil, or_false] at hq ⊢; rcases hq with rfl | rfl | rfl | rfl | rfl | rfl <;> simp)

theorem phF {w : World} {mean : ExcName → Option Value} {mg mb : Str → Option Value} {dp un : Nat} {gd : Option (List Code)} {a : Addr} {ccd : Value} {outer : List Env} {A₀ : Around} {base h₀ : Heap} {L : Addr} {s : Shared} {Q : Flow → Shared → Prop}
    {CL RL CV PL : Addr} {x y e r0 r1 P N B Gx Gy c0 c1 c2 c3 : Int} {tx ty te tr0 tr1 tc0 tc1 tc2 tc3 tN tP u1 u2 u3 u4 u5 u6 : Tok} {cc cr cv cp : Nat} {po mo : Obj} {vs : List Value} {pts : List (Int × Int)} {tl : List (Addr × Obj)} (u : Str → Option Value)
    (Bl : Below A₀ base outer h₀) (X : (hd.heap_39 w.params).In h₀) (T : Top hd.view_39 (looseW hd.view_39 []) mean mg mb h₀) (hd : dp + 20 < recursionLimit) (hu : un + 200 < cLine)
    (F : Fr h₀ L s.heap (kstB u [(Str.ofString "cells", .ref CL), (Str.ofString "points", .ref PL), (Str.ofString "roots", .ref RL), (Str.ofString "x", .int x tx), (Str.ofString "y", .int y ty), (Str.ofString "e", .int e te), (Str.ofString "curve", .ref CV)]))
    (N' : News h₀ L s.heap ((CV, tup6 P N 0 B Gx Gy u1 u2 u3 u4 u5 u6 cv) :: (RL, listOf #[.int r0 tr0, .int r1 tr1] cr) :: (PL, listOf vs.toArray cp) :: (CL, listOf #[.int c0 tc0, .int c1 tc1, .int c2 tc2, .int c3 tc3] cc) :: (L + 1 + 1, mo) :: (L + 1, po) :: tl))
    (hmo : mo.data = .cell (some (.int N tN))) (hpo : po.data = .cell (some (.int P tP))) (hD : DatAll tl vs (pts.map ptDat)) (hsz : vs.toArray.size ≤ sizeLine)
    (hP : WP P) (hN : 1 < N) (hN' : N < 64) (hx : 0 ≤ x ∧ x < P) (hy : 0 ≤ y ∧ y < P) (he : 0 ≤ e ∧ e < P) (hr0 : 0 ≤ r0 ∧ r0 < N) (hr1 : 0 ≤ r1 ∧ r1 < N)
    (hpts : ∀ p ∈ pts, (0 ≤ p.1 ∧ p.1 < P) ∧ 0 ≤ p.2 ∧ p.2 < P)
    (h3 : ∀ p ∈ pts.take 3, pmul P N p.1 p.2 r1 = ((e * e * p.1).fmod P, p.2) ∧ pmul P N p.1 p.2 (1 + r0) = ((e * e * p.1).fmod P, (-p.2).fmod P))
    (hfin : ∀ k m X1 Y1 X2 Y2 X3 Y3 dx dy : Int, -5 ≤ k → k ≤ 5 → -5 ≤ m → m ≤ 5 → 3 * (k * k - k * m + m * m) ≤ N → (k + m * r0 - c3).fmod N = 0 → pmul P N x y c3 = (dx, dy) → pmul P N x y k = (X1, Y1) → pmul P N ((e * x).fmod P) y m = (X2, Y2) → padd P X1 Y1 X2 Y2 = (X3, Y3) → X3 = dx ∧ Y3 = dy)
    (hQ : ∀ h' tk' m', Fr h₀ L h' m' → Q (.ret (.bool true)) { s with heap := h', toks := tk' }) :
    wpAny (model PySem.Challenge.rw_bb0057_01.row.prog w) (lawA dp un gd L a ccd outer) (execs (lawBody.drop 13) (lawEnv L a ccd)) Q (fun _ _ => False) s := by
  have hP0 := hP.pos
  have hP1 := hP.lt
  dsimp only [lawA, lawEnv, lawBody, lawScope, lawDef, PySem.Challenge.pw_bb0057_01, List.drop, tup2, tup6, kstB] at *
  revert X
  k_fill
  intro X
  k_with "exec For Tuple Subscript cons nil" => (k_here; (rename Fr _ _ _ _ => lF'); (with_unfolding_all refine' For_turns lF' ?_; k_whole))
  k_with "pyIter ref" => ((with_reducible show wpAny _ _ (pyIter (Value.ref _)) (fun it s₂ => TurnsAt _ _ _ _ _ _ _ _ _ it s₂) _ _); (rename Fr _ _ _ _ => lF'); (rename News _ _ _ _ => lN'); (k_dflt (refine' iter_search _ [Str.ofString "u", Str.ofString "v"] (by rfl) ?kl lF' lN' ?kt ?kd)); (case kl => k_mem); (case' kt => (intro i v u' h' tk' own hv F' N'; (obtain ⟨pt, T, t1, t2, c', e', hm', hpt3, hpt'⟩ := dat_take hD hv); subst e'; (obtain ⟨hb1, hb2⟩ := hpts pt hpt'); (obtain ⟨hal1, hal2⟩ := h3 pt hpt3); (simp only [List.cons_append] at N'); (try dsimp only); (try k_fold))); (case' kd => (intro u' h' tk' F' N'; (try dsimp only); (try k_fold))))
  (try k_fold)
  k_steps
  · (k_unfold; (try dsimp only); (rename Fr _ _ _ _ => lF); (rename News _ _ _ _ => lN); (rename (pmul P N x y _ = (_, _)) => hdue); (refine kst_canon [(Str.ofString "cells", .ref CL), (Str.ofString "roots", .ref RL), (Str.ofString "x", .int x tx), (Str.ofString "y", .int y ty), (Str.ofString "e", .int e te), (Str.ofString "curve", .ref CV), (Str.ofString "due", .ref _)] lF (by kst_all) fun u2 F2 => phH u2 Bl X T hd hu F2 (news_fh lN) hmo hpo hP hN hN' hx hy he hr0 (fun k m X1 Y1 X2 Y2 X3 Y3 q1 q2 q3 q4 q5 q6 q7 q8 q9 => hfin k m X1 Y1 X2 Y2 X3 Y3 _ _ q1 q2 q3 q4 q5 q6 hdue q7 q8 q9) hQ))
  all_goals first
    | (exfalso; (rename ((_ == _ && _ == _) = false) => hne); (rename (pmul P N _ _ (1 + _) = (_, _)) => g); (obtain ⟨e1, e2⟩ := Prod.mk.inj (g.symm.trans hal2)); (rw [e1, e2] at hne); exact sr_rest hne)
    | (exfalso; (rename ((_ == _ && _ == _) = false) => hne); (rename (pmul P N _ _ _ = (_, _)) => g); (obtain ⟨e1, e2⟩ := Prod.mk.inj (g.symm.trans hal1)); (rw [e1, e2] at hne); exact sr_rest hne)
    | ((refine sr_end (by assumption) (by assumption) ?hn ?hm); (case hn => exact fun p hp => .tail _ (.tail _ (.tail _ (.tail _ (.tail _ (.tail _ hp)))))); (case hm => (intro z hz; (simp only [List.contains_cons, List.contains_nil, Bool.or_false, Bool.or_eq_false_iff, beq_eq_false_iff_ne, ne_eq] at hz); simp [hz])))
end PartLF2
end Mine
-- part LE
namespace Mine
section PartLE
set_option maxHeartbeats 4000000
theorem freshLE : True := by k_with_none; w_top off; trivial
local macro_rules | `(tactic| k_steps) => `(tactic| repeat' ((fail_if_success (with_reducible show wpAny _ _ (execs (Stmt.For _ (PySem.Expr.Subscript _ _ _) _ _ _ :: _) _) _ _ _)); first | (k_unfold; (try dsimp only)) | (k_end; wrow_close) | ((fail_if_success (with_reducible show wpAny _ _ (subscriptTail _ _ _ (Value.ref _)) _ _ _)); dsimp only; walk1) | walk1 | (leave1; walk_say "STEP leave1"; try dsimp only) | fail "no step"))
local macro_rules | `(tactic| k_mem) => `(tactic| first | assumption | exact List.mem_cons_self | (refine List.mem_cons_of_mem _ ?_; k_mem) | (refine List.mem_append.mpr (Or.inr ?_); k_mem) | (refine List.mem_append.mpr (Or.inl ?_); k_mem))
local macro_rules | `(tactic| walk_at "call ref") => `(tactic| (k_here; (with_reducible show wpAny _ _ (PySem.call (Value.ref 63) _) _ _ _); k_dflt (refine' pmulJ ?k1 ?k2 ?k3 ?k4 ?k5 ?kK ?hp ?hc ?b1 ?n1 ?n2 ?b3 ?b4 ?kd ?ku ?_; (case k1 => k_asm); (case k2 => k_asm); (case k3 => k_asm); (case k4 => k_asm); (case k5 => k_asm); (case kK => first | exact rfl | assumption); (case hp => k_mem); (case hc => k_mem); (case b1 => assumption); (case n1 => assumption); (case n2 => assumption); (case b3 => first | assumption | exact ⟨fm_lo (by assumption), fm_hi (by assumption)⟩); (case b4 => first | assumption | exact ⟨fm_lo (by assumption), fm_hi (by assumption)⟩); (case kd => ktr_room); (case ku => ktr_units); k_whole; intro X' Y' hr' r1' r2' r3' r4' D' t1' t2' c' h' tk' F' N' hl'; (try dsimp only); (try k_fold))))

theorem phE {w : World} {mean : ExcName → Option Value} {mg mb : Str → Option Value} {dp un : Nat} {gd : Option (List Code)} {a : Addr} {ccd : Value} {outer : List Env} {A₀ : Around} {base h₀ : Heap} {L : Addr} {s : Shared} {Q : Flow → Shared → Prop}
    {CL RL CV PL : Addr} {x y e r0 r1 P N B Gx Gy c0 c1 c2 c3 : Int} {tx ty te tr0 tr1 tc0 tc1 tc2 tc3 tN tP u1 u2 u3 u4 u5 u6 : Tok} {cc cr cv cp : Nat} {po mo : Obj} {vs : List Value} {pts : List (Int × Int)} {tl : List (Addr × Obj)} (u : Str → Option Value)
    (Bl : Below A₀ base outer h₀) (X : (hd.heap_39 w.params).In h₀) (T : Top hd.view_39 (looseW hd.view_39 []) mean mg mb h₀) (hd : dp + 20 < recursionLimit) (hu : un + 200 < cLine)
    (F : Fr h₀ L s.heap (kstB u [(Str.ofString "cells", .ref CL), (Str.ofString "points", .ref PL), (Str.ofString "roots", .ref RL), (Str.ofString "x", .int x tx), (Str.ofString "y", .int y ty), (Str.ofString "e", .int e te), (Str.ofString "curve", .ref CV)]))
    (N' : News h₀ L s.heap ((CV, tup6 P N 0 B Gx Gy u1 u2 u3 u4 u5 u6 cv) :: (RL, listOf #[.int r0 tr0, .int r1 tr1] cr) :: (PL, listOf vs.toArray cp) :: (CL, listOf #[.int c0 tc0, .int c1 tc1, .int c2 tc2, .int c3 tc3] cc) :: (L + 1 + 1, mo) :: (L + 1, po) :: tl))
    (hmo : mo.data = .cell (some (.int N tN))) (hpo : po.data = .cell (some (.int P tP))) (hD : DatAll tl vs (pts.map ptDat)) (hsz : vs.toArray.size ≤ sizeLine)
    (hP : WP P) (hN : 1 < N) (hN' : N < 64) (hx : 0 ≤ x ∧ x < P) (hy : 0 ≤ y ∧ y < P) (he : 0 ≤ e ∧ e < P) (hr0 : 0 ≤ r0 ∧ r0 < N) (hr1 : 0 ≤ r1 ∧ r1 < N)
    (hpts : ∀ p ∈ pts, (0 ≤ p.1 ∧ p.1 < P) ∧ 0 ≤ p.2 ∧ p.2 < P) (hall : ∀ p ∈ pts, pmul P N p.1 p.2 r0 = ((e * p.1).fmod P, p.2))
    (h3 : ∀ p ∈ pts.take 3, pmul P N p.1 p.2 r1 = ((e * e * p.1).fmod P, p.2) ∧ pmul P N p.1 p.2 (1 + r0) = ((e * e * p.1).fmod P, (-p.2).fmod P))
    (hfin : ∀ k m X1 Y1 X2 Y2 X3 Y3 dx dy : Int, -5 ≤ k → k ≤ 5 → -5 ≤ m → m ≤ 5 → 3 * (k * k - k * m + m * m) ≤ N → (k + m * r0 - c3).fmod N = 0 → pmul P N x y c3 = (dx, dy) → pmul P N x y k = (X1, Y1) → pmul P N ((e * x).fmod P) y m = (X2, Y2) → padd P X1 Y1 X2 Y2 = (X3, Y3) → X3 = dx ∧ Y3 = dy)
    (hQ : ∀ h' tk' m', Fr h₀ L h' m' → Q (.ret (.bool true)) { s with heap := h', toks := tk' }) :
    wpAny (model PySem.Challenge.rw_bb0057_01.row.prog w) (lawA dp un gd L a ccd outer) (execs (lawBody.drop 12) (lawEnv L a ccd)) Q (fun _ _ => False) s := by
  have hP0 := hP.pos
  have hP1 := hP.lt
  dsimp only [lawA, lawEnv, lawBody, lawScope, lawDef, PySem.Challenge.pw_bb0057_01, List.drop, tup2, tup6, kstB] at *
  revert X
  k_fill
  intro X
  k_with "exec For Tuple Name cons nil" => (k_here; (rename Fr _ _ _ _ => lF'); (with_unfolding_all refine' For_turns lF' ?_; k_whole))
  k_with "pyIter ref" => ((with_reducible show wpAny _ _ (pyIter (Value.ref _)) (fun it s₂ => TurnsAt _ _ _ _ _ _ _ _ _ it s₂) _ _); (rename Fr _ _ _ _ => lF'); (rename News _ _ _ _ => lN'); (k_dflt (refine' iter_search _ [Str.ofString "u", Str.ofString "v"] (by rfl) ?kl lF' lN' ?kt ?kd)); (case kl => k_mem); (case' kt => (intro i v u' h' tk' own hv F' N'; (obtain ⟨pt, T, t1, t2, c', e', hm', hpt'⟩ := dat_at hD hv); subst e'; (obtain ⟨hb1, hb2⟩ := hpts pt (List.mem_of_getElem? hpt')); (have hal1 := hall pt (List.mem_of_getElem? hpt')); (simp only [List.cons_append] at N'); (try dsimp only); (try k_fold))); (case' kd => (intro u' h' tk' F' N'; (try dsimp only); (try k_fold))))
  (try k_fold)
  k_steps
  · (try (k_unfold; (try dsimp only))); (rename Fr _ _ _ _ => lF); (rename News _ _ _ _ => lN); (refine kst_canon [(Str.ofString "cells", .ref CL), (Str.ofString "points", .ref PL), (Str.ofString "roots", .ref RL), (Str.ofString "x", .int x tx), (Str.ofString "y", .int y ty), (Str.ofString "e", .int e te), (Str.ofString "curve", .ref CV)] lF (by kst_all) fun u2 F2 => phF u2 Bl X T hd hu F2 lN hmo hpo hD hsz hP hN hN' hx hy he hr0 hr1 hpts h3 hfin hQ)
  all_goals first
    | (exfalso; (rename ((_ == _ && _ == _) = false) => hne); (rename (pmul P N _ _ _ = (_, _)) => g); (obtain ⟨e1, e2⟩ := Prod.mk.inj (g.symm.trans hal1)); (rw [e1, e2] at hne); exact sr_rest hne)
    | ((refine sr_end (by assumption) (by assumption) ?hn ?hm); (case hn => exact fun p hp => .tail _ (.tail _ (.tail _ hp))); (case hm => (intro z hz; (simp only [List.contains_cons, List.contains_nil, Bool.or_false, Bool.or_eq_false_iff, beq_eq_false_iff_ne, ne_eq] at hz); simp [hz])))
end PartLE
end Mine
-- part LD
namespace Mine
section PartLD
set_option maxHeartbeats 4000000
theorem freshLD : True := by k_with_none; w_top off; trivial
local macro_rules | `(tactic| walk_at "pad 0") => `(tactic| fail "pad")
local macro_rules | `(tactic| k_steps) => `(tactic| repeat' ((fail_if_success (with_reducible show wpAny _ _ (execs (Stmt.For (PySem.Expr.Tuple _ _ _) (PySem.Expr.Name _ _) _ _ _ :: _) _) _ _ _)); first | (k_unfold; (try dsimp only)) | (k_end; wrow_close) | ((fail_if_success (with_reducible show wpAny _ _ (subscriptTail _ _ _ (Value.ref _)) _ _ _)); dsimp only; walk1) | walk1 | (leave1; walk_say "STEP leave1"; try dsimp only) | fail "no step"))
local macro_rules | `(tactic| k_mem) => `(tactic| first | assumption | exact List.mem_cons_self | (refine List.mem_cons_of_mem _ ?_; k_mem) | (refine List.mem_append.mpr (Or.inr ?_); k_mem) | (refine List.mem_append.mpr (Or.inl ?_); k_mem))
local macro_rules | `(tactic| walk_at "call ref") => `(tactic| (k_here; (with_reducible show wpAny _ _ (PySem.call (Value.ref 63) _) _ _ _); k_dflt (refine' pmulJ ?k1 ?k2 ?k3 ?k4 ?k5 ?kK ?hp ?hc ?b1 ?n1 ?n2 ?b3 ?b4 ?kd ?ku ?_; (case k1 => k_asm); (case k2 => k_asm); (case k3 => k_asm); (case k4 => k_asm); (case k5 => k_asm); (case kK => first | exact rfl | assumption); (case hp => k_mem); (case hc => k_mem); (case b1 => assumption); (case n1 => assumption); (case n2 => assumption); (case b3 => first | assumption | exact ⟨fm_lo (by assumption), fm_hi (by assumption)⟩); (case b4 => first | assumption | exact ⟨fm_lo (by assumption), fm_hi (by assumption)⟩); (case kd => ktr_room); (case ku => ktr_units); k_whole; intro X' Y' hr' r1' r2' r3' r4' D' t1' t2' c' h' tk' F' N' hl'; (try dsimp only); (try k_fold))))

def Spec (P N e x y c3 : Int) (pts : List (Int × Int)) (l0 l1 : Int) : Prop :=
  (∀ p ∈ pts, pmul P N p.1 p.2 l0 = ((e * p.1).fmod P, p.2)) ∧
  (∀ p ∈ pts.take 3, pmul P N p.1 p.2 l1 = ((e * e * p.1).fmod P, p.2) ∧ pmul P N p.1 p.2 (1 + l0) = ((e * e * p.1).fmod P, (-p.2).fmod P)) ∧
  (∀ k m X1 Y1 X2 Y2 X3 Y3 dx dy : Int, -5 ≤ k → k ≤ 5 → -5 ≤ m → m ≤ 5 → 3 * (k * k - k * m + m * m) ≤ N → (k + m * l0 - c3).fmod N = 0 → pmul P N x y c3 = (dx, dy) → pmul P N x y k = (X1, Y1) → pmul P N ((e * x).fmod P) y m = (X2, Y2) → padd P X1 Y1 X2 Y2 = (X3, Y3) → X3 = dx ∧ Y3 = dy)
theorem news_dd {h₀ h : Heap} {L : Addr} {tl : List (Addr × Obj)} {a b c d cv rl pl cl mo po : Addr × Obj} (N : News h₀ L h (a :: b :: c :: d :: cv :: rl :: pl :: cl :: mo :: po :: tl)) : News h₀ L h (cv :: a :: pl :: cl :: mo :: po :: tl) :=
  news_pick N (by
    intro q hq
    simp only [List.mem_cons] at hq ⊢
    rcases hq with rfl | rfl | rfl | rfl | rfl | rfl | hq
    all_goals first
      | (simp; done)
      | simp [hq])
theorem news_d3' {h₀ h : Heap} {L : Addr} {l : List (Addr × Obj)} {b c d : Addr × Obj} (N : News h₀ L h (b :: c :: d :: l)) : News h₀ L h l := fun p hp => N p (.tail _ (.tail _ (.tail _ hp)))
theorem ne_of_eq2 {X Y A B : Int} (h : (X == A && Y == B) = false) : (X, Y) ≠ (A, B) := by
  intro e
  obtain ⟨rfl, rfl⟩ := Prod.mk.inj e
  simp at h
theorem eq_of_eq2 {X Y A B : Int} (h : (X == A && Y == B) = true) : (X, Y) = (A, B) := by
  simp only [Bool.and_eq_true, beq_iff_eq] at h
  rw [h.1, h.2]
theorem phD {w : World} {mean : ExcName → Option Value} {mg mb : Str → Option Value} {dp un : Nat} {gd : Option (List Code)} {a : Addr} {ccd : Value} {outer : List Env} {A₀ : Around} {base h₀ : Heap} {L : Addr} {s : Shared} {Q : Flow → Shared → Prop}
    {CL RL CV PL : Addr} {x y e r0 r1 P N B Gx Gy c0 c1 c2 c3 : Int} {tx ty te tr0 tr1 tc0 tc1 tc2 tc3 tN tP u1 u2 u3 u4 u5 u6 : Tok} {cc cr cv cp : Nat} {po mo : Obj} {vs : List Value} {pts : List (Int × Int)} {tl : List (Addr × Obj)} (u : Str → Option Value)
    (Bl : Below A₀ base outer h₀) (X : (hd.heap_39 w.params).In h₀) (T : Top hd.view_39 (looseW hd.view_39 []) mean mg mb h₀) (hd : dp + 20 < recursionLimit) (hu : un + 200 < cLine)
    (F : Fr h₀ L s.heap (kstB u [(Str.ofString "cells", .ref CL), (Str.ofString "points", .ref PL), (Str.ofString "roots", .ref RL), (Str.ofString "x", .int x tx), (Str.ofString "y", .int y ty), (Str.ofString "e", .int e te), (Str.ofString "curve", .ref CV)]))
    (N' : News h₀ L s.heap ((CV, tup6 P N 0 B Gx Gy u1 u2 u3 u4 u5 u6 cv) :: (RL, listOf #[.int r0 tr0, .int r1 tr1] cr) :: (PL, listOf vs.toArray cp) :: (CL, listOf #[.int c0 tc0, .int c1 tc1, .int c2 tc2, .int c3 tc3] cc) :: (L + 1 + 1, mo) :: (L + 1, po) :: tl))
    (hmo : mo.data = .cell (some (.int N tN))) (hpo : po.data = .cell (some (.int P tP))) (hD : DatAll tl vs (pts.map ptDat)) (hsz : vs.toArray.size ≤ sizeLine)
    (hP : WP P) (hN : 1 < N) (hN' : N < 64) (hx : 0 ≤ x ∧ x < P) (hy : 0 ≤ y ∧ y < P) (he : 0 ≤ e ∧ e < P) (hr0 : 0 ≤ r0 ∧ r0 < N) (hr1 : 0 ≤ r1 ∧ r1 < N)
    (hpts : ∀ p ∈ pts, (0 ≤ p.1 ∧ p.1 < P) ∧ 0 ≤ p.2 ∧ p.2 < P)
    (hD1 : pmul P N x y r0 = ((e * x).fmod P, y) → Spec P N e x y c3 pts r0 r1) (hD2 : pmul P N x y r0 ≠ ((e * x).fmod P, y) → Spec P N e x y c3 pts r1 r0)
    (hQ : ∀ h' tk' m', Fr h₀ L h' m' → Q (.ret (.bool true)) { s with heap := h', toks := tk' }) :
    wpAny (model PySem.Challenge.rw_bb0057_01.row.prog w) (lawA dp un gd L a ccd outer) (execs (lawBody.drop 11) (lawEnv L a ccd)) Q (fun _ _ => False) s := by
  have hP0 := hP.pos
  have hP1 := hP.lt
  dsimp only [lawA, lawEnv, lawBody, lawScope, lawDef, PySem.Challenge.pw_bb0057_01, List.drop, tup2, tup6, kstB] at *
  revert X
  k_fill
  intro X
  (try k_fold)
  k_steps
  · (try dsimp only); (rename Fr _ _ _ _ => lF); (rename News _ _ _ _ => lN); (rename (pmul P N x y _ = (_, _)) => g); (rename ((_ == _ && _ == _) = true) => hc); (have hs := hD1 (g.trans (eq_of_eq2 hc))); (refine kst_canon [(Str.ofString "cells", .ref CL), (Str.ofString "points", .ref PL), (Str.ofString "roots", .ref _), (Str.ofString "x", .int x tx), (Str.ofString "y", .int y ty), (Str.ofString "e", .int e te), (Str.ofString "curve", .ref CV)] lF (by kst_all) fun u2 F2 => phE u2 Bl X T hd hu F2 (news_d3' lN) hmo hpo hD hsz hP hN hN' hx hy he hr0 hr1 hpts hs.1 hs.2.1 hs.2.2 hQ)
  · (try dsimp only); (rename Fr _ _ _ _ => lF); (rename News _ _ _ _ => lN); (rename (pmul P N x y _ = (_, _)) => g); (rename ((_ == _ && _ == _) = false) => hc); (have hs := hD2 (fun e => ne_of_eq2 hc (g.symm.trans e))); (refine kst_canon [(Str.ofString "cells", .ref CL), (Str.ofString "points", .ref PL), (Str.ofString "roots", .ref _), (Str.ofString "x", .int x tx), (Str.ofString "y", .int y ty), (Str.ofString "e", .int e te), (Str.ofString "curve", .ref CV)] lF (by kst_all) fun u2 F2 => phE (r0 := r1) (r1 := r0) u2 Bl X T hd hu F2 (news_dd lN) hmo hpo hD hsz hP hN hN' hx hy he hr1 hr0 hpts hs.1 hs.2.1 hs.2.2 hQ)
end PartLD
end Mine
-- part LC
namespace Mine
section PartLC
set_option maxHeartbeats 4000000
theorem freshLC : True := by k_with_none; w_top off; trivial
local macro_rules | `(tactic| k_steps) => `(tactic| repeat' ((fail_if_success (with_reducible show wpAny _ _ (execs (Stmt.If _ _ _ _ :: _) _) _ _ _)); first | (k_unfold; (try dsimp only)) | (k_end; wrow_close) | ((fail_if_success (with_reducible show wpAny _ _ (subscriptTail _ _ _ (Value.ref _)) _ _ _)); dsimp only; walk1) | walk1 | (leave1; walk_say "STEP leave1"; try dsimp only) | fail "no step"))

def Gf (M : Int) (l : List Int) (k : Int) : List Int := if (k * k + k + 1).fmod M = 0 then l ++ [k] else l
theorem gf_pos {M k : Int} {l : List Int} (h : (k * k + k + 1).fmod M = 0) : Gf M l k = l ++ [k] := if_pos h
theorem gf_neg {M k : Int} {l : List Int} (h : (k * k + k + 1).fmod M ≠ 0) : Gf M l k = l := if_neg h
theorem gf_grows (M : Int) : KPfGrows (Gf M) := by
  intro l k
  unfold Gf
  split
  · simp
  · omega
theorem ints2 {ys : List Value} {a b : Int} (h : IntsAre ys [a, b]) : ∃ t1 t2, ys = [.int a t1, .int b t2] := by
  cases h with
  | cons _ t1 h =>
    cases h with
    | cons _ t2 h =>
      cases h
      exact ⟨_, _, rfl⟩
theorem dat_len {tl : List (Addr × Obj)} {vs : List Value} {pts : List (Int × Int)} (h : DatAll tl vs (pts.map ptDat)) : vs.length = pts.length := by rw [h.length, List.length_map]
local macro_rules | `(tactic| k_mem) => `(tactic| first | assumption | exact List.mem_cons_self | (refine List.mem_cons_of_mem _ ?_; k_mem) | (refine List.mem_append.mpr (Or.inr ?_); k_mem) | (refine List.mem_append.mpr (Or.inl ?_); k_mem))
local macro_rules | `(tactic| walk_at "call builtin:len") => `(tactic| (k_here; (with_reducible show wpAny _ _ (PySem.call (Value.builtin "len") [Value.ref _]) _ _ _); k_dflt (refine' kst_len ?k1 ?k2 ?k3 ?k4 ?_; (case k1 => k_asm); (case k2 => k_mem); (case k3 => exact dat_len (by assumption)); (case k4 => omega)); k_whole))
local macro_rules | `(tactic| walk_at "CompSrcT") => `(tactic| k_extra "mycomp")
local macro_rules | `(tactic| walk_at "CompEnd") => `(tactic| ((rename News _ _ _ _ => nX); (rename Fr _ _ _ _ => fX); (rename LCg.Off3 _ _ _ _ => oX); (k_dflt (first | exact ⟨_, _, _, rfl, fX, nX, oX, True.intro, kci_el (gf_pos (by assumption)) rfl rfl⟩ | exact ⟨_, _, _, rfl, fX, nX, oX, True.intro, kci_no (gf_neg (by assumption)) rfl⟩))))
theorem open_pt {tl : List (Addr × Obj)} {v : Value} {pts : List (Int × Int)} {i : Nat} {d : Dat} (hk : (pts.map ptDat)[i]? = some d) (hD : DatIn tl v d) :
    ∃ (p : Int × Int) (T : Addr) (t1 t2 : Tok) (c : Nat), v = .ref T ∧ (T, tup2 p.1 p.2 t1 t2 c) ∈ tl ∧ p ∈ pts := by
  rw [List.getElem?_map] at hk
  cases hp : pts[i]? with
  | none => rw [hp] at hk; cases hk
  | some p =>
    rw [hp] at hk
    cases hk
    obtain ⟨T, t1, t2, c, e, hm⟩ := datIn_pt hD
    exact ⟨p, T, t1, t2, c, e, hm, List.mem_of_getElem? hp⟩
theorem news_c {h₀ h : Heap} {L : Addr} {tl : List (Addr × Obj)} {cv rl x pl cl mo po : Addr × Obj} (N : News h₀ L h (cv :: rl :: x :: pl :: cl :: mo :: po :: tl)) : News h₀ L h (cv :: rl :: pl :: cl :: mo :: po :: tl) :=
  news_pick N (by
    intro q hq
    simp only [List.mem_cons] at hq ⊢
    rcases hq with rfl | rfl | rfl | rfl | rfl | rfl | hq
    all_goals first
      | (simp; done)
      | simp [hq])
theorem phC {w : World} {mean : ExcName → Option Value} {mg mb : Str → Option Value} {dp un : Nat} {gd : Option (List Code)} {a : Addr} {ccd : Value} {outer : List Env} {A₀ : Around} {base h₀ : Heap} {L : Addr} {s : Shared} {Q : Flow → Shared → Prop}
    {CL PL : Addr} {e e2 r0 r1 P b c0 c1 c2 c3 : Int} {tb tc0 tc1 tc2 tc3 tP : Tok} {cc cp : Nat} {po mo : Obj} {vs : List Value} {pts : List (Int × Int)} {tl : List (Addr × Obj)} (u : Str → Option Value)
    (Bl : Below A₀ base outer h₀) (X : (hd.heap_39 w.params).In h₀) (T : Top hd.view_39 (looseW hd.view_39 []) mean mg mb h₀) (hd : dp + 20 < recursionLimit) (hu : un + 200 < cLine)
    (F : Fr h₀ L s.heap (kstB u [(Str.ofString "cells", .ref CL), (Str.ofString "points", .ref PL), (Str.ofString "b", .int b tb)]))
    (N' : News h₀ L s.heap ((PL, listOf vs.toArray cp) :: (CL, listOf #[.int c0 tc0, .int c1 tc1, .int c2 tc2, .int c3 tc3] cc) :: (L + 1 + 1, mo) :: (L + 1, po) :: tl))
    (hlt : @LT.lt Nat _ (L + 1 + 1) CL) (hlt2 : @LT.lt Nat _ (L + 1 + 1) PL) (hoff : OwnOff tl [L + 1 + 1])
    (hmo : mo.data = .cell none) (hpo : po.data = .cell (some (.int P tP))) (hD : DatAll tl vs (pts.map ptDat)) (hsz : vs.toArray.size ≤ sizeLine)
    (hP : WP P) (hN : 3 < pts.length + 1) (hN' : pts.length + 1 < 64) (hb : 0 ≤ b ∧ b < P)
    (hE : (rangeKs 2 (P - 2).toNat).foldl (Gf P) [] = [e, e2]) (hR : (rangeKs 0 ((pts.length : Int) + 1 - 0).toNat).foldl (Gf ((pts.length : Int) + 1)) [] = [r0, r1])
    (hpts : ∀ p ∈ pts, (0 ≤ p.1 ∧ p.1 < P) ∧ 0 ≤ p.2 ∧ p.2 < P)
    (he : 0 ≤ e ∧ e < P) (hr0 : 0 ≤ r0 ∧ r0 < (pts.length : Int) + 1) (hr1 : 0 ≤ r1 ∧ r1 < (pts.length : Int) + 1)
    (hS : ∀ p ∈ pts, (pmul P ((pts.length : Int) + 1) p.1 p.2 r0 = ((e * p.1).fmod P, p.2) → Spec P ((pts.length : Int) + 1) e p.1 p.2 c3 pts r0 r1) ∧ (pmul P ((pts.length : Int) + 1) p.1 p.2 r0 ≠ ((e * p.1).fmod P, p.2) → Spec P ((pts.length : Int) + 1) e p.1 p.2 c3 pts r1 r0))
    (hQ : ∀ h' tk' m', Fr h₀ L h' m' → Q (.ret (.bool true)) { s with heap := h', toks := tk' }) :
    wpAny (model PySem.Challenge.rw_bb0057_01.row.prog w) (lawA dp un gd L a ccd outer) (execs (lawBody.drop 6) (lawEnv L a ccd)) Q (fun _ _ => False) s := by
  have hP0 := hP.pos
  have hP1 := hP.lt
  dsimp only [lawA, lawEnv, lawBody, lawScope, lawDef, PySem.Challenge.pw_bb0057_01, List.drop, tup2, tup6, kstB] at *
  revert X
  k_fill
  intro X

  k_with "mycomp" => (k_here; (rename IsRange _ _ 2 P 1 _ _ _ => rgC); k_dflt (refine LCt.CompSrcT.range (by rfl) (by k_asm) (by k_asm) rgC (by first | decide | exact small_one (by omega) (by omega) (by omega) (by omega)) (by first | exact rangeSize_nat _ _ | rfl) (by rw [PySem.sizeLine_eq]; omega) ?_); intro g'; k_dflt (refine' kci_range (Gf P) (fun k' t' I' oI' C' oC' D' m' ys' l' h' tk' E' hlo' hhi' hI' hC' hx' F' N' off' ne' hMark' => ?kt) ?kf (gf_grows _)); (case' kf => (unfold KPfDone; intro ys hI hL; rw [hE] at hI; (obtain ⟨q1, q2, hys⟩ := ints2 hI); subst hys)); (all_goals (try k_fold)))
  k_with "mycomp" => (k_here; (rename IsRange _ _ 0 _ 1 _ _ _ => rgC); k_dflt (refine LCt.CompSrcT.range (by rfl) (by k_asm) (by k_asm) rgC (by first | decide | exact small_one (by omega) (by omega) (by omega) (by omega)) (by first | exact rangeSize_nat _ _ | rfl) (by rw [PySem.sizeLine_eq]; omega) ?_); intro g'; k_dflt (refine' kci_range (Gf ((pts.length : Int) + 1)) (fun k' t' I' oI' C' oC' D' m' ys' l' h' tk' E' hlo' hhi' hI' hC' hx' F' N' off' ne' hMark' => ?kt2) ?kf2 (gf_grows _)); (case' kf2 => (unfold KPfDone; intro ys hI hL; rw [hR] at hI; (obtain ⟨q1, q2, hys⟩ := ints2 hI); subst hys)); (all_goals (try k_fold)))
  k_with "assign Tuple" => ((rename DatIn _ _ _ => hDD); (rename (List.map ptDat pts)[_]? = some _ => hkk); (obtain ⟨pt, TT, t1, t2, cT, eT, hmT, hpT⟩ := open_pt hkk hDD); subst eT)
  (try k_fold)
  k_steps
  · (try dsimp only); (rename Fr _ _ _ _ => lF); (rename News _ _ _ _ => lN); (rename (Obj.data _ = Data.cell (some (Value.int ((pts.length : Int) + 1) _))) => hmn); (refine kst_canon [(Str.ofString "cells", .ref CL), (Str.ofString "points", .ref PL), (Str.ofString "roots", .ref _), (Str.ofString "x", .int pt.1 _), (Str.ofString "y", .int pt.2 _), (Str.ofString "e", .int e _), (Str.ofString "curve", .ref _)] lF (by kst_all) fun u2 F2 => phD u2 Bl X T hd hu F2 (news_c lN) hmn hpo hD hsz hP (by omega) (by omega) (hpts pt hpT).1 (hpts pt hpT).2 he hr0 hr1 hpts (hS pt hpT).1 (hS pt hpT).2 hQ)
end PartLC
end Mine
-- part LPow
namespace Mine
section PartLPow
set_option maxHeartbeats 1000000
open PyProof PySem.Calls
theorem freshLPow : True := by k_with_none; w_top off; trivial
theorem pw_kind : builtinKind "pow" = none := by decide +kernel
theorem pw_plain : plainId "pow" = true := by decide +kernel
theorem pw_entry : entryFor table "pow" = some Builtin.«pow» := entryFor_of_fast (by kernel_rfl)
theorem pw_args (a b c : Value) : argsOk "pow" ⟨[a, b, c], []⟩ := by unfold argsOk; kernel_rfl
theorem pw_gives (a : Int) (t : Tok) (b : Int) (u : Tok) (c : Int) (v : Tok) (hc0 : ¬ (c == 0) = true) (hc1 : ¬ (c.natAbs == 1) = true) (hb : ¬ b < 0) (hm : ¬ c < 0) :
    Gives (Builtin.«int.__pow__» ⟨[.int a t, .int b u, .int c v], []⟩) (.int (Builtin.powMod (a % (c.natAbs : Int)).toNat b.natAbs c.natAbs : Nat)) :=
  .of_wp fun M A E s Q h => by
    obtain ⟨hp, g, d, tk, os⟩ := s
    wp_walk
    refine ⟨_, rfl, ?_⟩
    have e : (decide (c < 0) && (↑(Builtin.powMod (a % ↑c.natAbs).toNat b.natAbs c.natAbs) : Int) != 0) = false := by
      rw [decide_eq_false hm, Bool.false_and]
    rw [e]
    exact h
theorem call_pow3 {prog : Program} {w : World} {A : Around} {E : Value → Shared → Prop} {s : Shared} {a b c : Int} {t u v : Tok} {Q : Value → Shared → Prop} (hb : 0 ≤ b) (hc : 1 < c)
    (h : Q (.int (Builtin.powMod (a % c).toNat b.toNat c.toNat : Nat) s.toks) { s with toks := s.toks + 1 }) : wpAny (model prog w) A (call (.builtin "pow") [.int a t, .int b u, .int c v]) Q E s := by
  refine call_function_entry pw_kind pw_plain pw_entry (pw_args _ _ _) ?_
  have hc0 : ¬ (c == 0) = true := by simp only [beq_iff_eq]; omega
  have hc1 : ¬ (c.natAbs == 1) = true := by simp only [beq_iff_eq]; omega
  have g := pw_gives a t b u c v hc0 hc1 (by omega) (by omega)
  have e1 : (c.natAbs : Int) = c := by omega
  have e2 : b.natAbs = b.toNat := by omega
  have e3 : c.natAbs = c.toNat := by omega
  rw [e1, e2, e3] at g
  clear hc0 hc1 e1 e2 e3
  obtain ⟨hp, gg, d, tk, os⟩ := s
  have hT : (⟨hp, gg, d, tk, os⟩ : Shared).TypeIs (.int a t) "int" := rfl
  have f3 := F.slot_int_pow.lookup
  have f4 := F.slot_int_pow.bind (.int a t)
  repeat (any_goals (first | assumption | ((with_reducible show wpAny _ _ (PySem.call (Value.builtin "int.__pow__") _ _) _ _ _); refine call_gives F.slot_int_pow hT F.entry_int_pow (F.args_int_pow_3 _ _ _) g ?_; dsimp only [Made.post]) | wp_step))
  rw [show typeLookup (Value.type "int") (Str.ofString "__pow__") = pure (some (Value.builtin "int.__pow__")) from f3]
  refine wpAny_pure ?_
  dsimp only
  refine wpAny_bind (wpAny_callSpecial?_slot (name := Str.ofString "__pow__") hT F.slot_int_pow (call_gives F.slot_int_pow hT F.entry_int_pow (F.args_int_pow_3 _ _ _) g ?_))
  dsimp only [Made.post]
  refine wpAny_pure ?_
  exact ⟨_, rfl, h⟩
end PartLPow
end Mine
-- part LB
namespace Mine
section PartLB
set_option maxHeartbeats 4000000
theorem freshLB : True := by k_with_none; w_top off; trivial
theorem powMod_lt {b e m : Nat} (hm : 0 < m) : Builtin.powMod b e m < m := by
  unfold Builtin.powMod
  have key : ∀ (l : List Nat) (acc : Nat), acc < m → l.foldl (fun p i => if e.testBit i then p * p % m * b % m else p * p % m) acc < m := by
    intro l
    induction l with
    | nil => intro acc h; exact h
    | cons i l ih =>
      intro acc _
      rw [List.foldl_cons]
      refine ih _ ?_
      split <;> exact Nat.mod_lt _ hm
  exact key _ _ (Nat.mod_lt _ hm)
def pw3 (a e m : Int) : Int := (Builtin.powMod (a % m).toNat e.toNat m.toNat : Nat)
theorem pow3R {prog : Program} {w : World} {A : Around} {E : Value → Shared → Prop} {s : Shared} {a b c : Int} {t u v : Tok} {Q : Value → Shared → Prop} (hb : 0 ≤ b) (hc : 1 < c)
    (h : ∀ R, R = pw3 a b c → 0 ≤ R → R < c → Q (.int R s.toks) { s with toks := s.toks + 1 }) : wpAny (model prog w) A (call (.builtin "pow") [.int a t, .int b u, .int c v]) Q E s := by
  refine call_pow3 hb hc (h _ rfl ?_ ?_)
  · exact Int.natCast_nonneg _
  · have := @powMod_lt (a % c).toNat b.toNat c.toNat (by omega)
    omega
def pt1 (P b x : Int) : List (Int × Int) :=
  if (pw3 (x ^ Int.toNat 3 + b) ((P + 1).fdiv 4) P * pw3 (x ^ Int.toNat 3 + b) ((P + 1).fdiv 4) P - x ^ Int.toNat 3 - b).fmod P = 0 then
    [(x, pw3 (x ^ Int.toNat 3 + b) ((P + 1).fdiv 4) P), (x, P - pw3 (x ^ Int.toNat 3 + b) ((P + 1).fdiv 4) P)] else []
def ptsOf (P b : Int) (pre : List Int) : List (Int × Int) := pre.flatMap (pt1 P b)
theorem fdiv4 {P : Int} (h : 0 < P) : 0 ≤ (P + 1).fdiv 4 := by
  rw [Int.fdiv_eq_ediv_of_nonneg _ (by decide)]
  omega
def PtW (P b : Int) (pre : List Int) (out : List Dat) : Prop := out = (ptsOf P b pre).map ptDat
theorem ptw_nil {P b : Int} : PtW P b [] [] ∧ ([] : List Dat).length ≤ 2 * ([] : List Int).length := ⟨rfl, Nat.le_refl _⟩
theorem ptw_no {P b k R : Int} {pre : List Int} {out : List Dat} (h : PtW P b pre out) (hl : out.length ≤ 2 * pre.length) (hR : R = pw3 (k ^ Int.toNat 3 + b) ((P + 1).fdiv 4) P) (hc : (R * R - k ^ Int.toNat 3 - b).fmod P ≠ 0) :
    PtW P b (pre ++ [k]) out ∧ out.length ≤ 2 * (pre ++ [k]).length := by
  subst hR
  refine ⟨?_, by rw [List.length_append]; omega⟩
  unfold PtW ptsOf
  rw [List.flatMap_append, List.flatMap_cons, List.flatMap_nil, List.append_nil]
  unfold pt1
  rw [if_neg hc, List.append_nil]
  exact h
theorem ptw_yes {P b k R : Int} {pre : List Int} {out : List Dat} (h : PtW P b pre out) (hl : out.length ≤ 2 * pre.length) (hR : R = pw3 (k ^ Int.toNat 3 + b) ((P + 1).fdiv 4) P) (hc : (R * R - k ^ Int.toNat 3 - b).fmod P = 0) :
    PtW P b (pre ++ [k]) (out ++ [Dat.tuple [Dat.int k, Dat.int R], Dat.tuple [Dat.int k, Dat.int (P - R)]]) ∧ (out ++ [Dat.tuple [Dat.int k, Dat.int R], Dat.tuple [Dat.int k, Dat.int (P - R)]]).length ≤ 2 * (pre ++ [k]).length := by
  subst hR
  refine ⟨?_, by simp only [List.length_append, List.length_cons, List.length_nil]; omega⟩
  unfold PtW ptsOf
  rw [List.flatMap_append, List.flatMap_cons, List.flatMap_nil, List.append_nil, List.map_append]
  unfold pt1
  rw [if_pos hc]
  have h1 : out = List.map ptDat (List.flatMap (pt1 P b) pre) := h
  rw [h1]
  rfl
local macro_rules | `(tactic| walk_at "call builtin:pow") => `(tactic| (k_here; k_dflt (refine' pow3R ?k1 ?k2 ?_; (case k1 => first | assumption | omega | exact fdiv4 (by assumption)); (case k2 => assumption)); intro R' hR' hRl' hRh'; (try dsimp only)))
local macro_rules | `(tactic| walk_at "binaryOp Pow int int") => `(tactic| (with_reducible refine pow_int_small (by decide) (by decide) ?k1 ?_; (case k1 => first | exact in_abs (by assumption) (by assumption) (by assumption) | exact fm_abs (by assumption) (by assumption) | omega)))
local macro_rules | `(tactic| k_steps) => `(tactic| repeat' ((fail_if_success (with_reducible show wpAny _ _ (execs (Stmt.Assign [PySem.Expr.Name _ ⟨85, _, _, _⟩] _ _ :: _) _) _ _ _)); first | (k_unfold; (try dsimp only)) | (k_end; wrow_close) | ((fail_if_success (with_reducible show wpAny _ _ (subscriptTail _ _ _ (Value.ref _)) _ _ _)); dsimp only; walk1) | walk1 | (leave1; walk_say "STEP leave1"; try dsimp only) | fail "no step"))

theorem dat_strip {cst tl : List (Addr × Obj)} {pts : List (Int × Int)} (hc : ∀ q ∈ cst, ∀ x y t1 t2 c, q.2 ≠ tup2 x y t1 t2 c) : ∀ {vs : List Value}, DatAll (cst ++ tl) vs (pts.map ptDat) → DatAll tl vs (pts.map ptDat) := by
  induction pts with
  | nil =>
    intro vs h
    cases h
    exact .nil
  | cons p r ih =>
    intro vs h
    rw [List.map_cons] at h ⊢
    cases h with
    | cons h1 h2 =>
      refine .cons ?_ (ih h2)
      obtain ⟨T, t1, t2, c, rfl, hm⟩ := datIn_pt h1
      rcases List.mem_append.mp hm with hm | hm
      · exact absurd rfl (hc _ hm _ _ _ _ _)
      · exact DatIn.tuple (vs := [.int p.1 t1, .int p.2 t2]) (n := c) hm (.cons (.int _ _) (.cons (.int _ _) .nil))
theorem no_tup_cell {o : Obj} {v : Option Value} {x y : Int} {t1 t2 : Tok} {c : Nat} (h : o.data = .cell v) : o ≠ tup2 x y t1 t2 c := by
  intro e
  rw [e] at h
  cases h
theorem no_tup_list {xs : Array Value} {n : Nat} {x y : Int} {t1 t2 : Tok} {c : Nat} : listOf xs n ≠ tup2 x y t1 t2 c := by
  intro e
  have := congrArg Obj.cls e
  simp [W.listOf] at this
theorem phB {w : World} {mean : ExcName → Option Value} {mg mb : Str → Option Value} {dp un : Nat} {gd : Option (List Code)} {a : Addr} {ccd : Value} {outer : List Env} {A₀ : Around} {base h₀ : Heap} {L : Addr} {s : Shared} {Q : Flow → Shared → Prop}
    {CL : Addr} {P b c0 c1 c2 c3 : Int} {tb tc0 tc1 tc2 tc3 tP : Tok} {cc : Nat} {po mo : Obj} (u : Str → Option Value)
    (Bl : Below A₀ base outer h₀) (X : (hd.heap_39 w.params).In h₀) (T : Top hd.view_39 (looseW hd.view_39 []) mean mg mb h₀) (hd : dp + 20 < recursionLimit) (hu : un + 200 < cLine)
    (F : Fr h₀ L s.heap (kstB u [(Str.ofString "cells", .ref CL), (Str.ofString "b", .int b tb)]))
    (N' : News h₀ L s.heap [(CL, listOf #[.int c0 tc0, .int c1 tc1, .int c2 tc2, .int c3 tc3] cc), (L + 1 + 1, mo), (L + 1, po)])
    (hlt : @LT.lt Nat _ (L + 1 + 1) CL)
    (hmo : mo.data = .cell none) (hpo : po.data = .cell (some (.int P tP)))
    (hP : WP P) (hb : 0 ≤ b ∧ b < P)
    {pts : List (Int × Int)} (hpt : ptsOf P b (rangeKs 0 (P - 0).toNat) = pts) {e e2 r0 r1 : Int} (hN : 3 < pts.length + 1) (hN' : pts.length + 1 < 64)
    (hE : (rangeKs 2 (P - 2).toNat).foldl (Gf P) [] = [e, e2]) (hR : (rangeKs 0 ((pts.length : Int) + 1 - 0).toNat).foldl (Gf ((pts.length : Int) + 1)) [] = [r0, r1])
    (hpts : ∀ p ∈ pts, (0 ≤ p.1 ∧ p.1 < P) ∧ 0 ≤ p.2 ∧ p.2 < P)
    (he : 0 ≤ e ∧ e < P) (hr0 : 0 ≤ r0 ∧ r0 < (pts.length : Int) + 1) (hr1 : 0 ≤ r1 ∧ r1 < (pts.length : Int) + 1)
    (hS : ∀ p ∈ pts, (pmul P ((pts.length : Int) + 1) p.1 p.2 r0 = ((e * p.1).fmod P, p.2) → Spec P ((pts.length : Int) + 1) e p.1 p.2 c3 pts r0 r1) ∧ (pmul P ((pts.length : Int) + 1) p.1 p.2 r0 ≠ ((e * p.1).fmod P, p.2) → Spec P ((pts.length : Int) + 1) e p.1 p.2 c3 pts r1 r0))
    (hQ : ∀ h' tk' m', Fr h₀ L h' m' → Q (.ret (.bool true)) { s with heap := h', toks := tk' }) :
    wpAny (model PySem.Challenge.rw_bb0057_01.row.prog w) (lawA dp un gd L a ccd outer) (execs (lawBody.drop 4) (lawEnv L a ccd)) Q (fun _ _ => False) s := by
  have hP0 := hP.pos
  have hP1 := hP.lt
  have hP2 := hP.one
  dsimp only [lawA, lawEnv, lawBody, lawScope, lawDef, PySem.Challenge.pw_bb0057_01, List.drop, tup2, tup6, kstB] at *
  revert X
  k_fill
  intro X
  k_with "state" => (first | exact ptw_nil | exact ptw_no (by assumption) (by assumption) (by assumption) (by assumption) | exact ptw_yes (by assumption) (by assumption) (by assumption) (by assumption))
  k_with "pyIter ref" => (k_dat (fun (pre : List Int) out => PtW P b pre out ∧ out.length ≤ 2 * pre.length) "points*")
  (try k_fold)
  k_steps
  · (try dsimp only)
    rename Fr _ _ _ _ => lF
    rename News _ _ _ _ => lN
    rename DatAll _ _ _ => lD
    rename PtW _ _ _ _ => lW
    rename OwnOff _ _ => lO
    have lN2 := lN
    try simp only [List.nil_append, List.cons_append, List.append_nil] at lN2
    have lD2 := lD
    rw [show _ = _ from lW, hpt] at lD2
    have lD3 := dat_strip (cst := [(CL, listOf #[.int c0 tc0, .int c1 tc1, .int c2 tc2, .int c3 tc3] cc), (L + 1 + 1, mo), (L + 1, po)]) (by
      intro q hq
      simp only [List.mem_cons, List.not_mem_nil, or_false] at hq
      intro x y t1 t2 c
      rcases hq with rfl | rfl | rfl
      · exact no_tup_list
      · exact no_tup_cell hmo
      · exact no_tup_cell hpo) lD2
    have hlen := dat_len lD3

    refine kst_canon [(Str.ofString "cells", .ref CL), (Str.ofString "points", .ref _), (Str.ofString "b", .int b tb)] lF (by kst_all) fun u2 F2 => phC u2 Bl X T hd hu F2 lN2 hlt (by omega) (fun p hp b hb => lO p hp b (by rw [List.mem_singleton.mp hb]; simp)) hmo hpo lD3 (by rw [PySem.sizeLine_eq, List.size_toArray]; omega) hP hN hN' hb hE hR hpts he hr0 hr1 hS hQ
end PartLB
end Mine
-- part Pure0
namespace Mine
section PartPure0
set_option maxHeartbeats 1000000
theorem freshPure0 : True := by k_with_none; w_top off; trivial
abbrev Pt := Int × Int
abbrev J3 := Int × Int × Int
theorem jm_mono {P N x y z : Int} (hN : 1 < N) : ∀ (f : Nat) (n : Int), JOk f N n → jm P N x y z (f + 1) n = jm P N x y z f n := by
  intro f
  induction f with
  | zero => intro n h; exact (jok_zero h).elim
  | succ f ih =>
    intro n h
    by_cases h1 : y = 0 ∨ n = 0
    · rw [jm_z h1, jm_z h1]
    · by_cases h2 : n = 1
      · rw [jm_1 (by omega) h2, jm_1 (by omega) h2]
      · by_cases h3 : n < 0 ∨ N ≤ n
        · rw [jm_m (by omega) (by omega) h2 h3 rfl, jm_m (by omega) (by omega) h2 h3 rfl]
          exact ih _ (jok_mod hN h h3)
        · have e := ih _ (jok_half h h3 (by omega) h2)
          by_cases h4 : n.fmod 2 = 0
          · rw [jm_d (by omega) (by omega) h2 (by omega) (by omega) h4 rfl rfl, jm_d (by omega) (by omega) h2 (by omega) (by omega) h4 rfl rfl, e]
          · rw [jm_a (by omega) (by omega) h2 (by omega) (by omega) h4 rfl rfl rfl, jm_a (by omega) (by omega) h2 (by omega) (by omega) h4 rfl rfl rfl, e]
def tg (T : List Pt) (i : Nat) : Pt := T.getD i (0, 0)
def wk (P : Int) (N : Nat) (x y : Int) (T : List Pt) (i : Nat) : Nat → Nat → J3 → Bool
  | 0, k, _ => decide (N ≤ k)
  | f + 1, k, J => decide (N ≤ k) || (decide (frj P J.1 J.2.1 J.2.2 = tg T (i * k % N)) &&
      (wk P N x y T i f (2 * k) (dbl P J.1 J.2.1 J.2.2) && wk P N x y T i f (2 * k + 1) (jadd P (dbl P J.1 J.2.1 J.2.2).1 (dbl P J.1 J.2.1 J.2.2).2.1 (dbl P J.1 J.2.1 J.2.2).2.2 x y 1)))
theorem jok_in {N n : Int} {f : Nat} (hf : 7 ≤ f) (hN : N < 64) (h0 : 0 ≤ n) (h1 : n < N) : JOk f N n := by
  refine ⟨by omega, .inl ⟨h0, h1, ?_⟩⟩
  have e : (2 ^ 6 : Nat) ≤ 2 ^ (f - 1) := Nat.pow_le_pow_right (by decide) (by omega)
  have e2 : ((2 ^ 6 : Nat) : Int) = 64 := by decide
  omega
theorem wk_all {P : Int} {N : Nat} {x y : Int} {T : List Pt} {i : Nat} (hN : 1 < N) (hN' : N < 64) (hy : y ≠ 0) {f0 : Nat} (h : wk P N x y T i f0 1 (x, y, 1) = true) :
    ∀ n : Nat, 1 ≤ n → n < N → ∃ f, wk P N x y T i f n (jm P N x y 1 8 n) = true := by
  intro n
  induction n using Nat.strongRecOn with
  | ind n ih =>
    intro h1 h2
    by_cases e1 : n = 1
    · subst e1
      refine ⟨f0, ?_⟩
      rw [jm_1 (n := ((1 : Nat) : Int)) hy rfl]
      exact h
    · obtain ⟨f, hf⟩ := ih (n / 2) (by omega) (by omega) (by omega)
      cases f with
      | zero =>
        unfold wk at hf
        have := of_decide_eq_true hf
        omega
      | succ f =>
        unfold wk at hf
        have hlt : decide (N ≤ n / 2) = false := decide_eq_false (by omega)
        rw [hlt, Bool.false_or, Bool.and_eq_true, Bool.and_eq_true] at hf
        have ed : ((n : Nat) : Int).fdiv 2 = ((n / 2 : Nat) : Int) := by
          rw [Int.fdiv_eq_ediv_of_nonneg _ (by decide)]
          omega
        have ej : jm P N x y 1 7 ((n / 2 : Nat) : Int) = jm P N x y 1 8 ((n / 2 : Nat) : Int) :=
          (jm_mono (by omega) 7 _ (jok_in (by decide) (by omega) (by omega) (by omega))).symm
        refine ⟨f, ?_⟩
        by_cases h4 : ((n : Nat) : Int).fmod 2 = 0
        · have e2 : 2 * (n / 2) = n := by
            rw [Int.fmod_eq_emod_of_nonneg _ (by decide)] at h4
            omega
          rw [jm_d hy (by omega) (by omega) (by omega) (by omega) h4 rfl rfl, ed, ej]
          have := hf.2.1
          rw [e2] at this
          exact this
        · have e2 : 2 * (n / 2) + 1 = n := by
            rw [Int.fmod_eq_emod_of_nonneg _ (by decide)] at h4
            omega
          rw [jm_a hy (by omega) (by omega) (by omega) (by omega) h4 rfl rfl rfl, ed, ej]
          have := hf.2.2
          rw [e2] at this
          exact this
theorem wk_val {P : Int} {N : Nat} {x y : Int} {T : List Pt} {i : Nat} (hN : 1 < N) (hN' : N < 64) (hy : y ≠ 0) {f0 : Nat} (h : wk P N x y T i f0 1 (x, y, 1) = true) (h0 : tg T 0 = (0, 0)) (hP : 0 < P)
    (n : Nat) (hn : n < N) : pmul P N x y n = tg T (i * n % N) := by
  unfold pmul
  by_cases e0 : n = 0
  · subst e0
    rw [jm_z (n := ((0 : Nat) : Int)) (.inr rfl), Nat.mul_zero, Nat.zero_mod, h0]
    show frj P 0 0 1 = (0, 0)
    unfold frj
    rw [Int.zero_mul, Int.zero_mul, Int.zero_fmod]
  · obtain ⟨f, hf⟩ := wk_all hN hN' hy h n (by omega) hn
    cases f with
    | zero =>
      unfold wk at hf
      have := of_decide_eq_true hf
      omega
    | succ f =>
      unfold wk at hf
      have hlt : decide (N ≤ n) = false := decide_eq_false (by omega)
      rw [hlt, Bool.false_or, Bool.and_eq_true] at hf
      exact of_decide_eq_true hf.1
/-- any n -/
theorem wk_any {P : Int} {N : Nat} {x y : Int} {T : List Pt} {i : Nat} (hN : 1 < N) (hN' : N < 64) (hy : y ≠ 0) {f0 : Nat} (h : wk P N x y T i f0 1 (x, y, 1) = true) (h0 : tg T 0 = (0, 0)) (hP : 0 < P)
    (n : Int) : pmul P N x y n = tg T (i * (n.fmod N).toNat % N) := by
  have hN0 : (0 : Int) < N := by omega
  have l1 := fm_lo (a := n) hN0
  have l2 := fm_hi (a := n) hN0
  have hv := wk_val hN hN' hy h h0 hP (n.fmod N).toNat (by omega)
  rw [Int.toNat_of_nonneg l1] at hv
  rw [← hv]
  by_cases hin : n < 0 ∨ (N : Int) ≤ n
  · unfold pmul
    by_cases hz : n = 0
    · subst hz; omega
    · by_cases h1 : n = 1
      · omega
      · rw [jm_m hy hz h1 hin rfl]
        rw [← jm_mono (P := P) (x := x) (y := y) (z := 1) (by omega) 7 _ (jok_in (by decide) (by omega) l1 l2)]
  · have e : n.fmod N = n := by
      rw [Int.fmod_eq_emod_of_nonneg _ (by omega)]
      exact Int.emod_eq_of_lt (by omega) (by omega)
    rw [e]
end PartPure0
end Mine
-- part Pure1
namespace Mine
section PartPure1
set_option maxHeartbeats 1000000
theorem freshPure1 : True := by k_with_none; w_top off; trivial
def ck1 (P b : Int) (N : Nat) (T pts : List Pt) (e e2 r0 r1 : Int) : Bool :=
  decide (ptsOf P b (rangeKs 0 (P - 0).toNat) = pts) && decide (pts.length + 1 = N) && decide ((rangeKs 2 (P - 2).toNat).foldl (Gf P) [] = [e, e2]) &&
  decide ((rangeKs 0 ((pts.length : Int) + 1 - 0).toNat).foldl (Gf ((pts.length : Int) + 1)) [] = [r0, r1]) &&
  pts.all (fun p => decide (0 ≤ p.1) && decide (p.1 < P) && decide (0 ≤ p.2) && decide (p.2 < P)) &&
  (decide (0 ≤ e) && decide (e < P) && decide (0 ≤ r0) && decide (r0 < N) && decide (0 ≤ r1) && decide (r1 < N)) &&
  pts.all (fun p => (List.range N).any fun i => decide (1 ≤ i) && decide (tg T i = p)) && decide (tg T 0 = (0, 0))
def ck2 (P : Int) (N : Nat) (T : List Pt) : Bool :=
  (List.range N).all fun i => decide (i = 0) || (decide ((tg T i).2 ≠ 0) && wk P N (tg T i).1 (tg T i).2 T i 7 1 ((tg T i).1, (tg T i).2, 1))
def ck3 (P : Int) (N : Nat) (T : List Pt) : Bool :=
  (List.range N).all fun a => (List.range N).all fun b => decide (padd P (tg T a).1 (tg T a).2 (tg T b).1 (tg T b).2 = tg T ((a + b) % N))
def ck4 (P e : Int) (N l l2 : Nat) (T : List Pt) : Bool :=
  (List.range N).all fun i => decide (i = 0) || (decide (((e * (tg T i).1).fmod P, (tg T i).2) = tg T (i * l % N)) && decide (((e * e * (tg T i).1).fmod P, (tg T i).2) = tg T (i * l2 % N)) &&
    decide (((e * e * (tg T i).1).fmod P, (-(tg T i).2).fmod P) = tg T (i * (1 + l) % N)))
def ck5 (P e r0 r1 : Int) (N l l2 : Nat) (T : List Pt) : Bool :=
  decide (l < N) && decide (l2 < N) && ((decide ((l : Int) = r0) && decide ((l2 : Int) = r1)) || (decide ((l : Int) = r1) && decide ((l2 : Int) = r0) &&
    (List.range N).all fun i => decide (i = 0) || decide (tg T (i * r0.toNat % N) ≠ ((e * (tg T i).1).fmod P, (tg T i).2))))
end PartPure1
end Mine
-- part Pure2
namespace Mine
section PartPure2
set_option maxHeartbeats 1000000
theorem freshPure2 : True := by k_with_none; w_top off; trivial
theorem fm_split (n : Int) {N : Nat} (hN : 0 < N) : ∃ q : Int, n = (N : Int) * q + ((n.fmod N).toNat : Int) := by
  refine ⟨n.fdiv N, ?_⟩
  rw [Int.toNat_of_nonneg (fm_lo (by omega))]
  exact (Int.mul_fdiv_add_fmod n N).symm
theorem fm_lt (n : Int) {N : Nat} (hN : 0 < N) : (n.fmod N).toNat < N := by
  have h1 := fm_lo (a := n) (P := (N : Int)) (by omega)
  have h2 := fm_hi (a := n) (P := (N : Int)) (by omega)
  omega
theorem fm_nat {k N : Nat} : (((k : Nat) : Int).fmod (N : Int)).toNat = k % N := by
  rw [Int.fmod_eq_emod_of_nonneg _ (by omega)]
  omega
theorem nat_split (n : Nat) (N : Nat) : ∃ q : Nat, n = N * q + n % N := ⟨n / N, (Nat.div_add_mod n N).symm⟩
theorem ring_key {i k' l m' c' N u v w A B C k m c3 q qk qm qc : Int} (hu : i * k' = N * u + A) (hv : i * l = N * v + B) (hw : B * m' = N * w + C) (hk : k = N * qk + k') (hm : m = N * qm + m') (hc : c3 = N * qc + c')
    (hq : k + m * l - c3 = N * q) : A + C - i * c' = N * (i * (q - qk - l * qm + qc) - u - w - v * m') := by
  grind
theorem key_mod {N i l k' m' c' : Nat} {k m c3 : Int} (hN : 0 < N) (hk : ∃ q : Int, k = (N : Int) * q + (k' : Int)) (hm : ∃ q : Int, m = (N : Int) * q + (m' : Int)) (hc : ∃ q : Int, c3 = (N : Int) * q + (c' : Int))
    (h : (k + m * (l : Int) - c3).fmod (N : Int) = 0) : (i * k' % N + i * l % N * m' % N) % N = i * c' % N := by
  obtain ⟨qk, hk⟩ := hk
  obtain ⟨qm, hm⟩ := hm
  obtain ⟨qc, hc⟩ := hc
  obtain ⟨q, hq⟩ : ∃ q : Int, k + m * (l : Int) - c3 = (N : Int) * q := by
    refine ⟨(k + m * (l : Int) - c3).fdiv N, ?_⟩
    have := Int.mul_fdiv_add_fmod (k + m * (l : Int) - c3) N
    omega
  obtain ⟨u, hu⟩ := nat_split (i * k') N
  obtain ⟨v, hv⟩ := nat_split (i * l) N
  obtain ⟨w, hw⟩ := nat_split (i * l % N * m') N
  have hu' : (i : Int) * k' = N * u + (i * k' % N : Nat) := by exact_mod_cast hu
  have hv' : (i : Int) * l = N * v + (i * l % N : Nat) := by exact_mod_cast hv
  have hw' : ((i * l % N : Nat) : Int) * m' = N * w + (i * l % N * m' % N : Nat) := by exact_mod_cast hw
  have key : ((i * k' % N + i * l % N * m' % N : Nat) : Int) - ((i * c' : Nat) : Int) = N * ((i : Int) * (q - qk - l * qm + qc) - u - w - v * m') := by
    rw [Int.natCast_add, Int.natCast_mul i c']
    exact ring_key hu' hv' hw' hk hm hc hq
  have e : ((i * k' % N + i * l % N * m' % N : Nat) : Int) % N = ((i * c' : Nat) : Int) % N := by
    rw [Int.emod_eq_emod_iff_emod_sub_eq_zero, key]
    exact Int.mul_emod_right _ _
  have e2 : (((i * k' % N + i * l % N * m' % N) % N : Nat) : Int) = (((i * c') % N : Nat) : Int) := by
    rw [Int.natCast_emod, Int.natCast_emod]
    exact e
  exact Int.ofNat.inj e2
end PartPure2
end Mine
-- part Pure3
namespace Mine
section PartPure3
set_option maxHeartbeats 1000000
theorem freshPure3 : True := by k_with_none; w_top off; trivial
def CS (P b : Int) : Prop := ∀ c3 : Int, ∃ (pts : List (Int × Int)) (e e2 r0 r1 : Int), ptsOf P b (rangeKs 0 (P - 0).toNat) = pts ∧ 3 < pts.length + 1 ∧ pts.length + 1 < 64 ∧
  (rangeKs 2 (P - 2).toNat).foldl (Gf P) [] = [e, e2] ∧ (rangeKs 0 ((pts.length : Int) + 1 - 0).toNat).foldl (Gf ((pts.length : Int) + 1)) [] = [r0, r1] ∧
  (∀ p ∈ pts, (0 ≤ p.1 ∧ p.1 < P) ∧ 0 ≤ p.2 ∧ p.2 < P) ∧ (0 ≤ e ∧ e < P) ∧ (0 ≤ r0 ∧ r0 < (pts.length : Int) + 1) ∧ (0 ≤ r1 ∧ r1 < (pts.length : Int) + 1) ∧
  (∀ p ∈ pts, (pmul P ((pts.length : Int) + 1) p.1 p.2 r0 = ((e * p.1).fmod P, p.2) → Spec P ((pts.length : Int) + 1) e p.1 p.2 c3 pts r0 r1) ∧ (pmul P ((pts.length : Int) + 1) p.1 p.2 r0 ≠ ((e * p.1).fmod P, p.2) → Spec P ((pts.length : Int) + 1) e p.1 p.2 c3 pts r1 r0))
structure Tab (P e : Int) (N l l2 : Nat) (T pts : List Pt) : Prop where
  pos : 0 < P
  big : 1 < N
  low : N < 64
  zero : tg T 0 = (0, 0)
  lN : l < N
  idx : ∀ p ∈ pts, ∃ i, 1 ≤ i ∧ i < N ∧ tg T i = p
  y0 : ∀ i, 1 ≤ i → i < N → (tg T i).2 ≠ 0
  mul : ∀ i, 1 ≤ i → i < N → ∀ n : Int, pmul P N (tg T i).1 (tg T i).2 n = tg T (i * (n.fmod N).toNat % N)
  add : ∀ a b, a < N → b < N → padd P (tg T a).1 (tg T a).2 (tg T b).1 (tg T b).2 = tg T ((a + b) % N)
  em : ∀ i, 1 ≤ i → i < N → ((e * (tg T i).1).fmod P, (tg T i).2) = tg T (i * l % N)
  em2 : ∀ i, 1 ≤ i → i < N → ((e * e * (tg T i).1).fmod P, (tg T i).2) = tg T (i * l2 % N)
  em3 : ∀ i, 1 ≤ i → i < N → ((e * e * (tg T i).1).fmod P, (-(tg T i).2).fmod P) = tg T (i * (1 + l) % N)
theorem tab_mulN {P e : Int} {N l l2 : Nat} {T pts : List Pt} (t : Tab P e N l l2 T pts) {i : Nat} (h1 : 1 ≤ i) (h2 : i < N) (k : Nat) : pmul P N (tg T i).1 (tg T i).2 (k : Int) = tg T (i * k % N) := by
  rw [t.mul i h1 h2, fm_nat]
  congr 1
  rw [Nat.mul_mod, Nat.mod_mod, ← Nat.mul_mod]
theorem tab_spec {P e c3 : Int} {N l l2 : Nat} {T pts : List Pt} (t : Tab P e N l l2 T pts) {i : Nat} (h1 : 1 ≤ i) (h2 : i < N) : Spec P N e (tg T i).1 (tg T i).2 c3 pts l l2 := by
  have hN : 0 < N := by have := t.big; omega
  refine ⟨fun p hp => ?_, fun p hp => ?_, ?_⟩
  · obtain ⟨j, j1, j2, rfl⟩ := t.idx p hp
    rw [tab_mulN t j1 j2, t.em j j1 j2]
  · obtain ⟨j, j1, j2, rfl⟩ := t.idx p (List.mem_of_mem_take hp)
    refine ⟨?_, ?_⟩
    · rw [tab_mulN t j1 j2, t.em2 j j1 j2]
    · have := tab_mulN t j1 j2 (1 + l)
      rw [show ((1 + l : Nat) : Int) = 1 + (l : Int) by omega] at this
      rw [this, t.em3 j j1 j2]
  · intro k m X1 Y1 X2 Y2 X3 Y3 dx dy _ _ _ _ _ hmod g0 g1 g2 g3
    have hi2 : i * l % N ≠ 0 := by
      intro hz
      have he := t.em i h1 h2
      rw [hz, t.zero] at he
      exact t.y0 i h1 h2 (Prod.mk.inj he).2
    have hi3 : i * l % N < N := Nat.mod_lt _ hN
    have ee := t.em i h1 h2
    rw [t.mul i h1 h2] at g0 g1
    have e1 : (e * (tg T i).1).fmod P = (tg T (i * l % N)).1 := by rw [← ee]
    have e2 : (tg T i).2 = (tg T (i * l % N)).2 := by rw [← ee]
    rw [e1, e2, t.mul _ (by omega) hi3] at g2
    have a1 : i * (k.fmod N).toNat % N < N := Nat.mod_lt _ hN
    have a2 : i * l % N * (m.fmod N).toNat % N < N := Nat.mod_lt _ hN
    have s := t.add _ _ a1 a2
    rw [g1, g2] at s
    have km := key_mod (i := i) (l := l) hN (fm_split k hN) (fm_split m hN) (fm_split c3 hN) hmod
    rw [km, g0] at s
    have := s.symm.trans g3
    exact ⟨(Prod.mk.inj this).1.symm, (Prod.mk.inj this).2.symm⟩
theorem cs_of {P b : Int} {N l l2 : Nat} {T pts : List Pt} {e e2 r0 r1 : Int} (hP : 0 < P) (hN : 3 < N) (hN' : N < 64) (h1 : ck1 P b N T pts e e2 r0 r1 = true) (h2 : ck2 P N T = true) (h3 : ck3 P N T = true) (h4 : ck4 P e N l l2 T = true) (h5 : ck5 P e r0 r1 N l l2 T = true) : CS P b := by
  intro c3
  unfold ck1 at h1
  simp only [Bool.and_eq_true, decide_eq_true_eq, List.all_eq_true, List.any_eq_true] at h1
  obtain ⟨⟨⟨⟨⟨⟨⟨p1, p2⟩, p3⟩, p4⟩, p5⟩, p6⟩, p7⟩, p8⟩ := h1
  unfold ck2 at h2
  simp only [Bool.and_eq_true, Bool.or_eq_true, decide_eq_true_eq, List.all_eq_true, List.mem_range] at h2
  unfold ck3 at h3
  simp only [decide_eq_true_eq, List.all_eq_true, List.mem_range] at h3
  unfold ck4 at h4
  simp only [Bool.and_eq_true, Bool.or_eq_true, decide_eq_true_eq, List.all_eq_true, List.mem_range] at h4
  unfold ck5 at h5
  simp only [Bool.and_eq_true, Bool.or_eq_true, decide_eq_true_eq, List.all_eq_true, List.mem_range] at h5
  have nz : ∀ {i : Nat} {Q : Prop}, 1 ≤ i → (i = 0 ∨ Q) → Q := fun hi h => h.elim (fun h => by omega) id
  have t : Tab P e N l l2 T pts := by
    refine ⟨hP, by omega, hN', p8, h5.1.1, fun p hp => ?_, fun i a c => (nz a (h2 i c)).1, fun i a c n => wk_any (by omega) hN' (nz a (h2 i c)).1 (nz a (h2 i c)).2 p8 hP n, fun a c ha hc => h3 a ha c hc, fun i a c => (nz a (h4 i c)).1.1, fun i a c => (nz a (h4 i c)).1.2, fun i a c => (nz a (h4 i c)).2⟩
    obtain ⟨i, hi, q1, q2⟩ := p7 p hp
    exact ⟨i, q1, List.mem_range.mp hi, q2⟩
  have hn : (pts.length : Int) + 1 = (N : Int) := by omega
  refine ⟨pts, e, e2, r0, r1, p1, by omega, by omega, p3, p4, fun p hp => ?_, ⟨p6.1.1.1.1.1, p6.1.1.1.1.2⟩, ?_, ?_, fun p hp => ?_⟩
  · have := p5 p hp
    exact ⟨⟨this.1.1.1, this.1.1.2⟩, this.1.2, this.2⟩
  · rw [hn]; exact ⟨p6.1.1.1.2, p6.1.1.2⟩
  · rw [hn]; exact ⟨p6.1.2, p6.2⟩
  · rw [hn]
    obtain ⟨i, i1, i2, rfl⟩ := t.idx p hp
    have sp := tab_spec (c3 := c3) t i1 i2
    rcases h5.2 with h5 | h5
    · obtain ⟨rfl, rfl⟩ := h5
      exact ⟨fun _ => sp, fun hne => absurd (sp.1 _ hp) hne⟩
    · obtain ⟨⟨rfl, rfl⟩, h6⟩ := h5
      refine ⟨fun heq => ?_, fun _ => sp⟩
      have := tab_mulN t i1 i2 l2
      rw [heq] at this
      have h7 := nz i1 (h6 i i2)
      rw [Int.toNat_natCast] at h7
      exact absurd this.symm h7
end PartPure3
end Mine
-- part Curves
namespace Mine
section PartCurves
set_option maxHeartbeats 1000000
theorem freshCurves : True := by k_with_none; w_top off; trivial
def PureAll (P c : Int) : Prop := ∀ c1 c3 : Int, ∃ (pts : List (Int × Int)) (e e2 r0 r1 : Int), ptsOf P ((c * pw3 (1 + c1.fmod (P - 1)) 6 P).fmod P) (rangeKs 0 (P - 0).toNat) = pts ∧ 3 < pts.length + 1 ∧ pts.length + 1 < 64 ∧
  (rangeKs 2 (P - 2).toNat).foldl (Gf P) [] = [e, e2] ∧ (rangeKs 0 ((pts.length : Int) + 1 - 0).toNat).foldl (Gf ((pts.length : Int) + 1)) [] = [r0, r1] ∧
  (∀ p ∈ pts, (0 ≤ p.1 ∧ p.1 < P) ∧ 0 ≤ p.2 ∧ p.2 < P) ∧ (0 ≤ e ∧ e < P) ∧ (0 ≤ r0 ∧ r0 < (pts.length : Int) + 1) ∧ (0 ≤ r1 ∧ r1 < (pts.length : Int) + 1) ∧
  (∀ p ∈ pts, (pmul P ((pts.length : Int) + 1) p.1 p.2 r0 = ((e * p.1).fmod P, p.2) → Spec P ((pts.length : Int) + 1) e p.1 p.2 c3 pts r0 r1) ∧ (pmul P ((pts.length : Int) + 1) p.1 p.2 r0 ≠ ((e * p.1).fmod P, p.2) → Spec P ((pts.length : Int) + 1) e p.1 p.2 c3 pts r1 r0))
theorem pure_of {P c : Int} {n : Nat} {bs : List Int} (hn : P - 1 = n) (hn0 : 0 < n) (hb : (List.range n).all (fun r => bs.contains ((c * pw3 (1 + (r : Int)) 6 P).fmod P)) = true) (hcs : ∀ b ∈ bs, CS P b) : PureAll P c := by
  intro c1 c3
  have h1 := fm_lo (a := c1) (P := P - 1) (by omega)
  have h2 := fm_hi (a := c1) (P := P - 1) (by omega)
  refine hcs _ ?_ c3
  obtain ⟨r, hr⟩ := Int.eq_ofNat_of_zero_le h1
  rw [hr]
  have := List.all_eq_true.mp hb r (List.mem_range.mpr (by omega))
  exact List.contains_iff_mem.mp this
def Tk7b3 : List Pt := [(0, 0), (1, 2), (6, 3), (2, 2), (4, 5), (3, 3), (5, 3), (5, 4), (3, 4), (4, 2), (2, 5), (6, 4), (1, 5)]
def Pk7b3 : List Pt := [(1, 2), (1, 5), (2, 2), (2, 5), (3, 4), (3, 3), (4, 2), (4, 5), (5, 4), (5, 3), (6, 4), (6, 3)]
theorem ak7b3 : ck1 7 3 13 Tk7b3 Pk7b3 2 4 3 9 = true := by decide +kernel
theorem bk7b3 : ck2 7 13 Tk7b3 = true := by decide +kernel
theorem ck7b3 : ck3 7 13 Tk7b3 = true := by decide +kernel
theorem dk7b3 : ck4 7 2 13 3 9 Tk7b3 = true := by decide +kernel
theorem ek7b3 : ck5 7 2 3 9 13 3 9 Tk7b3 = true := by decide +kernel
theorem sk7b3 : CS 7 3 := cs_of (by decide) (by decide) (by decide) ak7b3 bk7b3 ck7b3 dk7b3 ek7b3
def Tk7b5 : List Pt := [(0, 0), (3, 2), (5, 2), (6, 5), (6, 2), (5, 5), (3, 5)]
def Pk7b5 : List Pt := [(3, 2), (3, 5), (5, 2), (5, 5), (6, 2), (6, 5)]
theorem ak7b5 : ck1 7 5 7 Tk7b5 Pk7b5 2 4 2 4 = true := by decide +kernel
theorem bk7b5 : ck2 7 7 Tk7b5 = true := by decide +kernel
theorem ck7b5 : ck3 7 7 Tk7b5 = true := by decide +kernel
theorem dk7b5 : ck4 7 2 7 4 2 Tk7b5 = true := by decide +kernel
theorem ek7b5 : ck5 7 2 2 4 7 4 2 Tk7b5 = true := by decide +kernel
theorem sk7b5 : CS 7 5 := cs_of (by decide) (by decide) (by decide) ak7b5 bk7b5 ck7b5 dk7b5 ek7b5
def Tk19b2 : List Pt := [(0, 0), (4, 16), (18, 1), (6, 16), (9, 3), (12, 1), (8, 1), (8, 18), (12, 18), (9, 16), (6, 3), (18, 18), (4, 3)]
def Pk19b2 : List Pt := [(4, 16), (4, 3), (6, 16), (6, 3), (8, 1), (8, 18), (9, 16), (9, 3), (12, 1), (12, 18), (18, 1), (18, 18)]
theorem ak19b2 : ck1 19 2 13 Tk19b2 Pk19b2 7 11 3 9 = true := by decide +kernel
theorem bk19b2 : ck2 19 13 Tk19b2 = true := by decide +kernel
theorem ck19b2 : ck3 19 13 Tk19b2 = true := by decide +kernel
theorem dk19b2 : ck4 19 7 13 9 3 Tk19b2 = true := by decide +kernel
theorem ek19b2 : ck5 19 7 3 9 13 9 3 Tk19b2 = true := by decide +kernel
theorem sk19b2 : CS 19 2 := cs_of (by decide) (by decide) (by decide) ak19b2 bk19b2 ck19b2 dk19b2 ek19b2
def Tk19b14 : List Pt := [(0, 0), (5, 5), (13, 11), (17, 5), (16, 14), (15, 11), (10, 11), (10, 8), (15, 8), (16, 5), (17, 14), (13, 8), (5, 14)]
def Pk19b14 : List Pt := [(5, 5), (5, 14), (10, 11), (10, 8), (13, 11), (13, 8), (15, 11), (15, 8), (16, 5), (16, 14), (17, 5), (17, 14)]
theorem ak19b14 : ck1 19 14 13 Tk19b14 Pk19b14 7 11 3 9 = true := by decide +kernel
theorem bk19b14 : ck2 19 13 Tk19b14 = true := by decide +kernel
theorem ck19b14 : ck3 19 13 Tk19b14 = true := by decide +kernel
theorem dk19b14 : ck4 19 7 13 9 3 Tk19b14 = true := by decide +kernel
theorem ek19b14 : ck5 19 7 3 9 13 9 3 Tk19b14 = true := by decide +kernel
theorem sk19b14 : CS 19 14 := cs_of (by decide) (by decide) (by decide) ak19b14 bk19b14 ck19b14 dk19b14 ek19b14
def Tk19b3 : List Pt := [(0, 0), (1, 17), (14, 7), (11, 17), (7, 2), (3, 7), (2, 7), (2, 12), (3, 12), (7, 17), (11, 2), (14, 12), (1, 2)]
def Pk19b3 : List Pt := [(1, 17), (1, 2), (2, 7), (2, 12), (3, 7), (3, 12), (7, 17), (7, 2), (11, 17), (11, 2), (14, 7), (14, 12)]
theorem ak19b3 : ck1 19 3 13 Tk19b3 Pk19b3 7 11 3 9 = true := by decide +kernel
theorem bk19b3 : ck2 19 13 Tk19b3 = true := by decide +kernel
theorem ck19b3 : ck3 19 13 Tk19b3 = true := by decide +kernel
theorem dk19b3 : ck4 19 7 13 9 3 Tk19b3 = true := by decide +kernel
theorem ek19b3 : ck5 19 7 3 9 13 9 3 Tk19b3 = true := by decide +kernel
theorem sk19b3 : CS 19 3 := cs_of (by decide) (by decide) (by decide) ak19b3 bk19b3 ck19b3 dk19b3 ek19b3
def Tk19b10 : List Pt := [(0, 0), (1, 7), (9, 13), (6, 13), (18, 3), (4, 6), (12, 3), (11, 7), (7, 12), (8, 3), (8, 16), (7, 7), (11, 12), (12, 16), (4, 13), (18, 16), (6, 6), (9, 6), (1, 12)]
def Pk19b10 : List Pt := [(1, 7), (1, 12), (4, 6), (4, 13), (6, 6), (6, 13), (7, 7), (7, 12), (8, 16), (8, 3), (9, 6), (9, 13), (11, 7), (11, 12), (12, 16), (12, 3), (18, 16), (18, 3)]
theorem ak19b10 : ck1 19 10 19 Tk19b10 Pk19b10 7 11 7 11 = true := by decide +kernel
theorem bk19b10 : ck2 19 19 Tk19b10 = true := by decide +kernel
theorem ck19b10 : ck3 19 19 Tk19b10 = true := by decide +kernel
theorem dk19b10 : ck4 19 7 19 11 7 Tk19b10 = true := by decide +kernel
theorem ek19b10 : ck5 19 7 7 11 19 11 7 Tk19b10 = true := by decide +kernel
theorem sk19b10 : CS 19 10 := cs_of (by decide) (by decide) (by decide) ak19b10 bk19b10 ck19b10 dk19b10 ek19b10
def Tk19b13 : List Pt := [(0, 0), (4, 1), (17, 10), (5, 10), (15, 14), (16, 9), (10, 14), (6, 1), (9, 18), (13, 14), (13, 5), (9, 1), (6, 18), (10, 5), (16, 10), (15, 5), (5, 9), (17, 9), (4, 18)]
def Pk19b13 : List Pt := [(4, 1), (4, 18), (5, 9), (5, 10), (6, 1), (6, 18), (9, 1), (9, 18), (10, 5), (10, 14), (13, 5), (13, 14), (15, 5), (15, 14), (16, 9), (16, 10), (17, 9), (17, 10)]
theorem ak19b13 : ck1 19 13 19 Tk19b13 Pk19b13 7 11 7 11 = true := by decide +kernel
theorem bk19b13 : ck2 19 19 Tk19b13 = true := by decide +kernel
theorem ck19b13 : ck3 19 19 Tk19b13 = true := by decide +kernel
theorem dk19b13 : ck4 19 7 19 11 7 Tk19b13 = true := by decide +kernel
theorem ek19b13 : ck5 19 7 7 11 19 11 7 Tk19b13 = true := by decide +kernel
theorem sk19b13 : CS 19 13 := cs_of (by decide) (by decide) (by decide) ak19b13 bk19b13 ck19b13 dk19b13 ek19b13
def Tk19b15 : List Pt := [(0, 0), (1, 4), (2, 17), (14, 17), (5, 11), (3, 2), (16, 11), (11, 4), (7, 15), (17, 11), (17, 8), (7, 4), (11, 15), (16, 8), (3, 17), (5, 8), (14, 2), (2, 2), (1, 15)]
def Pk19b15 : List Pt := [(1, 4), (1, 15), (2, 17), (2, 2), (3, 17), (3, 2), (5, 11), (5, 8), (7, 4), (7, 15), (11, 4), (11, 15), (14, 17), (14, 2), (16, 11), (16, 8), (17, 11), (17, 8)]
theorem ak19b15 : ck1 19 15 19 Tk19b15 Pk19b15 7 11 7 11 = true := by decide +kernel
theorem bk19b15 : ck2 19 19 Tk19b15 = true := by decide +kernel
theorem ck19b15 : ck3 19 19 Tk19b15 = true := by decide +kernel
theorem dk19b15 : ck4 19 7 19 11 7 Tk19b15 = true := by decide +kernel
theorem ek19b15 : ck5 19 7 7 11 19 11 7 Tk19b15 = true := by decide +kernel
theorem sk19b15 : CS 19 15 := cs_of (by decide) (by decide) (by decide) ak19b15 bk19b15 ck19b15 dk19b15 ek19b15
def Tk31b3 : List Pt := [(0, 0), (1, 2), (16, 10), (22, 24), (24, 30), (26, 8), (5, 2), (25, 29), (30, 8), (9, 22), (4, 6), (14, 22), (18, 10), (6, 23), (28, 21), (11, 30), (7, 6), (20, 6), (17, 24), (27, 1), (8, 9), (23, 7), (23, 24), (8, 22), (27, 30), (17, 7), (20, 25), (7, 25), (11, 1), (28, 10), (6, 8), (18, 21), (14, 9), (4, 25), (9, 9), (30, 23), (25, 2), (5, 29), (26, 23), (24, 1), (22, 7), (16, 21), (1, 29)]
def Pk31b3 : List Pt := [(1, 2), (1, 29), (4, 25), (4, 6), (5, 2), (5, 29), (6, 8), (6, 23), (7, 25), (7, 6), (8, 9), (8, 22), (9, 9), (9, 22), (11, 1), (11, 30), (14, 9), (14, 22), (16, 10), (16, 21), (17, 7), (17, 24), (18, 10), (18, 21), (20, 25), (20, 6), (22, 7), (22, 24), (23, 7), (23, 24), (24, 1), (24, 30), (25, 2), (25, 29), (26, 8), (26, 23), (27, 1), (27, 30), (28, 10), (28, 21), (30, 8), (30, 23)]
theorem ak31b3 : ck1 31 3 43 Tk31b3 Pk31b3 5 25 6 36 = true := by decide +kernel
theorem bk31b3 : ck2 31 43 Tk31b3 = true := by decide +kernel
theorem ck31b3 : ck3 31 43 Tk31b3 = true := by decide +kernel
theorem dk31b3 : ck4 31 5 43 6 36 Tk31b3 = true := by decide +kernel
theorem ek31b3 : ck5 31 5 6 36 43 6 36 Tk31b3 = true := by decide +kernel
theorem sk31b3 : CS 31 3 := cs_of (by decide) (by decide) (by decide) ak31b3 bk31b3 ck31b3 dk31b3 ek31b3
def Tk31b6 : List Pt := [(0, 0), (1, 10), (26, 25), (18, 17), (20, 15), (19, 13), (5, 10), (25, 21), (10, 13), (27, 2), (13, 8), (11, 2), (6, 25), (2, 18), (30, 6), (4, 15), (15, 8), (3, 8), (28, 17), (7, 16), (24, 29), (16, 14), (16, 17), (24, 2), (7, 15), (28, 14), (3, 23), (15, 23), (4, 16), (30, 25), (2, 13), (6, 6), (11, 29), (13, 23), (27, 29), (10, 18), (25, 10), (5, 21), (19, 18), (20, 16), (18, 14), (26, 6), (1, 21)]
def Pk31b6 : List Pt := [(1, 10), (1, 21), (2, 18), (2, 13), (3, 8), (3, 23), (4, 16), (4, 15), (5, 10), (5, 21), (6, 25), (6, 6), (7, 16), (7, 15), (10, 18), (10, 13), (11, 2), (11, 29), (13, 8), (13, 23), (15, 8), (15, 23), (16, 14), (16, 17), (18, 14), (18, 17), (19, 18), (19, 13), (20, 16), (20, 15), (24, 2), (24, 29), (25, 10), (25, 21), (26, 25), (26, 6), (27, 2), (27, 29), (28, 14), (28, 17), (30, 25), (30, 6)]
theorem ak31b6 : ck1 31 6 43 Tk31b6 Pk31b6 5 25 6 36 = true := by decide +kernel
theorem bk31b6 : ck2 31 43 Tk31b6 = true := by decide +kernel
theorem ck31b6 : ck3 31 43 Tk31b6 = true := by decide +kernel
theorem dk31b6 : ck4 31 5 43 6 36 Tk31b6 = true := by decide +kernel
theorem ek31b6 : ck5 31 5 6 36 43 6 36 Tk31b6 = true := by decide +kernel
theorem sk31b6 : CS 31 6 := cs_of (by decide) (by decide) (by decide) ak31b6 bk31b6 ck31b6 dk31b6 ek31b6
def Tk31b17 : List Pt := [(0, 0), (1, 7), (2, 26), (17, 30), (21, 3), (14, 8), (5, 7), (25, 24), (9, 8), (6, 4), (7, 9), (30, 4), (10, 26), (8, 23), (19, 5), (29, 3), (20, 9), (4, 9), (23, 30), (12, 28), (26, 27), (22, 1), (22, 30), (26, 4), (12, 3), (23, 1), (4, 22), (20, 22), (29, 28), (19, 26), (8, 8), (10, 5), (30, 27), (7, 22), (6, 27), (9, 23), (25, 7), (5, 24), (14, 23), (21, 28), (17, 1), (2, 5), (1, 24)]
def Pk31b17 : List Pt := [(1, 7), (1, 24), (2, 5), (2, 26), (4, 9), (4, 22), (5, 7), (5, 24), (6, 4), (6, 27), (7, 9), (7, 22), (8, 8), (8, 23), (9, 8), (9, 23), (10, 5), (10, 26), (12, 28), (12, 3), (14, 8), (14, 23), (17, 1), (17, 30), (19, 5), (19, 26), (20, 9), (20, 22), (21, 28), (21, 3), (22, 1), (22, 30), (23, 1), (23, 30), (25, 7), (25, 24), (26, 4), (26, 27), (29, 28), (29, 3), (30, 4), (30, 27)]
theorem ak31b17 : ck1 31 17 43 Tk31b17 Pk31b17 5 25 6 36 = true := by decide +kernel
theorem bk31b17 : ck2 31 43 Tk31b17 = true := by decide +kernel
theorem ck31b17 : ck3 31 43 Tk31b17 = true := by decide +kernel
theorem dk31b17 : ck4 31 5 43 6 36 Tk31b17 = true := by decide +kernel
theorem ek31b17 : ck5 31 5 6 36 43 6 36 Tk31b17 = true := by decide +kernel
theorem sk31b17 : CS 31 17 := cs_of (by decide) (by decide) (by decide) ak31b17 bk31b17 ck31b17 dk31b17 ek31b17
def Tk31b12 : List Pt := [(0, 0), (2, 19), (4, 13), (3, 15), (11, 17), (28, 4), (10, 19), (19, 12), (18, 4), (12, 2), (14, 20), (29, 2), (20, 13), (16, 27), (7, 18), (27, 17), (9, 20), (8, 20), (15, 15), (24, 14), (21, 29), (13, 16), (13, 15), (21, 2), (24, 17), (15, 16), (8, 11), (9, 11), (27, 14), (7, 13), (16, 4), (20, 18), (29, 29), (14, 11), (12, 29), (18, 27), (19, 19), (10, 12), (28, 27), (11, 14), (3, 16), (4, 18), (2, 12)]
def Pk31b12 : List Pt := [(2, 19), (2, 12), (3, 16), (3, 15), (4, 18), (4, 13), (7, 18), (7, 13), (8, 20), (8, 11), (9, 20), (9, 11), (10, 19), (10, 12), (11, 14), (11, 17), (12, 2), (12, 29), (13, 16), (13, 15), (14, 20), (14, 11), (15, 16), (15, 15), (16, 4), (16, 27), (18, 4), (18, 27), (19, 19), (19, 12), (20, 18), (20, 13), (21, 2), (21, 29), (24, 14), (24, 17), (27, 14), (27, 17), (28, 4), (28, 27), (29, 2), (29, 29)]
theorem ak31b12 : ck1 31 12 43 Tk31b12 Pk31b12 5 25 6 36 = true := by decide +kernel
theorem bk31b12 : ck2 31 43 Tk31b12 = true := by decide +kernel
theorem ck31b12 : ck3 31 43 Tk31b12 = true := by decide +kernel
theorem dk31b12 : ck4 31 5 43 6 36 Tk31b12 = true := by decide +kernel
theorem ek31b12 : ck5 31 5 6 36 43 6 36 Tk31b12 = true := by decide +kernel
theorem sk31b12 : CS 31 12 := cs_of (by decide) (by decide) (by decide) ak31b12 bk31b12 ck31b12 dk31b12 ek31b12
def Tk31b24 : List Pt := [(0, 0), (1, 5), (17, 15), (10, 1), (29, 4), (8, 3), (5, 5), (25, 26), (14, 3), (3, 12), (16, 20), (15, 12), (23, 15), (9, 28), (22, 16), (12, 4), (28, 20), (18, 20), (19, 1), (21, 27), (13, 19), (2, 30), (2, 1), (13, 12), (21, 4), (19, 30), (18, 11), (28, 11), (12, 27), (22, 15), (9, 3), (23, 16), (15, 19), (16, 11), (3, 19), (14, 28), (25, 5), (5, 26), (8, 28), (29, 27), (10, 30), (17, 16), (1, 26)]
def Pk31b24 : List Pt := [(1, 5), (1, 26), (2, 1), (2, 30), (3, 19), (3, 12), (5, 5), (5, 26), (8, 28), (8, 3), (9, 28), (9, 3), (10, 1), (10, 30), (12, 4), (12, 27), (13, 19), (13, 12), (14, 28), (14, 3), (15, 19), (15, 12), (16, 20), (16, 11), (17, 16), (17, 15), (18, 20), (18, 11), (19, 1), (19, 30), (21, 4), (21, 27), (22, 16), (22, 15), (23, 16), (23, 15), (25, 5), (25, 26), (28, 20), (28, 11), (29, 4), (29, 27)]
theorem ak31b24 : ck1 31 24 43 Tk31b24 Pk31b24 5 25 6 36 = true := by decide +kernel
theorem bk31b24 : ck2 31 43 Tk31b24 = true := by decide +kernel
theorem ck31b24 : ck3 31 43 Tk31b24 = true := by decide +kernel
theorem dk31b24 : ck4 31 5 43 6 36 Tk31b24 = true := by decide +kernel
theorem ek31b24 : ck5 31 5 6 36 43 6 36 Tk31b24 = true := by decide +kernel
theorem sk31b24 : CS 31 24 := cs_of (by decide) (by decide) (by decide) ak31b24 bk31b24 ck31b24 dk31b24 ek31b24
def Tk43b7 : List Pt := [(0, 0), (2, 31), (7, 36), (35, 22), (21, 25), (12, 31), (29, 12), (25, 25), (32, 3), (20, 3), (42, 36), (40, 18), (37, 7), (13, 22), (34, 3), (38, 22), (38, 21), (34, 40), (13, 21), (37, 36), (40, 25), (42, 7), (20, 40), (32, 40), (25, 18), (29, 31), (12, 12), (21, 18), (35, 21), (7, 7), (2, 12)]
def Pk43b7 : List Pt := [(2, 31), (2, 12), (7, 36), (7, 7), (12, 31), (12, 12), (13, 21), (13, 22), (20, 40), (20, 3), (21, 25), (21, 18), (25, 25), (25, 18), (29, 31), (29, 12), (32, 40), (32, 3), (34, 40), (34, 3), (35, 21), (35, 22), (37, 36), (37, 7), (38, 21), (38, 22), (40, 25), (40, 18), (42, 36), (42, 7)]
theorem ak43b7 : ck1 43 7 31 Tk43b7 Pk43b7 6 36 5 25 = true := by decide +kernel
theorem bk43b7 : ck2 43 31 Tk43b7 = true := by decide +kernel
theorem ck43b7 : ck3 43 31 Tk43b7 = true := by decide +kernel
theorem dk43b7 : ck4 43 6 31 5 25 Tk43b7 = true := by decide +kernel
theorem ek43b7 : ck5 43 6 5 25 31 5 25 Tk43b7 = true := by decide +kernel
theorem sk43b7 : CS 43 7 := cs_of (by decide) (by decide) (by decide) ak43b7 bk43b7 ck43b7 dk43b7 ek43b7
def Tk43b18 : List Pt := [(0, 0), (5, 10), (39, 13), (23, 39), (31, 15), (30, 10), (8, 33), (41, 15), (37, 19), (7, 19), (19, 13), (14, 28), (28, 30), (11, 39), (42, 19), (9, 39), (9, 4), (42, 24), (11, 4), (28, 13), (14, 15), (19, 30), (7, 24), (37, 24), (41, 28), (8, 10), (30, 33), (31, 28), (23, 4), (39, 30), (5, 33)]
def Pk43b18 : List Pt := [(5, 10), (5, 33), (7, 24), (7, 19), (8, 10), (8, 33), (9, 4), (9, 39), (11, 4), (11, 39), (14, 15), (14, 28), (19, 13), (19, 30), (23, 4), (23, 39), (28, 13), (28, 30), (30, 10), (30, 33), (31, 15), (31, 28), (37, 24), (37, 19), (39, 13), (39, 30), (41, 15), (41, 28), (42, 24), (42, 19)]
theorem ak43b18 : ck1 43 18 31 Tk43b18 Pk43b18 6 36 5 25 = true := by decide +kernel
theorem bk43b18 : ck2 43 31 Tk43b18 = true := by decide +kernel
theorem ck43b18 : ck3 43 31 Tk43b18 = true := by decide +kernel
theorem dk43b18 : ck4 43 6 31 5 25 Tk43b18 = true := by decide +kernel
theorem ek43b18 : ck5 43 6 5 25 31 5 25 Tk43b18 = true := by decide +kernel
theorem sk43b18 : CS 43 18 := cs_of (by decide) (by decide) (by decide) ak43b18 bk43b18 ck43b18 dk43b18 ek43b18
def Tk43b29 : List Pt := [(0, 0), (3, 23), (32, 17), (31, 8), (10, 13), (18, 23), (22, 20), (16, 13), (5, 5), (30, 5), (20, 17), (17, 30), (34, 26), (41, 8), (8, 5), (14, 8), (14, 35), (8, 38), (41, 35), (34, 17), (17, 13), (20, 26), (30, 38), (5, 38), (16, 30), (22, 23), (18, 20), (10, 30), (31, 35), (32, 26), (3, 20)]
def Pk43b29 : List Pt := [(3, 23), (3, 20), (5, 38), (5, 5), (8, 38), (8, 5), (10, 13), (10, 30), (14, 35), (14, 8), (16, 13), (16, 30), (17, 13), (17, 30), (18, 23), (18, 20), (20, 17), (20, 26), (22, 23), (22, 20), (30, 38), (30, 5), (31, 35), (31, 8), (32, 17), (32, 26), (34, 17), (34, 26), (41, 35), (41, 8)]
theorem ak43b29 : ck1 43 29 31 Tk43b29 Pk43b29 6 36 5 25 = true := by decide +kernel
theorem bk43b29 : ck2 43 31 Tk43b29 = true := by decide +kernel
theorem ck43b29 : ck3 43 31 Tk43b29 = true := by decide +kernel
theorem dk43b29 : ck4 43 6 31 5 25 Tk43b29 = true := by decide +kernel
theorem ek43b29 : ck5 43 6 5 25 31 5 25 Tk43b29 = true := by decide +kernel
theorem sk43b29 : CS 43 29 := cs_of (by decide) (by decide) (by decide) ak43b29 bk43b29 ck43b29 dk43b29 ek43b29
def Tk43b34 : List Pt := [(0, 0), (1, 11), (34, 6), (19, 23), (33, 25), (6, 11), (36, 32), (27, 25), (13, 9), (35, 9), (32, 6), (26, 18), (20, 37), (39, 23), (38, 9), (28, 23), (28, 20), (38, 34), (39, 20), (20, 6), (26, 25), (32, 37), (35, 34), (13, 34), (27, 18), (36, 11), (6, 32), (33, 18), (19, 20), (34, 37), (1, 32)]
def Pk43b34 : List Pt := [(1, 11), (1, 32), (6, 11), (6, 32), (13, 9), (13, 34), (19, 23), (19, 20), (20, 6), (20, 37), (26, 25), (26, 18), (27, 25), (27, 18), (28, 23), (28, 20), (32, 6), (32, 37), (33, 25), (33, 18), (34, 6), (34, 37), (35, 9), (35, 34), (36, 11), (36, 32), (38, 9), (38, 34), (39, 23), (39, 20)]
theorem ak43b34 : ck1 43 34 31 Tk43b34 Pk43b34 6 36 5 25 = true := by decide +kernel
theorem bk43b34 : ck2 43 31 Tk43b34 = true := by decide +kernel
theorem ck43b34 : ck3 43 31 Tk43b34 = true := by decide +kernel
theorem dk43b34 : ck4 43 6 31 5 25 Tk43b34 = true := by decide +kernel
theorem ek43b34 : ck5 43 6 5 25 31 5 25 Tk43b34 = true := by decide +kernel
theorem sk43b34 : CS 43 34 := cs_of (by decide) (by decide) (by decide) ak43b34 bk43b34 ck43b34 dk43b34 ek43b34
def Tk43b26 : List Pt := [(0, 0), (3, 15), (9, 14), (37, 5), (26, 12), (18, 15), (22, 28), (33, 12), (4, 41), (24, 41), (11, 14), (27, 31), (23, 29), (42, 5), (15, 41), (7, 5), (7, 38), (15, 2), (42, 38), (23, 14), (27, 12), (11, 29), (24, 2), (4, 2), (33, 31), (22, 15), (18, 28), (26, 31), (37, 38), (9, 29), (3, 28)]
def Pk43b26 : List Pt := [(3, 15), (3, 28), (4, 41), (4, 2), (7, 38), (7, 5), (9, 14), (9, 29), (11, 14), (11, 29), (15, 41), (15, 2), (18, 15), (18, 28), (22, 15), (22, 28), (23, 14), (23, 29), (24, 41), (24, 2), (26, 31), (26, 12), (27, 31), (27, 12), (33, 31), (33, 12), (37, 38), (37, 5), (42, 38), (42, 5)]
theorem ak43b26 : ck1 43 26 31 Tk43b26 Pk43b26 6 36 5 25 = true := by decide +kernel
theorem bk43b26 : ck2 43 31 Tk43b26 = true := by decide +kernel
theorem ck43b26 : ck3 43 31 Tk43b26 = true := by decide +kernel
theorem dk43b26 : ck4 43 6 31 5 25 Tk43b26 = true := by decide +kernel
theorem ek43b26 : ck5 43 6 5 25 31 5 25 Tk43b26 = true := by decide +kernel
theorem sk43b26 : CS 43 26 := cs_of (by decide) (by decide) (by decide) ak43b26 bk43b26 ck43b26 dk43b26 ek43b26
def Tk43b28 : List Pt := [(0, 0), (2, 6), (40, 42), (15, 36), (27, 19), (12, 6), (29, 37), (26, 19), (30, 29), (8, 29), (25, 42), (33, 24), (21, 1), (24, 36), (5, 29), (4, 36), (4, 7), (5, 14), (24, 7), (21, 42), (33, 19), (25, 1), (8, 14), (30, 14), (26, 24), (29, 6), (12, 37), (27, 24), (15, 7), (40, 1), (2, 37)]
def Pk43b28 : List Pt := [(2, 6), (2, 37), (4, 36), (4, 7), (5, 14), (5, 29), (8, 14), (8, 29), (12, 6), (12, 37), (15, 36), (15, 7), (21, 1), (21, 42), (24, 36), (24, 7), (25, 1), (25, 42), (26, 24), (26, 19), (27, 24), (27, 19), (29, 6), (29, 37), (30, 14), (30, 29), (33, 24), (33, 19), (40, 1), (40, 42)]
theorem ak43b28 : ck1 43 28 31 Tk43b28 Pk43b28 6 36 5 25 = true := by decide +kernel
theorem bk43b28 : ck2 43 31 Tk43b28 = true := by decide +kernel
theorem ck43b28 : ck3 43 31 Tk43b28 = true := by decide +kernel
theorem dk43b28 : ck4 43 6 31 5 25 Tk43b28 = true := by decide +kernel
theorem ek43b28 : ck5 43 6 5 25 31 5 25 Tk43b28 = true := by decide +kernel
theorem sk43b28 : CS 43 28 := cs_of (by decide) (by decide) (by decide) ak43b28 bk43b28 ck43b28 dk43b28 ek43b28
def Tk43b30 : List Pt := [(0, 0), (1, 17), (22, 33), (12, 34), (10, 16), (6, 17), (36, 26), (16, 16), (39, 40), (19, 40), (3, 33), (17, 27), (18, 10), (2, 34), (28, 40), (29, 34), (29, 9), (28, 3), (2, 9), (18, 33), (17, 16), (3, 10), (19, 3), (39, 3), (16, 27), (36, 17), (6, 26), (10, 27), (12, 9), (22, 10), (1, 26)]
def Pk43b30 : List Pt := [(1, 17), (1, 26), (2, 9), (2, 34), (3, 10), (3, 33), (6, 17), (6, 26), (10, 16), (10, 27), (12, 9), (12, 34), (16, 16), (16, 27), (17, 16), (17, 27), (18, 10), (18, 33), (19, 40), (19, 3), (22, 10), (22, 33), (28, 40), (28, 3), (29, 9), (29, 34), (36, 17), (36, 26), (39, 40), (39, 3)]
theorem ak43b30 : ck1 43 30 31 Tk43b30 Pk43b30 6 36 5 25 = true := by decide +kernel
theorem bk43b30 : ck2 43 31 Tk43b30 = true := by decide +kernel
theorem ck43b30 : ck3 43 31 Tk43b30 = true := by decide +kernel
theorem dk43b30 : ck4 43 6 31 5 25 Tk43b30 = true := by decide +kernel
theorem ek43b30 : ck5 43 6 5 25 31 5 25 Tk43b30 = true := by decide +kernel
theorem sk43b30 : CS 43 30 := cs_of (by decide) (by decide) (by decide) ak43b30 bk43b30 ck43b30 dk43b30 ek43b30
theorem pure7x3 : PureAll 7 3 := pure_of (n := 6) (bs := [3]) (by decide) (by decide) (by decide +kernel) (by
  intro b hb
  simp only [List.mem_cons, List.not_mem_nil, or_false] at hb
  rcases hb with rfl
  · exact sk7b3)
theorem pure7x5 : PureAll 7 5 := pure_of (n := 6) (bs := [5]) (by decide) (by decide) (by decide +kernel) (by
  intro b hb
  simp only [List.mem_cons, List.not_mem_nil, or_false] at hb
  rcases hb with rfl
  · exact sk7b5)
theorem pure19x2 : PureAll 19 2 := pure_of (n := 18) (bs := [2, 14, 3]) (by decide) (by decide) (by decide +kernel) (by
  intro b hb
  simp only [List.mem_cons, List.not_mem_nil, or_false] at hb
  rcases hb with rfl | rfl | rfl
  · exact sk19b2
  · exact sk19b14
  · exact sk19b3)
theorem pure19x10 : PureAll 19 10 := pure_of (n := 18) (bs := [10, 13, 15]) (by decide) (by decide) (by decide +kernel) (by
  intro b hb
  simp only [List.mem_cons, List.not_mem_nil, or_false] at hb
  rcases hb with rfl | rfl | rfl
  · exact sk19b10
  · exact sk19b13
  · exact sk19b15)
theorem pure31x3 : PureAll 31 3 := pure_of (n := 30) (bs := [3, 6, 17, 12, 24]) (by decide) (by decide) (by decide +kernel) (by
  intro b hb
  simp only [List.mem_cons, List.not_mem_nil, or_false] at hb
  rcases hb with rfl | rfl | rfl | rfl | rfl
  · exact sk31b3
  · exact sk31b6
  · exact sk31b17
  · exact sk31b12
  · exact sk31b24)
theorem pure43x7 : PureAll 43 7 := pure_of (n := 42) (bs := [7, 18, 29, 34, 26, 28, 30]) (by decide) (by decide) (by decide +kernel) (by
  intro b hb
  simp only [List.mem_cons, List.not_mem_nil, or_false] at hb
  rcases hb with rfl | rfl | rfl | rfl | rfl | rfl | rfl
  · exact sk43b7
  · exact sk43b18
  · exact sk43b29
  · exact sk43b34
  · exact sk43b26
  · exact sk43b28
  · exact sk43b30)
end PartCurves
end Mine
-- part LA2
namespace Mine
theorem cells4 (ns : List Int) : ∃ c0 c1 c2 c3 : Int, ns.take 4 ++ ([4, 1, 5, -7] : List Int).drop (((ns.take 4).length : Int)).toNat = [c0, c1, c2, c3] := by
  match ns with
  | [] => exact ⟨4, 1, 5, -7, rfl⟩
  | [a] => exact ⟨a, 1, 5, -7, rfl⟩
  | [a, b] => exact ⟨a, b, 5, -7, rfl⟩
  | [a, b, c] => exact ⟨a, b, c, -7, rfl⟩
  | a :: b :: c :: d :: r => exact ⟨a, b, c, d, rfl⟩
theorem ints4 {ys : List Value} {a b c d : Int} (h : IntsAre ys [a, b, c, d]) : ∃ t1 t2 t3 t4, ys = [.int a t1, .int b t2, .int c t3, .int d t4] := by
  cases h with
  | cons _ t1 h =>
    cases h with
    | cons _ t2 h =>
      cases h with
      | cons _ t3 h =>
        cases h with
        | cons _ t4 h =>
          cases h
          exact ⟨_, _, _, _, rfl⟩
theorem news_nil {h₀ h : Heap} {L : Addr} {m : Str → Option Value} (_F : Fr h₀ L h m) : News h₀ L h [] := fun _ hp => nomatch hp
theorem news_a {h₀ h : Heap} {L : Addr} {cl x1 x2 x3 x4 mo po : Addr × Obj} (N : News h₀ L h [cl, x1, x2, x3, x4, mo, po]) : News h₀ L h [cl, mo, po] :=
  news_pick N (by intro q hq; simp only [List.mem_cons, List.not_mem_nil, or_false] at hq ⊢; rcases hq with rfl | rfl | rfl <;> simp)
theorem freshLA2 : True := by k_with_none; w_top off; trivial
end Mine
open Mine
local macro_rules | `(tactic| walk_at "pad 0") => `(tactic| fail "pad")
local macro_rules | `(tactic| walk_at "subscriptTail Name Slice ref ref") => `(tactic| (k_here; (with_reducible show wpAny _ _ (subscriptTail _ (PySem.Expr.Slice _ _ none _) (Value.ref _) (Value.ref _)) _ _ _); k_dflt (refine' kmk_slice_ints ?F ?N ?l ?p ?q ?i ?m ?c ?_ ?s ?t ?z; (case F => k_asm); (case N => k_asm); (case l => kmk_list); (case p => kmk_part); (case q => kmk_part); (case i => l_ints); (case m => first | exact kmk_upto (by l_ints) (by decide) | exact kmk_from (by l_ints) (by kmk_sign)); (case c => kmk_len); (case s => with_unfolding_all rfl); (case t => kmk_pure); (case z => kmk_size)); intro D' ws' h' F' N' l1 hI' hC' hL'; (try simp only [Int.reduceNeg, Int.neg_neg, Int.reduceToNat] at hI' hC' hL'); (try k_lt l1); (try k_sweep)))
local macro_rules | `(tactic| walk_at "call builtin:pow") => `(tactic| (k_here; k_dflt (refine' pow3R ?k1 ?k2 ?_; (case k1 => first | assumption | omega | exact fdiv4 (by assumption)); (case k2 => first | assumption | decide)); intro R' hR' hRl' hRh'; (try dsimp only)))
local macro_rules | `(tactic| k_steps) => `(tactic| repeat' ((fail_if_success (with_reducible show wpAny _ _ (execs (Stmt.Assign [PySem.Expr.Name _ ⟨79, _, _, _⟩] _ _ :: _) _) _ _ _)); first | (k_unfold; (try dsimp only)) | (k_end; wrow_close) | ((fail_if_success (with_reducible show wpAny _ _ (subscriptTail _ _ _ (Value.ref _)) _ _ _)); dsimp only; walk1) | walk1 | (leave1; walk_say "STEP leave1"; try dsimp only) | fail "no step"))
set_option maxHeartbeats 4000000
theorem PySem.Challenge.cw_bb0057_01_holds : PySem.Challenge.rw_bb0057_01.Holds :=
  hd (by
  k_go0
  (all_goals try k_fold)
  k_steps
  · rename IntsAre _ _ => hI
    obtain ⟨c0, c1, c2, c3, hc⟩ := cells4 _
    rw [hc] at hI
    obtain ⟨t0, t1, t2, t3, hws⟩ := ints4 hI
    subst hws
    rename (_ : Int) = pw3 _ _ _ => hR
    rw [hc] at hR
    subst hR
    rename Fr _ _ _ _ => lF
    rename News _ _ _ _ => lN
    obtain ⟨pts, e, e2, r0, r1, q1, q2, q3, q4, q5, q6, q7, q8, q9, q10⟩ := pure7x3 c1 c3
    rename Below _ _ _ _ => kB
    rename Frag.In _ _ => kX
    rename Top _ _ _ _ _ _ => kT
    have hP : WP 7 := by unfold WP; omega
    refine kst_canon [(Str.ofString "cells", .ref _), (Str.ofString "b", .int ((3 * pw3 (1 + c1.fmod (7 - 1)) 6 7).fmod 7) _)] lF (by kst_all) fun u2 F2 => ?_
    refine wpAny_mono (phB u2 kB kX kT (by decide) (by decide) F2 (news_a lN) (by omega) (by assumption) (by assumption) hP ⟨fm_lo hP.pos, fm_hi hP.pos⟩ q1 q2 q3 q4 q5 q6 q7 q8 q9 q10 ?_) (fun _ _ x => x) (fun _ _ x => x.elim)
    intro h9 tk9 m9 F9
    have N9 := news_nil F9
    k_steps
  · rename IntsAre _ _ => hI
    obtain ⟨c0, c1, c2, c3, hc⟩ := cells4 _
    rw [hc] at hI
    obtain ⟨t0, t1, t2, t3, hws⟩ := ints4 hI
    subst hws
    rename (_ : Int) = pw3 _ _ _ => hR
    rw [hc] at hR
    subst hR
    rename Fr _ _ _ _ => lF
    rename News _ _ _ _ => lN
    obtain ⟨pts, e, e2, r0, r1, q1, q2, q3, q4, q5, q6, q7, q8, q9, q10⟩ := pure7x5 c1 c3
    rename Below _ _ _ _ => kB
    rename Frag.In _ _ => kX
    rename Top _ _ _ _ _ _ => kT
    have hP : WP 7 := by unfold WP; omega
    refine kst_canon [(Str.ofString "cells", .ref _), (Str.ofString "b", .int ((5 * pw3 (1 + c1.fmod (7 - 1)) 6 7).fmod 7) _)] lF (by kst_all) fun u2 F2 => ?_
    refine wpAny_mono (phB u2 kB kX kT (by decide) (by decide) F2 (news_a lN) (by omega) (by assumption) (by assumption) hP ⟨fm_lo hP.pos, fm_hi hP.pos⟩ q1 q2 q3 q4 q5 q6 q7 q8 q9 q10 ?_) (fun _ _ x => x) (fun _ _ x => x.elim)
    intro h9 tk9 m9 F9
    have N9 := news_nil F9
    k_steps
  · rename IntsAre _ _ => hI
    obtain ⟨c0, c1, c2, c3, hc⟩ := cells4 _
    rw [hc] at hI
    obtain ⟨t0, t1, t2, t3, hws⟩ := ints4 hI
    subst hws
    rename (_ : Int) = pw3 _ _ _ => hR
    rw [hc] at hR
    subst hR
    rename Fr _ _ _ _ => lF
    rename News _ _ _ _ => lN
    obtain ⟨pts, e, e2, r0, r1, q1, q2, q3, q4, q5, q6, q7, q8, q9, q10⟩ := pure19x2 c1 c3
    rename Below _ _ _ _ => kB
    rename Frag.In _ _ => kX
    rename Top _ _ _ _ _ _ => kT
    have hP : WP 19 := by unfold WP; omega
    refine kst_canon [(Str.ofString "cells", .ref _), (Str.ofString "b", .int ((2 * pw3 (1 + c1.fmod (19 - 1)) 6 19).fmod 19) _)] lF (by kst_all) fun u2 F2 => ?_
    refine wpAny_mono (phB u2 kB kX kT (by decide) (by decide) F2 (news_a lN) (by omega) (by assumption) (by assumption) hP ⟨fm_lo hP.pos, fm_hi hP.pos⟩ q1 q2 q3 q4 q5 q6 q7 q8 q9 q10 ?_) (fun _ _ x => x) (fun _ _ x => x.elim)
    intro h9 tk9 m9 F9
    have N9 := news_nil F9
    k_steps
  · rename IntsAre _ _ => hI
    obtain ⟨c0, c1, c2, c3, hc⟩ := cells4 _
    rw [hc] at hI
    obtain ⟨t0, t1, t2, t3, hws⟩ := ints4 hI
    subst hws
    rename (_ : Int) = pw3 _ _ _ => hR
    rw [hc] at hR
    subst hR
    rename Fr _ _ _ _ => lF
    rename News _ _ _ _ => lN
    obtain ⟨pts, e, e2, r0, r1, q1, q2, q3, q4, q5, q6, q7, q8, q9, q10⟩ := pure19x10 c1 c3
    rename Below _ _ _ _ => kB
    rename Frag.In _ _ => kX
    rename Top _ _ _ _ _ _ => kT
    have hP : WP 19 := by unfold WP; omega
    refine kst_canon [(Str.ofString "cells", .ref _), (Str.ofString "b", .int ((10 * pw3 (1 + c1.fmod (19 - 1)) 6 19).fmod 19) _)] lF (by kst_all) fun u2 F2 => ?_
    refine wpAny_mono (phB u2 kB kX kT (by decide) (by decide) F2 (news_a lN) (by omega) (by assumption) (by assumption) hP ⟨fm_lo hP.pos, fm_hi hP.pos⟩ q1 q2 q3 q4 q5 q6 q7 q8 q9 q10 ?_) (fun _ _ x => x) (fun _ _ x => x.elim)
    intro h9 tk9 m9 F9
    have N9 := news_nil F9
    k_steps
  · rename IntsAre _ _ => hI
    obtain ⟨c0, c1, c2, c3, hc⟩ := cells4 _
    rw [hc] at hI
    obtain ⟨t0, t1, t2, t3, hws⟩ := ints4 hI
    subst hws
    rename (_ : Int) = pw3 _ _ _ => hR
    rw [hc] at hR
    subst hR
    rename Fr _ _ _ _ => lF
    rename News _ _ _ _ => lN
    obtain ⟨pts, e, e2, r0, r1, q1, q2, q3, q4, q5, q6, q7, q8, q9, q10⟩ := pure31x3 c1 c3
    rename Below _ _ _ _ => kB
    rename Frag.In _ _ => kX
    rename Top _ _ _ _ _ _ => kT
    have hP : WP 31 := by unfold WP; omega
    refine kst_canon [(Str.ofString "cells", .ref _), (Str.ofString "b", .int ((3 * pw3 (1 + c1.fmod (31 - 1)) 6 31).fmod 31) _)] lF (by kst_all) fun u2 F2 => ?_
    refine wpAny_mono (phB u2 kB kX kT (by decide) (by decide) F2 (news_a lN) (by omega) (by assumption) (by assumption) hP ⟨fm_lo hP.pos, fm_hi hP.pos⟩ q1 q2 q3 q4 q5 q6 q7 q8 q9 q10 ?_) (fun _ _ x => x) (fun _ _ x => x.elim)
    intro h9 tk9 m9 F9
    have N9 := news_nil F9
    k_steps
  · rename IntsAre _ _ => hI
    obtain ⟨c0, c1, c2, c3, hc⟩ := cells4 _
    rw [hc] at hI
    obtain ⟨t0, t1, t2, t3, hws⟩ := ints4 hI
    subst hws
    rename (_ : Int) = pw3 _ _ _ => hR
    rw [hc] at hR
    subst hR
    rename Fr _ _ _ _ => lF
    rename News _ _ _ _ => lN
    obtain ⟨pts, e, e2, r0, r1, q1, q2, q3, q4, q5, q6, q7, q8, q9, q10⟩ := pure43x7 c1 c3
    rename Below _ _ _ _ => kB
    rename Frag.In _ _ => kX
    rename Top _ _ _ _ _ _ => kT
    have hP : WP 43 := by unfold WP; omega
    refine kst_canon [(Str.ofString "cells", .ref _), (Str.ofString "b", .int ((7 * pw3 (1 + c1.fmod (43 - 1)) 6 43).fmod 43) _)] lF (by kst_all) fun u2 F2 => ?_
    refine wpAny_mono (phB u2 kB kX kT (by decide) (by decide) F2 (news_a lN) (by omega) (by assumption) (by assumption) hP ⟨fm_lo hP.pos, fm_hi hP.pos⟩ q1 q2 q3 q4 q5 q6 q7 q8 q9 q10 ?_) (fun _ _ x => x) (fun _ _ x => x.elim)
    intro h9 tk9 m9 F9
    have N9 := news_nil F9
    k_steps)
