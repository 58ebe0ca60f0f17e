import JvmDerived
import JvmDerived.Pilot.@@N@@Statement
import JvmDerived.Pilot.@@N@@Code
set_option linter.unusedVariables false
set_option linter.unusedSimpArgs false
namespace Jvm.RoadKit
open Sem ClassFile Op Lib Jvm.Stand Jvm.Free Jvm.LawKit
section New
variable {p : Program} {l : Launch} {e : Env} {R : Room} {s : State} {m : MethodId} {args : Array Value} {below : List Frame} {meth : Method} {c : Code} {T : State} {locs : List Loc} {cells slots : Nat}
theorem retI (X : Stand p l e R s m args below meth c T locs cells slots) (hx : p.tables.exec = Jvm.exec) {pc : Nat} {Ls : Array Slot} {z : Int32} {rest : List Value} (hret : meth.sig.returnType = some .int) (hd : decode c.code pc = .ok (.ireturn, 1)) {fs : List Frame}
    (hl : ∀ (f : JFrame) (acts : List Action), f.method = m → f.locked = none → f.entered = [] → (doReturn e (T.setTop f) acts (some (.int z))).1 = T.setFrames fs) : Steps p.tables e below (T.setTop (mkF m pc Ls (.int z :: rest))) (T.setFrames fs) := by
  have hm' : T.vm.method? m = some meth := X.method'
  have hn : narrow .int (.int z) = .int z := rfl
  show Steps p.tables e below (T.setTop { method := m, pc := pc, locals := Ls, stack := _ :: rest, locked := none }) _
  jvm_step X.here [X.here.top, hx, hd, hm', hret, hn]
  first | (intro acts; rw [hl _ acts rfl rfl rfl]) | rw [hl _ _ rfl rfl rfl]
  exact Steps.refl _
end New
end Jvm.RoadKit
namespace Jvm.Pilot.@@N@@.FV
open Jvm.FP.Core
/-- the datum is `i * 2^e` (a zero of either sign is 0) -/
def Val (i e : Int) : Datum → Prop
  | .fin s c q => signed s c * ((2 ^ (q - e).toNat : Nat) : Int) = i * ((2 ^ (e - q).toNat : Nat) : Int)
  | _ => False
theorem p2 (n : Nat) : (0 : Int) < ((2 ^ n : Nat) : Int) := by have := Nat.two_pow_pos n; omega
theorem p2ne (n : Nat) : ((2 ^ n : Nat) : Int) ≠ 0 := by have := p2 n; omega
theorem p2add (a b : Nat) : ((2 ^ (a + b) : Nat) : Int) = ((2 ^ a : Nat) : Int) * ((2 ^ b : Nat) : Int) := by rw [Nat.pow_add, Int.natCast_mul]
theorem units_int (s : Bool) (c : Nat) (q m : Int) : signed s (inUnits c q m) = signed s c * ((2 ^ (q - m).toNat : Nat) : Int) := by
  unfold inUnits; rw [signed_mul]
theorem val_iff {i e m : Int} {s : Bool} {c : Nat} {q : Int} (h1 : m ≤ q) (h2 : m ≤ e) :
    Val i e (.fin s c q) ↔ signed s c * ((2 ^ (q - m).toNat : Nat) : Int) = i * ((2 ^ (e - m).toNat : Nat) : Int) := by
  show signed s c * ((2 ^ (q - e).toNat : Nat) : Int) = i * ((2 ^ (e - q).toNat : Nat) : Int) ↔ _
  by_cases h : e ≤ q
  · rw [show (e - q).toNat = 0 by omega, show (q - m).toNat = (q - e).toNat + (e - m).toNat by omega, p2add, ← Int.mul_assoc]
    constructor
    · intro h3; rw [h3]; simp
    · intro h3; have := Int.eq_of_mul_eq_mul_right (p2ne _) h3; rw [this]; simp
  · rw [show (q - e).toNat = 0 by omega, show (e - m).toNat = (e - q).toNat + (q - m).toNat by omega, p2add, ← Int.mul_assoc]
    constructor
    · intro h3; rw [← h3]; simp
    · intro h3; have := Int.eq_of_mul_eq_mul_right (p2ne _) h3; rw [← this]; simp
theorem val_fin {i e : Int} {d : Datum} (h : Val i e d) : ∃ s c q, d = .fin s c q := by
  cases d with
  | nan => exact h.elim
  | inf => exact h.elim
  | fin s c q => exact ⟨s, c, q, rfl⟩
theorem val_ne_nan {i e : Int} {d : Datum} (h : Val i e d) : d ≠ .nan := by
  obtain ⟨s, c, q, rfl⟩ := val_fin h; exact Datum.noConfusion
theorem val_abs {i e : Int} {s : Bool} {c : Nat} {q : Int} (h : Val i e (.fin s c q)) : c * 2 ^ (q - e).toNat = i.natAbs * 2 ^ (e - q).toNat := by
  have := congrArg Int.natAbs (show signed s c * ((2 ^ (q - e).toNat : Nat) : Int) = i * ((2 ^ (e - q).toNat : Nat) : Int) from h)
  rw [Int.natAbs_mul, Int.natAbs_mul, natAbs_signed, Int.natAbs_natCast, Int.natAbs_natCast] at this
  exact this
theorem val_zero {i e : Int} {s : Bool} {c : Nat} {q : Int} (h : Val i e (.fin s c q)) : c = 0 ↔ i = 0 := by
  have h1 := val_abs h
  have p1 := Nat.two_pow_pos (q - e).toNat
  have p2 := Nat.two_pow_pos (e - q).toNat
  constructor
  · rintro rfl
    rw [Nat.zero_mul] at h1
    have := Nat.mul_eq_zero.mp h1.symm
    omega
  · rintro rfl
    rw [show (0 : Int).natAbs = 0 from rfl, Nat.zero_mul] at h1
    have := Nat.mul_eq_zero.mp h1
    omega
theorem val_sign {i e : Int} {s : Bool} {c : Nat} {q : Int} (h : Val i e (.fin s c q)) (hi : i ≠ 0) : s = decide (i < 0) := by
  have h' : signed s c * ((2 ^ (q - e).toNat : Nat) : Int) = i * ((2 ^ (e - q).toNat : Nat) : Int) := h
  have hc : 0 < c := by have := val_zero h; omega
  have a1 := p2 (q - e).toNat
  have a2 := p2 (e - q).toNat
  have h1 : decide (signed s c < 0) = s := signed_lt_zero s hc
  rw [← h1, decide_eq_decide]
  constructor
  · intro hlt
    have := Int.mul_neg_of_neg_of_pos hlt a1
    rw [h'] at this
    exact Int.lt_of_not_ge fun hge => by have := Int.mul_nonneg hge (Int.le_of_lt a2); omega
  · intro hlt
    have := Int.mul_neg_of_neg_of_pos hlt a2
    rw [← h'] at this
    exact Int.lt_of_not_ge fun hge => by have := Int.mul_nonneg hge (Int.le_of_lt a1); omega
theorem val_signed {i e : Int} {s : Bool} {c : Nat} {q : Int} (h : Val i e (.fin s c q)) : signed s i.natAbs = i := by
  by_cases hi : i = 0
  · rw [hi]; exact signed_zero s
  · rw [val_sign h hi]; unfold signed
    by_cases h : i < 0 <;> simp [h] <;> omega
theorem val_whole {i : Int} {d : Datum} : Val i 0 d ↔ Whole i d := by
  cases d with
  | nan => exact Iff.rfl
  | inf => exact Iff.rfl
  | fin s c q =>
    show signed s c * ((2 ^ (q - 0).toNat : Nat) : Int) = i * ((2 ^ (0 - q).toNat : Nat) : Int) ↔ signed s (c * 2 ^ q.toNat) = i * ((2 ^ (-q).toNat : Nat) : Int)
    rw [signed_mul, show (q - 0).toNat = q.toNat by omega, show (0 - q).toNat = (-q).toNat by omega]
theorem val_shift {i e : Int} {d : Datum} (k : Nat) : Val i e d ↔ Val (i * ((2 ^ k : Nat) : Int)) (e - k) d := by
  cases d with
  | nan => exact Iff.rfl
  | inf => exact Iff.rfl
  | fin s c q =>
    rw [val_iff (m := min q (e - k)) (by omega) (by omega), val_iff (m := min q (e - k)) (by omega) (by omega),
      show (e - min q (e - k)).toNat = k + (e - k - min q (e - k)).toNat by omega, p2add, Int.mul_assoc]
theorem val_zero_any {e e' : Int} {d : Datum} (h : Val 0 e d) : Val 0 e' d := by
  obtain ⟨s, c, q, rfl⟩ := val_fin h
  have := (val_zero h).mpr rfl
  subst this
  show signed s 0 * _ = 0 * _
  rw [signed_zero]; simp
theorem val_ofInt (i : Int) : Val i 0 (ofInt i) := val_whole.mpr (whole_ofInt i)
theorem val_sum {i j e : Int} {x y : Datum} (hx : Val i e x) (hy : Val j e y) : Val (i + j) e (exactSum x y) := by
  obtain ⟨s, c, q, rfl⟩ := val_fin hx
  obtain ⟨t, d, r, rfl⟩ := val_fin hy
  rw [val_iff (m := min (min q r) e) (by omega) (by omega)] at hx hy
  show Val (i + j) e (.fin (sumSign s t (sumUnits s c q t d r (min q r))) (sumUnits s c q t d r (min q r)).natAbs (min q r))
  rw [val_iff (m := min (min q r) e) (by omega) (by omega), signed_sumSign]
  unfold sumUnits
  rw [units_int, units_int, Int.add_mul, Int.add_mul, Int.mul_assoc, Int.mul_assoc, ← p2add, ← p2add,
    show (q - min q r).toNat + (min q r - min (min q r) e).toNat = (q - min (min q r) e).toNat by omega,
    show (r - min q r).toNat + (min q r - min (min q r) e).toNat = (r - min (min q r) e).toNat by omega, hx, hy]
theorem val_neg {i e : Int} {x : Datum} (hx : Val i e x) : Val (-i) e (negate x) := by
  obtain ⟨s, c, q, rfl⟩ := val_fin hx
  have h : signed s c * ((2 ^ (q - e).toNat : Nat) : Int) = i * ((2 ^ (e - q).toNat : Nat) : Int) := hx
  show signed (!s) c * ((2 ^ (q - e).toNat : Nat) : Int) = -i * ((2 ^ (e - q).toNat : Nat) : Int)
  rw [signed_not, Int.neg_mul, Int.neg_mul, h]
theorem val_prod {i j e g : Int} {x y : Datum} (hx : Val i e x) (hy : Val j g y) : Val (i * j) (e + g) (exactProduct x y) := by
  obtain ⟨s, c, q, rfl⟩ := val_fin hx
  obtain ⟨t, d, r, rfl⟩ := val_fin hy
  rw [val_iff (m := min q e) (by omega) (by omega)] at hx
  rw [val_iff (m := min r g) (by omega) (by omega)] at hy
  show Val (i * j) (e + g) (.fin (s != t) (c * d) (q + r))
  rw [val_iff (m := min q e + min r g) (by omega) (by omega), signed_xor,
    show (q + r - (min q e + min r g)).toNat = (q - min q e).toNat + (r - min r g).toNat by omega,
    show (e + g - (min q e + min r g)).toNat = (e - min q e).toNat + (g - min r g).toNat by omega, p2add, p2add]
  calc signed s c * signed t d * (((2 ^ (q - min q e).toNat : Nat) : Int) * ((2 ^ (r - min r g).toNat : Nat) : Int))
      = (signed s c * ((2 ^ (q - min q e).toNat : Nat) : Int)) * (signed t d * ((2 ^ (r - min r g).toNat : Nat) : Int)) := by ac_rfl
    _ = _ := by rw [hx, hy]; ac_rfl
/-- a number of at most p digits, its exponent in range, rounds to itself -/
theorem val_round {f : Fmt} (hf : Good f) {i e : Int} {x : Datum} (hx : Val i e x) (hi : i.natAbs < 2 ^ f.p) (h1 : f.qmin ≤ e) (h2 : e ≤ f.qmax) : Val i e (round f x) := by
  obtain ⟨s, c, q, rfl⟩ := val_fin hx
  have ha := val_abs hx
  have hs := val_signed hx
  have e1 : round f (.fin s c q) = round f (.fin s i.natAbs e) := roundRatio_congr (by decide) (by decide) (by simpa using ha)
  obtain ⟨c', q', h3, h4⟩ := round_exact hf s hi h1 h2
  have hfit := round_fits hf (.fin s i.natAbs e)
  rw [e1]
  rw [h3] at hfit ⊢
  rw [val_iff (m := f.qmin) hfit.2.1 h1, ← units_int, h4, units_int, hs]
theorem val_order {i j e : Int} {x y : Datum} (hx : Val i e x) (hy : Val j e y) : order x y = some (compare i j) := by
  obtain ⟨s, c, q, rfl⟩ := val_fin hx
  obtain ⟨t, d, r, rfl⟩ := val_fin hy
  rw [val_iff (m := min (min q r) e) (by omega) (by omega)] at hx hy
  show some (compare (signed s (inUnits c q (min q r))) (signed t (inUnits d r (min q r)))) = _
  rw [← compare_mul_pos (signed s _) _ _ (p2 (min q r - min (min q r) e).toNat), units_int, units_int, Int.mul_assoc, Int.mul_assoc, ← p2add, ← p2add,
    show (q - min q r).toNat + (min q r - min (min q r) e).toNat = (q - min (min q r) e).toNat by omega,
    show (r - min q r).toNat + (min q r - min (min q r) e).toNat = (r - min (min q r) e).toNat by omega, hx, hy, compare_mul_pos _ _ _ (p2 _)]
theorem scale_eq {X Y P N t : Nat} (h : X * 2 ^ (P + t) = Y * 2 ^ (N + t)) : X * 2 ^ P = Y * 2 ^ N := by
  rw [Nat.pow_add, Nat.pow_add, ← Nat.mul_assoc, ← Nat.mul_assoc] at h
  exact Nat.eq_of_mul_eq_mul_right (Nat.two_pow_pos t) h
theorem ratio_cross {c d n m : Nat} {q r e g : Int} (hx : c * 2 ^ (q - e).toNat = n * 2 ^ (e - q).toNat) (hy : d * 2 ^ (r - g).toNat = m * 2 ^ (g - r).toNat) :
    c * m * 2 ^ ((q - r) - (e - g)).toNat = n * d * 2 ^ ((e - g) - (q - r)).toNat := by
  have e1 : c * m * 2 ^ ((q - e).toNat + (g - r).toNat) = n * d * 2 ^ ((e - q).toNat + (r - g).toNat) := by
    rw [Nat.pow_add, Nat.pow_add]
    calc c * m * (2 ^ (q - e).toNat * 2 ^ (g - r).toNat) = (c * 2 ^ (q - e).toNat) * (m * 2 ^ (g - r).toNat) := by ac_rfl
      _ = (n * 2 ^ (e - q).toNat) * (d * 2 ^ (r - g).toNat) := by rw [hx, hy]
      _ = _ := by ac_rfl
  have k : ((q - e).toNat : Int) + (g - r).toNat - ((e - q).toNat + (r - g).toNat) = (q - r) - (e - g) := by omega
  refine scale_eq (t := min ((q - e).toNat + (g - r).toNat) ((e - q).toNat + (r - g).toNat)) ?_
  rw [show ((q - r) - (e - g)).toNat + min ((q - e).toNat + (g - r).toNat) ((e - q).toNat + (r - g).toNat) = (q - e).toNat + (g - r).toNat by omega,
    show ((e - g) - (q - r)).toNat + min ((q - e).toNat + (g - r).toNat) ((e - q).toNat + (r - g).toNat) = (e - q).toNat + (r - g).toNat by omega]
  exact e1
/-- a quotient is the rounding of the ratio of the two values -/
theorem quot_ratio {f : Fmt} {s t : Bool} {c d : Nat} {q r i j e g : Int} (hx : Val i e (.fin s c q)) (hy : Val j g (.fin t d r)) (hj : j ≠ 0) :
    quotient f (.fin s c q) (.fin t d r) = roundRatio f (s != t) i.natAbs j.natAbs (e - g) := by
  have hd : d ≠ 0 := fun z => hj ((val_zero hy).mp z)
  show (if d = 0 then _ else roundRatio f (s != t) c d (q - r)) = _
  rw [if_neg hd]
  exact roundRatio_congr (by omega) (by omega) (ratio_cross (val_abs hx) (val_abs hy))
theorem val_quot {f : Fmt} (hf : Good f) {i j k e g : Int} {x y : Datum} (hx : Val i e x) (hy : Val j g y) (hj : j ≠ 0) (hk : i = k * j) (hb : k.natAbs < 2 ^ f.p) (h1 : f.qmin ≤ e - g) (h2 : e - g ≤ f.qmax) : Val k (e - g) (quotient f x y) := by
  obtain ⟨s, c, q, rfl⟩ := val_fin hx
  obtain ⟨t, d, r, rfl⟩ := val_fin hy
  rw [quot_ratio hx hy hj]
  have hv : Val k (e - g) (.fin (s != t) k.natAbs (e - g)) := by
    show signed (s != t) k.natAbs * _ = k * _
    congr 1
    by_cases h0 : k = 0
    · rw [h0]; exact signed_zero _
    · have hi : i ≠ 0 := by rw [hk]; exact Int.mul_ne_zero h0 hj
      rw [val_sign hx hi, val_sign hy hj, hk]
      have q : (decide (k * j < 0) != decide (j < 0)) = decide (k < 0) := by
        rcases Int.lt_or_gt_of_ne hj with hj | hj <;> rcases Int.lt_or_gt_of_ne h0 with h0 | h0
        · have := Int.mul_pos_of_neg_of_neg h0 hj
          rw [decide_eq_false (show ¬ k * j < 0 by omega), decide_eq_true hj, decide_eq_true h0]; rfl
        · have := Int.mul_neg_of_pos_of_neg h0 hj
          rw [decide_eq_true this, decide_eq_true hj, decide_eq_false (show ¬ k < 0 by omega)]; rfl
        · have := Int.mul_neg_of_neg_of_pos h0 hj
          rw [decide_eq_true this, decide_eq_false (show ¬ j < 0 by omega), decide_eq_true h0]; rfl
        · have := Int.mul_pos h0 hj
          rw [decide_eq_false (show ¬ k * j < 0 by omega), decide_eq_false (show ¬ j < 0 by omega), decide_eq_false (show ¬ k < 0 by omega)]; rfl
      rw [q]; unfold signed
      by_cases h : k < 0 <;> simp [h] <;> omega
  have e1 : roundRatio f (s != t) i.natAbs j.natAbs (e - g) = round f (.fin (s != t) k.natAbs (e - g)) := by
    refine roundRatio_congr (by omega) (by decide) ?_
    rw [hk, Int.natAbs_mul]; simp
  rw [e1]
  exact val_round hf hv hb h1 h2
/-! on the bits of a double -/
def DV (i e : Int) (a : UInt64) : Prop := Val i e (val64 a)
theorem DV.fin {i e : Int} {a : UInt64} (h : DV i e a) : DFin a := val_fin h
theorem DV.fin64 {i e : Int} {a : UInt64} (h : DV i e a) : Jvm.Free.Fl.Fin64 a := Jvm.Free.Fl.fin64_core.mpr h.fin
theorem DV.nn {i e : Int} {a : UInt64} (h : DV i e a) : Jvm.Free.Fl.NoNaN64 a := h.fin64.noNaN
theorem dv_lit {i e : Int} {a : UInt64} (s : Bool) (c : Nat) (q : Int) (h1 : val64 a = .fin s c q) (h2 : signed s c * ((2 ^ (q - e).toNat : Nat) : Int) = i * ((2 ^ (e - q).toNat : Nat) : Int)) : DV i e a := by
  unfold DV; rw [h1]; exact h2
theorem dv_int {i : Int} {a : UInt64} : DV i 0 a ↔ DInt i a := val_whole
theorem dv_shift {i e : Int} {a : UInt64} (k : Nat) : DV i e a ↔ DV (i * ((2 ^ k : Nat) : Int)) (e - k) a := val_shift k
theorem dv_add {i j e : Int} {a b : UInt64} (ha : DV i e a) (hb : DV j e b) (h : (i + j).natAbs < 2 ^ 53) (h1 : -1074 ≤ e) (h2 : e ≤ 971) : DV (i + j) e (FP.dadd a b) := by
  unfold DV; rw [show FP.dadd a b = dadd a b from rfl, val64_dadd]; exact val_round good_b64 (val_sum ha hb) h h1 h2
theorem dv_sub {i j e : Int} {a b : UInt64} (ha : DV i e a) (hb : DV j e b) (h : (i - j).natAbs < 2 ^ 53) (h1 : -1074 ≤ e) (h2 : e ≤ 971) : DV (i - j) e (FP.dsub a b) := by
  unfold DV; rw [show FP.dsub a b = dsub a b from rfl, val64_dsub]; exact val_round good_b64 (val_sum ha (val_neg hb)) h h1 h2
theorem dv_mul {i j e g : Int} {a b : UInt64} (ha : DV i e a) (hb : DV j g b) (h : (i * j).natAbs < 2 ^ 53) (h1 : -1074 ≤ e + g) (h2 : e + g ≤ 971) : DV (i * j) (e + g) (FP.dmul a b) := by
  unfold DV; rw [show FP.dmul a b = dmul a b from rfl, val64_dmul]; exact val_round good_b64 (val_prod ha hb) h h1 h2
theorem dv_div {i j k e g : Int} {a b : UInt64} (ha : DV i e a) (hb : DV j g b) (hj : j ≠ 0) (hk : i = k * j) (h : k.natAbs < 2 ^ 53) (h1 : -1074 ≤ e - g) (h2 : e - g ≤ 971) : DV k (e - g) (FP.ddiv a b) := by
  unfold DV; rw [show FP.ddiv a b = ddiv a b from rfl, val64_ddiv]; exact val_quot good_b64 ha hb hj hk h h1 h2
theorem dv_cmp {i j e : Int} {a b : UInt64} (ha : DV i e a) (hb : DV j e b) : FP.dcmp a b = some (compare i j) := val_order ha hb
theorem dv_i2d (n : Int32) : DV n.toInt 0 (FP.i2d n) := dv_int.mpr (i2d_int n)
theorem dv_l2d {n : Int64} (h : n.toInt.natAbs ≤ 2 ^ 53) : DV n.toInt 0 (FP.l2d n) := dv_int.mpr (l2d_int h)
/-- what dcmpl and dcmpg push -/
theorem cv_eq {i j e : Int} {a b : UInt64} (ha : DV i e a) (hb : DV j e b) (o : Jvm.ClassFile.CmpOp) (h : i = j) : Jvm.Op.cmpValue (FP.dcmp a b) o = 0 := by
  rw [dv_cmp ha hb, (compare_eq_iff i j).mpr h]; cases o <;> rfl
theorem cv_lt {i j e : Int} {a b : UInt64} (ha : DV i e a) (hb : DV j e b) (o : Jvm.ClassFile.CmpOp) (h : i < j) : Jvm.Op.cmpValue (FP.dcmp a b) o = -1 := by
  rw [dv_cmp ha hb, (compare_lt_iff i j).mpr h]; cases o <;> rfl
theorem cv_gt {i j e : Int} {a b : UInt64} (ha : DV i e a) (hb : DV j e b) (o : Jvm.ClassFile.CmpOp) (h : j < i) : Jvm.Op.cmpValue (FP.dcmp a b) o = 1 := by
  rw [dv_cmp ha hb, (compare_gt_iff i j).mpr h]; cases o <;> rfl
theorem cv_neg {i j e : Int} {a b : UInt64} (ha : DV i e a) (hb : DV j e b) (o : Jvm.ClassFile.CmpOp) : (Jvm.Op.cmpValue (FP.dcmp a b) o < (0 : Int32)) ↔ i < j := by
  rcases Int.lt_trichotomy i j with h | h | h
  · rw [cv_lt ha hb o h]; exact ⟨fun _ => h, fun _ => by decide⟩
  · rw [cv_eq ha hb o h]; exact ⟨fun z => absurd z (by decide), fun z => by omega⟩
  · rw [cv_gt ha hb o h]; exact ⟨fun z => absurd z (by decide), fun z => by omega⟩
theorem cv_pos {i j e : Int} {a b : UInt64} (ha : DV i e a) (hb : DV j e b) (o : Jvm.ClassFile.CmpOp) : ((0 : Int32) < Jvm.Op.cmpValue (FP.dcmp a b) o) ↔ j < i := by
  rcases Int.lt_trichotomy i j with h | h | h
  · rw [cv_lt ha hb o h]; exact ⟨fun z => absurd z (by decide), fun z => by omega⟩
  · rw [cv_eq ha hb o h]; exact ⟨fun z => absurd z (by decide), fun z => by omega⟩
  · rw [cv_gt ha hb o h]; exact ⟨fun _ => h, fun _ => by decide⟩
theorem dv_neg {i e : Int} {a : UInt64} (ha : DV i e a) : DV (-i) e (FP.dneg a) := by
  unfold DV; rw [Jvm.FP.val64_dneg]; exact val_neg ha
end Jvm.Pilot.@@N@@.FV
namespace Jvm.Pilot.@@N@@
open Jvm Jvm.ClassFile Sem Op Lib Jvm.Free Jvm.Stand Jvm.LawKit Jvm.RoadKit Bundle Jvm.Pilot.@@N@@.Jvm.D
theorem d2_0 : decode jdk_30_method_1_code 0 = .ok (.aload_n 0, 1) := by decide +kernel
theorem d2_1 : decode jdk_30_method_1_code 1 = .ok (.invokespecial 1, 3) := by decide +kernel
theorem d2_4 : decode jdk_30_method_1_code 4 = .ok (.return_, 1) := by decide +kernel
theorem pn_2 : plainName "java/lang/Record" = true := by first | (simp [plainName, overriddenIn]; done) | decide +kernel
theorem ef_rm2 (m : MethodId) (x0 : Addr) : entryFrame m #[(.ref x0)] 1 = mkF m 0 #[.val (.ref x0)] [] := by first | (simp [entryFrame, mkF, argsToLocals, Value.category]; done) | rfl
def Q_rm2 (Z : State) (a : Addr) (h0 : Heap) (n0 : Nat) (v : Option Value) (h : Heap) (L : List Loc) : Prop := v = none ∧ Fr n0 L ∧ h = h0
set_option maxRecDepth 65536 in
set_option maxHeartbeats 40000000 in
theorem rm2 (l : Launch) (Z : State) (a0 : Array Value) (hw : ∀ d ∈ tables_1, d.before a0 Z = true) (ws : List Jvm.Cond) (a : Addr) (h0 : Heap) (n0 : Nat) (Z0 : n0 ≤ h0.size) :
    MetFree l (⟨"java/lang/Record", "<init>", "()V"⟩ : MethodName) (head1 (Jvm.Cond.code (⟨"java/lang/Record", "<init>", "()V"⟩ : MethodName) jdk_30_method_1_code 1 none :: ws) ({ frames := 1, cells := 0, slots := 0, locals := 12 } : Room)) (fun av U => av = #[(.ref a)] ∧ Z.Warmed39 U.vm ∧ U.heap = h0) (fun _ _ _ _ _ => True) (fun _ U o U' => ∃ v L, o = .returned v ∧ Q_rm2 Z a h0 n0 v U'.heap L ∧ FrameEnd U o U' L ({ frames := 1, cells := 0, slots := 0, locals := 12 } : Room).cells ({ frames := 1, cells := 0, slots := 0, locals := 12 } : Room).slots) := by
  refine MetFree.of_bodySF (plainFor_of_name pn_2) hisR ?_
  intro p e s m args below meth c s₁ Bd hml0 hP hK
  obtain ⟨rfl, hZ, hh⟩ := hP
  have hx := Bd.exec
  have hby := Bd.bytes
  have hml : c.maxLocals = 1 := hml0
  have hown : s.vm.findClass "java/lang/Record" = some m.cls := findClass_of_methodNamed Bd.named
  have hnm := (name_of_methodNamed Bd.named Bd.method).1
  have X0 : Stand p l e ({ frames := 1, cells := 0, slots := 0, locals := 12 } : Room) s m #[(.ref a)] below meth c s₁ [] 0 0 := Stand.of_body Bd
  have e0 : s₁.heap = h0 := by rw [← hh, Bd.state]; rfl
  have N0 := Fr.nil n0
  have pre0 : ∀ t, Steps p.tables e below (s₁.setTop (mkF m 0 #[.val (.ref a)] [])) t → Steps p.tables e below (s₁.setTop (entryFrame m #[(.ref a)] 1)) t := fun t k => castTop (ef_rm2 m a) k
  have sg1 : ∀ target, Steps p.tables e below (s₁.setTop (mkF m 1 #[.val (.ref a)] [(.ref a)])) target → Steps p.tables e below (s₁.setTop (mkF m 0 #[.val (.ref a)] [])) target := by
    intro target kt
    show Steps p.tables e below (s₁.setTop (mkF m 0 #[.val (.ref a)] [])) _
    refine XS.aloadN X0.here hx rfl (hb hby d2_0) rfl rfl ?_
    exact kt
  obtain ⟨T2, X2, e2, st2⟩ := initO X0 hx hZ hown (hw _ (List.mem_of_getElem? (i := 16) rfl)) (hw _ (List.mem_of_getElem? (i := 17) rfl)) (hw _ (List.mem_of_getElem? (i := 18) rfl)) e0 (g := (mkF m 1 #[.val (.ref a)] [(.ref a)])) rfl (by rw [hml]; rfl) rfl (hb hby d2_1) (by decide) (W := 0) (by show 2 * 0 + _ ≤ _; exact Nat.le_of_eq rfl) (by decide)
  obtain ⟨fs, hr, hrun, hended, hW, hsame⟩ := X2.leave (v := none) (fun _ => rfl)
  refine ⟨_, _, pre0 _ ?_, hrun, hended, _, _, rfl, ?_, ⟨_, rfl⟩, hW, hsame.mono (by decide) (by decide)⟩
  · show Steps p.tables e below (s₁.setTop (mkF m 0 #[.val (.ref a)] [])) _
    refine sg1 _ ?_
    refine st2 _ ?_
    show Steps p.tables e below (T2.setTop (mkF m 4 #[.val (.ref a)] [])) _
    exact X2.returnOut hx Bd.returns (hb hby d2_4) hr
  · show Q_rm2 Z a h0 n0 _ T2.heap _
    rw [e2]
    exact ⟨rfl, N0, rfl⟩
theorem d1_0 : decode prog_26_method_1_code 0 = .ok (.aload_n 0, 1) := by decide +kernel
theorem d1_1 : decode prog_26_method_1_code 1 = .ok (.invokespecial 1, 3) := by decide +kernel
theorem pd_1 : parseMethodDescriptor "()V" = some ⟨[], none⟩ := by decide +kernel
theorem d1_4 : decode prog_26_method_1_code 4 = .ok (.aload_n 0, 1) := by decide +kernel
theorem d1_5 : decode prog_26_method_1_code 5 = .ok (.iload_n 1, 1) := by decide +kernel
theorem d1_6 : decode prog_26_method_1_code 6 = .ok (.putfield 7, 3) := by decide +kernel
theorem d1_9 : decode prog_26_method_1_code 9 = .ok (.aload_n 0, 1) := by decide +kernel
theorem d1_10 : decode prog_26_method_1_code 10 = .ok (.dload_n 2, 1) := by decide +kernel
theorem d1_11 : decode prog_26_method_1_code 11 = .ok (.putfield 13, 3) := by decide +kernel
theorem d1_14 : decode prog_26_method_1_code 14 = .ok (.return_, 1) := by decide +kernel
theorem pn_1 : plainName "com/example/runs_to_risk/runstorisk/anb/Threshold" = true := by first | (simp [plainName, overriddenIn]; done) | decide +kernel
theorem ef_rm1 (m : MethodId) (x0 : Addr) (x1 : Int32) (x2 : UInt64) : entryFrame m #[(.ref x0), (.int x1), (.double x2)] 4 = mkF m 0 #[.val (.ref x0), .val (.int x1), .val (.double x2), .second] [] := by first | (simp [entryFrame, mkF, argsToLocals, Value.category]; done) | rfl
def Q_rm1 (Z : State) (a : Addr) (z : Int32) (x : UInt64) (h0 : Heap) (n0 : Nat) (v : Option Value) (h : Heap) (L : List Loc) : Prop := v = none ∧ Fr n0 L ∧ Keep h0 h [a] ∧ Exa Z h a "com/example/runs_to_risk/runstorisk/anb/Threshold" ∧ Fld Z h a "com/example/runs_to_risk/runstorisk/anb/Threshold" "strict" "Z" (.int (nar .boolean z)) ∧ Fld Z h a "com/example/runs_to_risk/runstorisk/anb/Threshold" "probability" "D" (.double x)
set_option maxRecDepth 65536 in
set_option maxHeartbeats 40000000 in
theorem rm1 (l : Launch) (Z : State) (a0 : Array Value) (hw : ∀ d ∈ tables_1, d.before a0 Z = true) (ws : List Jvm.Cond) (a : Addr) (z : Int32) (x : UInt64) (h0 : Heap) (n0 : Nat) (Z0 : n0 ≤ h0.size) (E_a : Exa Z h0 a "com/example/runs_to_risk/runstorisk/anb/Threshold") (F1 : Fld Z h0 a "com/example/runs_to_risk/runstorisk/anb/Threshold" "strict" "Z" (.int (0 : Int32))) (F2 : Fld Z h0 a "com/example/runs_to_risk/runstorisk/anb/Threshold" "probability" "D" (.double (0 : UInt64))) (g_a : n0 ≤ a) :
    MetFree l (⟨"com/example/runs_to_risk/runstorisk/anb/Threshold", "<init>", "(ZD)V"⟩ : MethodName) (head1 (Jvm.Cond.code (⟨"com/example/runs_to_risk/runstorisk/anb/Threshold", "<init>", "(ZD)V"⟩ : MethodName) prog_26_method_1_code 4 none :: ws) ({ frames := 2, cells := 0, slots := 0, locals := 24 } : Room)) (fun av U => av = #[(.ref a), (.int z), (.double x)] ∧ Z.Warmed39 U.vm ∧ U.heap = h0) (fun _ _ _ _ _ => True) (fun _ U o U' => ∃ v L, o = .returned v ∧ Q_rm1 Z a z x h0 n0 v U'.heap L ∧ FrameEnd U o U' L ({ frames := 2, cells := 0, slots := 0, locals := 24 } : Room).cells ({ frames := 2, cells := 0, slots := 0, locals := 24 } : Room).slots) := by
  refine MetFree.of_bodySF (plainFor_of_name pn_1) hisR ?_
  intro p e s m args below meth c s₁ Bd hml0 hP hK
  obtain ⟨rfl, hZ, hh⟩ := hP
  have hx := Bd.exec
  have hby := Bd.bytes
  have hml : c.maxLocals = 4 := hml0
  have hown : s.vm.findClass "com/example/runs_to_risk/runstorisk/anb/Threshold" = some m.cls := findClass_of_methodNamed Bd.named
  have hnm := (name_of_methodNamed Bd.named Bd.method).1
  have X0 : Stand p l e ({ frames := 2, cells := 0, slots := 0, locals := 24 } : Room) s m #[(.ref a), (.int z), (.double x)] below meth c s₁ [] 0 0 := Stand.of_body Bd
  have e0 : s₁.heap = h0 := by rw [← hh, Bd.state]; rfl
  have N0 := Fr.nil n0
  have pre0 : ∀ t, Steps p.tables e below (s₁.setTop (mkF m 0 #[.val (.ref a), .val (.int z), .val (.double x), .second] [])) t → Steps p.tables e below (s₁.setTop (entryFrame m #[(.ref a), (.int z), (.double x)] 4)) t := fun t k => castTop (ef_rm1 m a z x) k
  have sg1 : ∀ target, Steps p.tables e below (s₁.setTop (mkF m 1 #[.val (.ref a), .val (.int z), .val (.double x), .second] [(.ref a)])) target → Steps p.tables e below (s₁.setTop (mkF m 0 #[.val (.ref a), .val (.int z), .val (.double x), .second] [])) target := by
    intro target kt
    show Steps p.tables e below (s₁.setTop (mkF m 0 #[.val (.ref a), .val (.int z), .val (.double x), .second] [])) _
    refine XS.aloadN X0.here hx rfl (hb hby d1_0) rfl rfl ?_
    exact kt
  obtain ⟨_, _, ⟨T2, L2, k2, n2⟩, -, X2, ⟨Lc2, hQ2, l2, y2, z2⟩, st2⟩ := X0.specialBack hx (y := (⟨"java/lang/Record", "<init>", "()V"⟩ : MethodName)) rfl hown (mvT hZ (hw _ (List.mem_of_getElem? (i := 11) rfl))) (mvT hZ (hw _ (List.mem_of_getElem? (i := 12) rfl))) (mvT hZ (hw _ (List.mem_of_getElem? (i := 15) rfl))) (by decide) (backOf (W := 0) (rm2 l Z a0 hw [] a h0 n0 Z0 ) hZ (hw _ (List.mem_of_getElem? (i := 15) rfl)) (hw _ (List.mem_of_getElem? (i := 14) rfl)) (by decide) (by decide)) (g := (mkF m 1 #[.val (.ref a), .val (.int z), .val (.double x), .second] [(.ref a)])) rfl (by rw [hml]; rfl) (Steps.refl _) (a := a) (argsL := []) (rest := []) (lenOf pd_1 rfl) rfl (by show 2 * 0 + _ ≤ _; exact Nat.le_of_eq rfl) (hb hby d1_1) (fun _ _ => ⟨rfl, e0, (by decide : 0 + 0 ≤ _), (by decide : 0 + 0 ≤ _)⟩)
  dsimp only [Pt.U, Pt.locs, Pt.cells, Pt.slots] at X2 l2 y2 z2 st2 hQ2
  subst l2 y2 z2
  obtain ⟨rfl, N2q, c2_0⟩ := hQ2
  have N2 := Fr.app N0 N2q
  have sg3 : ∀ target, Steps p.tables e below (T2.setTop (mkF m 6 #[.val (.ref a), .val (.int z), .val (.double x), .second] [(.int z), (.ref a)])) target → Steps p.tables e below (T2.setTop (mkF m 4 #[.val (.ref a), .val (.int z), .val (.double x), .second] [])) target := by
    intro target kt
    show Steps p.tables e below (T2.setTop (mkF m 4 #[.val (.ref a), .val (.int z), .val (.double x), .second] [])) _
    refine XS.aloadN X2.here hx rfl (hb hby d1_4) rfl rfl ?_
    show Steps p.tables e below (T2.setTop (mkF m 5 #[.val (.ref a), .val (.int z), .val (.double x), .second] [(.ref a)])) _
    refine XS.iloadN X2.here hx rfl (hb hby d1_5) rfl ?_
    exact kt
  obtain ⟨T4, h4, X4, e4, W4, st4⟩ := putFN X2 hx hZ hown (hw _ (List.mem_of_getElem? (i := 19) rfl)) Via.refl c2_0 F1 E_a (Or.inr ⟨(hw _ (List.mem_of_getElem? (i := 20) rfl)), rfl, hnm⟩) (hw _ (List.mem_of_getElem? (i := 6) rfl)) (ty := .boolean) (v := (.int z)) (v' := .int (nar .boolean z)) (by decide) rfl (fits_nar_bool _) (g := (mkF m 6 #[.val (.ref a), .val (.int z), .val (.double x), .second] [(.int z), (.ref a)])) rfl rfl (hb hby d1_6)
  have N4 := Fr.snoc X4 N2 g_a
  have Zs4 : n0 ≤ h4.size := by rw [W4.size]; exact Z0
  have K4 : Keep h0 h4 [a] := (Keep.refl h0 [a]).wr W4 (Or.inl (List.mem_of_getElem? (i := 0) rfl))
  have f5 : Exa Z h4 a "com/example/runs_to_risk/runstorisk/anb/Threshold" := E_a.wr W4
  have f6 : Fld Z h4 a "com/example/runs_to_risk/runstorisk/anb/Threshold" "probability" "D" (.double (0 : UInt64)) := F2.other W4 (Or.inr (slot_ne (Or.inr (hw _ (List.mem_of_getElem? (i := 22) rfl))) (Or.inr (hw _ (List.mem_of_getElem? (i := 20) rfl))) (by decide) (t := .double) (t' := .boolean) (by decide) (by decide)))
  have f7 : Fld Z h4 a "com/example/runs_to_risk/runstorisk/anb/Threshold" "strict" "Z" (.int (nar .boolean z)) := F1.same W4
  have sg8 : ∀ target, Steps p.tables e below (T4.setTop (mkF m 11 #[.val (.ref a), .val (.int z), .val (.double x), .second] [(.double x), (.ref a)])) target → Steps p.tables e below (T4.setTop (mkF m 9 #[.val (.ref a), .val (.int z), .val (.double x), .second] [])) target := by
    intro target kt
    show Steps p.tables e below (T4.setTop (mkF m 9 #[.val (.ref a), .val (.int z), .val (.double x), .second] [])) _
    refine XS.aloadN X4.here hx rfl (hb hby d1_9) rfl rfl ?_
    show Steps p.tables e below (T4.setTop (mkF m 10 #[.val (.ref a), .val (.int z), .val (.double x), .second] [(.ref a)])) _
    refine XS.dloadN X4.here hx rfl (hb hby d1_10) rfl ?_
    exact kt
  obtain ⟨T9, h9, X9, e9, W9, st9⟩ := putF X4 hx hZ hown (host := "") (Or.inl (hw _ (List.mem_of_getElem? (i := 21) rfl))) Via.refl e4 f6 f5 (Or.inr ⟨(hw _ (List.mem_of_getElem? (i := 22) rfl)), rfl, hnm⟩) (hw _ (List.mem_of_getElem? (i := 6) rfl)) (ty := .double) (by decide) rfl rfl (g := (mkF m 11 #[.val (.ref a), .val (.int z), .val (.double x), .second] [(.double x), (.ref a)])) rfl rfl (hb hby d1_11)
  have N9 := Fr.snoc X9 N4 g_a
  have Zs9 : n0 ≤ h9.size := by rw [W9.size]; exact Zs4
  have K9 : Keep h0 h9 [a] := K4.wr W9 (Or.inl (List.mem_of_getElem? (i := 0) rfl))
  have f10 : Exa Z h9 a "com/example/runs_to_risk/runstorisk/anb/Threshold" := f5.wr W9
  have f11 : Fld Z h9 a "com/example/runs_to_risk/runstorisk/anb/Threshold" "strict" "Z" (.int (nar .boolean z)) := f7.other W9 (Or.inr (slot_ne (Or.inr (hw _ (List.mem_of_getElem? (i := 20) rfl))) (Or.inr (hw _ (List.mem_of_getElem? (i := 22) rfl))) (by decide) (t := .boolean) (t' := .double) (by decide) (by decide)))
  have f12 : Fld Z h9 a "com/example/runs_to_risk/runstorisk/anb/Threshold" "probability" "D" (.double x) := f6.same W9
  obtain ⟨fs, hr, hrun, hended, hW, hsame⟩ := X9.leave (v := none) (fun _ => rfl)
  refine ⟨_, _, pre0 _ ?_, hrun, hended, _, _, rfl, ?_, ⟨_, rfl⟩, hW, hsame.mono (by decide) (by decide)⟩
  · show Steps p.tables e below (s₁.setTop (mkF m 0 #[.val (.ref a), .val (.int z), .val (.double x), .second] [])) _
    refine sg1 _ ?_
    refine st2.trans ?_
    refine sg3 _ ?_
    refine st4 _ ?_
    refine sg8 _ ?_
    refine st9 _ ?_
    show Steps p.tables e below (T9.setTop (mkF m 14 #[.val (.ref a), .val (.int z), .val (.double x), .second] [])) _
    exact X9.returnOut hx Bd.returns (hb hby d1_14) hr
  · show Q_rm1 Z a z x h0 n0 _ T9.heap _
    rw [e9]
    exact ⟨rfl, N9, K9, f10, f11, f12⟩
theorem d4_0 : decode prog_26_method_2_code 0 = .ok (.dload_n 1, 1) := by decide +kernel
theorem d4_1 : decode prog_26_method_2_code 1 = .ok (.aload_n 0, 1) := by decide +kernel
theorem d4_2 : decode prog_26_method_2_code 2 = .ok (.getfield 13, 3) := by decide +kernel
theorem d4_5 : decode prog_26_method_2_code 5 = .ok (.dsub, 1) := by decide +kernel
theorem d4_6 : decode prog_26_method_2_code 6 = .ok (.dstore_n 3, 1) := by decide +kernel
theorem d4_7 : decode prog_26_method_2_code 7 = .ok (.aload_n 0, 1) := by decide +kernel
theorem d4_8 : decode prog_26_method_2_code 8 = .ok (.getfield 7, 3) := by decide +kernel
theorem d4_11 : decode prog_26_method_2_code 11 = .ok (.ifCond .eq 19, 3) := by decide +kernel
theorem d4_30 : decode prog_26_method_2_code 30 = .ok (.dload_n 3, 1) := by decide +kernel
theorem d4_31 : decode prog_26_method_2_code 31 = .ok (.ldc2_w 19, 3) := by decide +kernel
theorem d4_34 : decode prog_26_method_2_code 34 = .ok (.dcmp .l, 1) := by decide +kernel
theorem d4_35 : decode prog_26_method_2_code 35 = .ok (.ifCond .le 7, 3) := by decide +kernel
theorem d4_42 : decode prog_26_method_2_code 42 = .ok (.iconst 0, 1) := by decide +kernel
theorem d4_43 : decode prog_26_method_2_code 43 = .ok (.ireturn, 1) := by decide +kernel
theorem d4_38 : decode prog_26_method_2_code 38 = .ok (.iconst 1, 1) := by decide +kernel
theorem d4_39 : decode prog_26_method_2_code 39 = .ok (.goto 4, 3) := by decide +kernel
theorem d4_14 : decode prog_26_method_2_code 14 = .ok (.dload_n 3, 1) := by decide +kernel
theorem d4_15 : decode prog_26_method_2_code 15 = .ok (.ldc2_w 17, 3) := by decide +kernel
theorem d4_18 : decode prog_26_method_2_code 18 = .ok (.dcmp .l, 1) := by decide +kernel
theorem d4_19 : decode prog_26_method_2_code 19 = .ok (.ifCond .lt 7, 3) := by decide +kernel
theorem d4_26 : decode prog_26_method_2_code 26 = .ok (.iconst 0, 1) := by decide +kernel
theorem d4_27 : decode prog_26_method_2_code 27 = .ok (.goto 16, 3) := by decide +kernel
theorem d4_22 : decode prog_26_method_2_code 22 = .ok (.iconst 1, 1) := by decide +kernel
theorem d4_23 : decode prog_26_method_2_code 23 = .ok (.goto 20, 3) := by decide +kernel
theorem pn_4 : plainName "com/example/runs_to_risk/runstorisk/anb/Threshold" = true := by first | (simp [plainName, overriddenIn]; done) | decide +kernel
theorem ef_rm4 (m : MethodId) (x0 : Addr) (x1 : UInt64) : entryFrame m #[(.ref x0), (.double x1)] 5 = mkF m 0 #[.val (.ref x0), .val (.double x1), .second, .unset, .unset] [] := by first | (simp [entryFrame, mkF, argsToLocals, Value.category]; done) | rfl
def Q_rm4 (Z : State) (a : Addr) (hd : UInt64) (b : Int32) (pr : UInt64) (h0 : Heap) (n0 : Nat) (v : Option Value) (h : Heap) (L : List Loc) : Prop := v = some (.int (if b = (0 : Int32) then (if (0 : Int32) < (cmpValue (FP.dcmp (FP.dsub hd pr) (13695778570484766357 : UInt64)) .l) then (1 : Int32) else 0) else (if (cmpValue (FP.dcmp (FP.dsub hd pr) (4472406533629990549 : UInt64)) .l) < (0 : Int32) then (0 : Int32) else 1))) ∧ Fr n0 L ∧ h = h0
set_option maxRecDepth 65536 in
set_option maxHeartbeats 40000000 in
theorem rm4 (l : Launch) (Z : State) (a0 : Array Value) (hw : ∀ d ∈ tables_1, d.before a0 Z = true) (ws : List Jvm.Cond) (a : Addr) (hd : UInt64) (b : Int32) (pr : UInt64) (h0 : Heap) (n0 : Nat) (Z0 : n0 ≤ h0.size) (F1 : Fld Z h0 a "com/example/runs_to_risk/runstorisk/anb/Threshold" "strict" "Z" (.int b)) (F2 : Fld Z h0 a "com/example/runs_to_risk/runstorisk/anb/Threshold" "probability" "D" (.double pr)) (nn : Jvm.Free.Fl.NoNaN64 (FP.dsub hd pr)) :
    MetFree l (⟨"com/example/runs_to_risk/runstorisk/anb/Threshold", "metBy", "(D)Z"⟩ : MethodName) (head1 (Jvm.Cond.code (⟨"com/example/runs_to_risk/runstorisk/anb/Threshold", "metBy", "(D)Z"⟩ : MethodName) prog_26_method_2_code 5 (some .boolean) :: ws) ({ frames := 0, cells := 0, slots := 0, locals := 0 } : Room)) (fun av U => av = #[(.ref a), (.double hd)] ∧ Z.Warmed39 U.vm ∧ U.heap = h0) (fun _ _ _ _ _ => True) (fun _ U o U' => ∃ v L, o = .returned v ∧ Q_rm4 Z a hd b pr h0 n0 v U'.heap L ∧ FrameEnd U o U' L ({ frames := 0, cells := 0, slots := 0, locals := 0 } : Room).cells ({ frames := 0, cells := 0, slots := 0, locals := 0 } : Room).slots) := by
  refine MetFree.of_bodySF (plainFor_of_name pn_4) hisR ?_
  intro p e s m args below meth c s₁ Bd hml0 hP hK
  obtain ⟨rfl, hZ, hh⟩ := hP
  have hx := Bd.exec
  have hby := Bd.bytes
  have hml : c.maxLocals = 5 := hml0
  have hown : s.vm.findClass "com/example/runs_to_risk/runstorisk/anb/Threshold" = some m.cls := findClass_of_methodNamed Bd.named
  have hnm := (name_of_methodNamed Bd.named Bd.method).1
  have X0 : Stand p l e ({ frames := 0, cells := 0, slots := 0, locals := 0 } : Room) s m #[(.ref a), (.double hd)] below meth c s₁ [] 0 0 := Stand.of_body Bd
  have e0 : s₁.heap = h0 := by rw [← hh, Bd.state]; rfl
  have N0 := Fr.nil n0
  have pre0 : ∀ t, Steps p.tables e below (s₁.setTop (mkF m 0 #[.val (.ref a), .val (.double hd), .second, .unset, .unset] [])) t → Steps p.tables e below (s₁.setTop (entryFrame m #[(.ref a), (.double hd)] 5)) t := fun t k => castTop (ef_rm4 m a hd) k
  have sg1 : ∀ target, Steps p.tables e below (s₁.setTop (mkF m 2 #[.val (.ref a), .val (.double hd), .second, .unset, .unset] [(.ref a), (.double hd)])) target → Steps p.tables e below (s₁.setTop (mkF m 0 #[.val (.ref a), .val (.double hd), .second, .unset, .unset] [])) target := by
    intro target kt
    show Steps p.tables e below (s₁.setTop (mkF m 0 #[.val (.ref a), .val (.double hd), .second, .unset, .unset] [])) _
    refine XS.dloadN X0.here hx rfl (hb hby d4_0) rfl ?_
    show Steps p.tables e below (s₁.setTop (mkF m 1 #[.val (.ref a), .val (.double hd), .second, .unset, .unset] [(.double hd)])) _
    refine XS.aloadN X0.here hx rfl (hb hby d4_1) rfl rfl ?_
    exact kt
  obtain ⟨T2, X2, e2, st2⟩ := getF X0 hx hZ hown (host := "") (Or.inl (hw _ (List.mem_of_getElem? (i := 21) rfl))) Via.refl e0 F2 (g := (mkF m 2 #[.val (.ref a), .val (.double hd), .second, .unset, .unset] [(.ref a), (.double hd)])) rfl rfl (hb hby d4_2)
  have sg3 : ∀ target, Steps p.tables e below (T2.setTop (mkF m 8 #[.val (.ref a), .val (.double hd), .second, .val (.double (FP.dsub hd pr)), .second] [(.ref a)])) target → Steps p.tables e below (T2.setTop (mkF m 5 #[.val (.ref a), .val (.double hd), .second, .unset, .unset] [(.double pr), (.double hd)])) target := by
    intro target kt
    show Steps p.tables e below (T2.setTop (mkF m 5 #[.val (.ref a), .val (.double hd), .second, .unset, .unset] [(.double pr), (.double hd)])) _
    refine XS.dsubS X2.here hx rfl (v := (FP.dsub hd pr)) (hb hby d4_5) rfl nn rfl ?_
    show Steps p.tables e below (T2.setTop (mkF m 6 #[.val (.ref a), .val (.double hd), .second, .unset, .unset] [(.double (FP.dsub hd pr))])) _
    refine XS.dstoreN X2.here hx rfl (hb hby d4_6) rfl (l' := #[.val (.ref a), .val (.double hd), .second, .val (.double (FP.dsub hd pr)), .second]) rfl ?_
    show Steps p.tables e below (T2.setTop (mkF m 7 #[.val (.ref a), .val (.double hd), .second, .val (.double (FP.dsub hd pr)), .second] [])) _
    refine XS.aloadN X2.here hx rfl (hb hby d4_7) rfl rfl ?_
    exact kt
  obtain ⟨T4, X4, e4, st4⟩ := getF X2 hx hZ hown (host := "") (Or.inl (hw _ (List.mem_of_getElem? (i := 19) rfl))) Via.refl e2 F1 (g := (mkF m 8 #[.val (.ref a), .val (.double hd), .second, .val (.double (FP.dsub hd pr)), .second] [(.ref a)])) rfl rfl (hb hby d4_8)
  by_cases hbz : b = (0 : Int32)
  · have sg5 : ∀ target, Steps p.tables e below (T4.setTop (mkF m 35 #[.val (.ref a), .val (.double hd), .second, .val (.double (FP.dsub hd pr)), .second] [(.int (cmpValue (FP.dcmp (FP.dsub hd pr) (13695778570484766357 : UInt64)) .l))])) target → Steps p.tables e below (T4.setTop (mkF m 11 #[.val (.ref a), .val (.double hd), .second, .val (.double (FP.dsub hd pr)), .second] [(.int b)])) target := by
      intro target kt
      show Steps p.tables e below (T4.setTop (mkF m 11 #[.val (.ref a), .val (.double hd), .second, .val (.double (FP.dsub hd pr)), .second] [(.int b)])) _
      refine XS.ifYes X4.here hx rfl (pc0 := 11) (pc' := 30) rfl (hb hby d4_11) rfl ((if0 _ _).trans (teq (hbz : b = (0 : Int32))).1) (by decide) (by decide) ?_
      show Steps p.tables e below (T4.setTop (mkF m 30 #[.val (.ref a), .val (.double hd), .second, .val (.double (FP.dsub hd pr)), .second] [])) _
      refine XS.dloadN X4.here hx rfl (hb hby d4_30) rfl ?_
      show Steps p.tables e below (T4.setTop (mkF m 31 #[.val (.ref a), .val (.double hd), .second, .val (.double (FP.dsub hd pr)), .second] [(.double (FP.dsub hd pr))])) _
      refine X4.ldc2DoubleC hx hown (mvT hZ (hw _ (List.mem_of_getElem? (i := 30) rfl))) (g := (mkF m 31 #[.val (.ref a), .val (.double hd), .second, .val (.double (FP.dsub hd pr)), .second] [(.double (FP.dsub hd pr))])) rfl (hb hby d4_31) _ ?_
      show Steps p.tables e below (T4.setTop (mkF m 34 #[.val (.ref a), .val (.double hd), .second, .val (.double (FP.dsub hd pr)), .second] [(.double (13695778570484766357 : UInt64)), (.double (FP.dsub hd pr))])) _
      refine XS.dcmpS X4.here hx rfl (v := (cmpValue (FP.dcmp (FP.dsub hd pr) (13695778570484766357 : UInt64)) .l)) (hb hby d4_34) rfl rfl ?_
      exact kt
    by_cases hn : (0 : Int32) < (cmpValue (FP.dcmp (FP.dsub hd pr) (13695778570484766357 : UInt64)) .l)
    · have sg7 : ∀ target, Steps p.tables e below (T4.setTop (mkF m 43 #[.val (.ref a), .val (.double hd), .second, .val (.double (FP.dsub hd pr)), .second] [(.int (1 : Int32))])) target → Steps p.tables e below (T4.setTop (mkF m 35 #[.val (.ref a), .val (.double hd), .second, .val (.double (FP.dsub hd pr)), .second] [(.int (cmpValue (FP.dcmp (FP.dsub hd pr) (13695778570484766357 : UInt64)) .l))])) target := by
        intro target kt
        show Steps p.tables e below (T4.setTop (mkF m 35 #[.val (.ref a), .val (.double hd), .second, .val (.double (FP.dsub hd pr)), .second] [(.int (cmpValue (FP.dcmp (FP.dsub hd pr) (13695778570484766357 : UInt64)) .l))])) _
        refine XS.ifNo X4.here hx rfl (hb hby d4_35) rfl ((if0 _ _).trans (tlt (hn : (0 : Int32) < (cmpValue (FP.dcmp (FP.dsub hd pr) (13695778570484766357 : UInt64)) .l))).2.2.2) ?_
        show Steps p.tables e below (T4.setTop (mkF m 38 #[.val (.ref a), .val (.double hd), .second, .val (.double (FP.dsub hd pr)), .second] [])) _
        refine XS.iconst X4.here hx rfl (hb hby d4_38) ?_
        show Steps p.tables e below (T4.setTop (mkF m 39 #[.val (.ref a), .val (.double hd), .second, .val (.double (FP.dsub hd pr)), .second] [(.int (1 : Int32))])) _
        refine XS.goto X4.here hx rfl (pc0 := 39) (pc' := 43) rfl (hb hby d4_39) (by decide) (by decide) ?_
        exact kt
      obtain ⟨fs, hr, hrun, hended, hW, hsame⟩ := X4.leave (v := some (.int (1 : Int32))) (fun h => by rw [Bd.returns] at h; cases h)
      refine ⟨_, _, pre0 _ ?_, hrun, hended, _, _, rfl, ?_, ⟨_, rfl⟩, hW, hsame.mono (by decide) (by decide)⟩
      · show Steps p.tables e below (s₁.setTop (mkF m 0 #[.val (.ref a), .val (.double hd), .second, .unset, .unset] [])) _
        refine sg1 _ ?_
        refine st2 _ ?_
        refine sg3 _ ?_
        refine st4 _ ?_
        refine sg5 _ ?_
        refine sg7 _ ?_
        show Steps p.tables e below (T4.setTop (mkF m 43 #[.val (.ref a), .val (.double hd), .second, .val (.double (FP.dsub hd pr)), .second] [(.int (1 : Int32))])) _
        exact retN X4 hx (t := .boolean) Bd.returns (by simp) (hb hby d4_43) hr
      · show Q_rm4 Z a hd b pr h0 n0 _ T4.heap _
        rw [e4]
        exact ⟨(by rw [if_pos hbz, if_pos hn]), N0, rfl⟩
    · have sg6 : ∀ target, Steps p.tables e below (T4.setTop (mkF m 43 #[.val (.ref a), .val (.double hd), .second, .val (.double (FP.dsub hd pr)), .second] [(.int (0 : Int32))])) target → Steps p.tables e below (T4.setTop (mkF m 35 #[.val (.ref a), .val (.double hd), .second, .val (.double (FP.dsub hd pr)), .second] [(.int (cmpValue (FP.dcmp (FP.dsub hd pr) (13695778570484766357 : UInt64)) .l))])) target := by
        intro target kt
        show Steps p.tables e below (T4.setTop (mkF m 35 #[.val (.ref a), .val (.double hd), .second, .val (.double (FP.dsub hd pr)), .second] [(.int (cmpValue (FP.dcmp (FP.dsub hd pr) (13695778570484766357 : UInt64)) .l))])) _
        refine XS.ifYes X4.here hx rfl (pc0 := 35) (pc' := 42) rfl (hb hby d4_35) rfl ((if0 _ _).trans (flt (hn : ¬ ((0 : Int32) < (cmpValue (FP.dcmp (FP.dsub hd pr) (13695778570484766357 : UInt64)) .l)))).2.2.2) (by decide) (by decide) ?_
        show Steps p.tables e below (T4.setTop (mkF m 42 #[.val (.ref a), .val (.double hd), .second, .val (.double (FP.dsub hd pr)), .second] [])) _
        refine XS.iconst X4.here hx rfl (hb hby d4_42) ?_
        exact kt
      obtain ⟨fs, hr, hrun, hended, hW, hsame⟩ := X4.leave (v := some (.int (0 : Int32))) (fun h => by rw [Bd.returns] at h; cases h)
      refine ⟨_, _, pre0 _ ?_, hrun, hended, _, _, rfl, ?_, ⟨_, rfl⟩, hW, hsame.mono (by decide) (by decide)⟩
      · show Steps p.tables e below (s₁.setTop (mkF m 0 #[.val (.ref a), .val (.double hd), .second, .unset, .unset] [])) _
        refine sg1 _ ?_
        refine st2 _ ?_
        refine sg3 _ ?_
        refine st4 _ ?_
        refine sg5 _ ?_
        refine sg6 _ ?_
        show Steps p.tables e below (T4.setTop (mkF m 43 #[.val (.ref a), .val (.double hd), .second, .val (.double (FP.dsub hd pr)), .second] [(.int (0 : Int32))])) _
        exact retN X4 hx (t := .boolean) Bd.returns (by simp) (hb hby d4_43) hr
      · show Q_rm4 Z a hd b pr h0 n0 _ T4.heap _
        rw [e4]
        exact ⟨(by rw [if_pos hbz, if_neg hn]), N0, rfl⟩
  · have sg8 : ∀ target, Steps p.tables e below (T4.setTop (mkF m 19 #[.val (.ref a), .val (.double hd), .second, .val (.double (FP.dsub hd pr)), .second] [(.int (cmpValue (FP.dcmp (FP.dsub hd pr) (4472406533629990549 : UInt64)) .l))])) target → Steps p.tables e below (T4.setTop (mkF m 11 #[.val (.ref a), .val (.double hd), .second, .val (.double (FP.dsub hd pr)), .second] [(.int b)])) target := by
      intro target kt
      show Steps p.tables e below (T4.setTop (mkF m 11 #[.val (.ref a), .val (.double hd), .second, .val (.double (FP.dsub hd pr)), .second] [(.int b)])) _
      refine XS.ifNo X4.here hx rfl (hb hby d4_11) rfl ((if0 _ _).trans (feq (hbz : ¬ (b = (0 : Int32)))).1) ?_
      show Steps p.tables e below (T4.setTop (mkF m 14 #[.val (.ref a), .val (.double hd), .second, .val (.double (FP.dsub hd pr)), .second] [])) _
      refine XS.dloadN X4.here hx rfl (hb hby d4_14) rfl ?_
      show Steps p.tables e below (T4.setTop (mkF m 15 #[.val (.ref a), .val (.double hd), .second, .val (.double (FP.dsub hd pr)), .second] [(.double (FP.dsub hd pr))])) _
      refine X4.ldc2DoubleC hx hown (mvT hZ (hw _ (List.mem_of_getElem? (i := 28) rfl))) (g := (mkF m 15 #[.val (.ref a), .val (.double hd), .second, .val (.double (FP.dsub hd pr)), .second] [(.double (FP.dsub hd pr))])) rfl (hb hby d4_15) _ ?_
      show Steps p.tables e below (T4.setTop (mkF m 18 #[.val (.ref a), .val (.double hd), .second, .val (.double (FP.dsub hd pr)), .second] [(.double (4472406533629990549 : UInt64)), (.double (FP.dsub hd pr))])) _
      refine XS.dcmpS X4.here hx rfl (v := (cmpValue (FP.dcmp (FP.dsub hd pr) (4472406533629990549 : UInt64)) .l)) (hb hby d4_18) rfl rfl ?_
      exact kt
    by_cases hn : (cmpValue (FP.dcmp (FP.dsub hd pr) (4472406533629990549 : UInt64)) .l) < (0 : Int32)
    · have sg9 : ∀ target, Steps p.tables e below (T4.setTop (mkF m 43 #[.val (.ref a), .val (.double hd), .second, .val (.double (FP.dsub hd pr)), .second] [(.int (0 : Int32))])) target → Steps p.tables e below (T4.setTop (mkF m 19 #[.val (.ref a), .val (.double hd), .second, .val (.double (FP.dsub hd pr)), .second] [(.int (cmpValue (FP.dcmp (FP.dsub hd pr) (4472406533629990549 : UInt64)) .l))])) target := by
        intro target kt
        show Steps p.tables e below (T4.setTop (mkF m 19 #[.val (.ref a), .val (.double hd), .second, .val (.double (FP.dsub hd pr)), .second] [(.int (cmpValue (FP.dcmp (FP.dsub hd pr) (4472406533629990549 : UInt64)) .l))])) _
        refine XS.ifYes X4.here hx rfl (pc0 := 19) (pc' := 26) rfl (hb hby d4_19) rfl ((if0 _ _).trans (tlt (hn : (cmpValue (FP.dcmp (FP.dsub hd pr) (4472406533629990549 : UInt64)) .l) < (0 : Int32))).1) (by decide) (by decide) ?_
        show Steps p.tables e below (T4.setTop (mkF m 26 #[.val (.ref a), .val (.double hd), .second, .val (.double (FP.dsub hd pr)), .second] [])) _
        refine XS.iconst X4.here hx rfl (hb hby d4_26) ?_
        show Steps p.tables e below (T4.setTop (mkF m 27 #[.val (.ref a), .val (.double hd), .second, .val (.double (FP.dsub hd pr)), .second] [(.int (0 : Int32))])) _
        refine XS.goto X4.here hx rfl (pc0 := 27) (pc' := 43) rfl (hb hby d4_27) (by decide) (by decide) ?_
        exact kt
      obtain ⟨fs, hr, hrun, hended, hW, hsame⟩ := X4.leave (v := some (.int (0 : Int32))) (fun h => by rw [Bd.returns] at h; cases h)
      refine ⟨_, _, pre0 _ ?_, hrun, hended, _, _, rfl, ?_, ⟨_, rfl⟩, hW, hsame.mono (by decide) (by decide)⟩
      · show Steps p.tables e below (s₁.setTop (mkF m 0 #[.val (.ref a), .val (.double hd), .second, .unset, .unset] [])) _
        refine sg1 _ ?_
        refine st2 _ ?_
        refine sg3 _ ?_
        refine st4 _ ?_
        refine sg8 _ ?_
        refine sg9 _ ?_
        show Steps p.tables e below (T4.setTop (mkF m 43 #[.val (.ref a), .val (.double hd), .second, .val (.double (FP.dsub hd pr)), .second] [(.int (0 : Int32))])) _
        exact retN X4 hx (t := .boolean) Bd.returns (by simp) (hb hby d4_43) hr
      · show Q_rm4 Z a hd b pr h0 n0 _ T4.heap _
        rw [e4]
        exact ⟨(by rw [if_neg hbz, if_pos hn]), N0, rfl⟩
    · have sg10 : ∀ target, Steps p.tables e below (T4.setTop (mkF m 43 #[.val (.ref a), .val (.double hd), .second, .val (.double (FP.dsub hd pr)), .second] [(.int (1 : Int32))])) target → Steps p.tables e below (T4.setTop (mkF m 19 #[.val (.ref a), .val (.double hd), .second, .val (.double (FP.dsub hd pr)), .second] [(.int (cmpValue (FP.dcmp (FP.dsub hd pr) (4472406533629990549 : UInt64)) .l))])) target := by
        intro target kt
        show Steps p.tables e below (T4.setTop (mkF m 19 #[.val (.ref a), .val (.double hd), .second, .val (.double (FP.dsub hd pr)), .second] [(.int (cmpValue (FP.dcmp (FP.dsub hd pr) (4472406533629990549 : UInt64)) .l))])) _
        refine XS.ifNo X4.here hx rfl (hb hby d4_19) rfl ((if0 _ _).trans (flt (hn : ¬ ((cmpValue (FP.dcmp (FP.dsub hd pr) (4472406533629990549 : UInt64)) .l) < (0 : Int32)))).1) ?_
        show Steps p.tables e below (T4.setTop (mkF m 22 #[.val (.ref a), .val (.double hd), .second, .val (.double (FP.dsub hd pr)), .second] [])) _
        refine XS.iconst X4.here hx rfl (hb hby d4_22) ?_
        show Steps p.tables e below (T4.setTop (mkF m 23 #[.val (.ref a), .val (.double hd), .second, .val (.double (FP.dsub hd pr)), .second] [(.int (1 : Int32))])) _
        refine XS.goto X4.here hx rfl (pc0 := 23) (pc' := 43) rfl (hb hby d4_23) (by decide) (by decide) ?_
        exact kt
      obtain ⟨fs, hr, hrun, hended, hW, hsame⟩ := X4.leave (v := some (.int (1 : Int32))) (fun h => by rw [Bd.returns] at h; cases h)
      refine ⟨_, _, pre0 _ ?_, hrun, hended, _, _, rfl, ?_, ⟨_, rfl⟩, hW, hsame.mono (by decide) (by decide)⟩
      · show Steps p.tables e below (s₁.setTop (mkF m 0 #[.val (.ref a), .val (.double hd), .second, .unset, .unset] [])) _
        refine sg1 _ ?_
        refine st2 _ ?_
        refine sg3 _ ?_
        refine st4 _ ?_
        refine sg8 _ ?_
        refine sg10 _ ?_
        show Steps p.tables e below (T4.setTop (mkF m 43 #[.val (.ref a), .val (.double hd), .second, .val (.double (FP.dsub hd pr)), .second] [(.int (1 : Int32))])) _
        exact retN X4 hx (t := .boolean) Bd.returns (by simp) (hb hby d4_43) hr
      · show Q_rm4 Z a hd b pr h0 n0 _ T4.heap _
        rw [e4]
        exact ⟨(by rw [if_neg hbz, if_neg hn]), N0, rfl⟩
def own_md (q : Int64) : Int64 := (q &&& (9223372036854775807 : Int64)) % ((1099511627776 : Int64) + (1 : Int64))
def own_q (n : Int64) : UInt64 := FP.ddiv (FP.l2d n) (4787326403894837248 : UInt64)
theorem own_q_nn (n : Int64) : Jvm.Free.Fl.NoNaN64 (FP.ddiv (FP.l2d n) (4787326403894837248 : UInt64)) := Jvm.Free.Fl.ddiv_out (Jvm.Free.Fl.l2d_fin n).noNaN (by unfold Jvm.Free.Fl.Fin64; decide) (by unfold Jvm.Free.Fl.Nz64; decide)
theorem own_md_rng (q : Int64) : 0 ≤ (own_md q).toInt ∧ (own_md q).toInt ≤ 1099511627776 := by
  have h1 := c_maskL q (9223372036854775807 : Int64) 63 (by decide) (by decide)
  have h2 : 0 ≤ (q &&& (9223372036854775807 : Int64)).toInt := by rw [h1]; exact Int.emod_nonneg _ (by decide)
  unfold own_md
  rw [Int64.toInt_mod, show ((1099511627776 : Int64) + (1 : Int64)).toInt = 1099511627777 by decide, Int.tmod_eq_emod_of_nonneg h2]
  have := Int.emod_nonneg (q &&& (9223372036854775807 : Int64)).toInt (show (1099511627777 : Int) ≠ 0 by decide)
  have := Int.emod_lt_of_pos (q &&& (9223372036854775807 : Int64)).toInt (show (0 : Int) < 1099511627777 by decide)
  omega
theorem own_c40 : FV.DV 1 40 (4787326403894837248 : UInt64) := FV.dv_lit false 4503599627370496 (-12) (by decide +kernel) (by decide)
theorem own_pos : FV.DV 4835703278458517 (-82) (4472406533629990549 : UInt64) := FV.dv_lit false 4835703278458517 (-82) (by decide +kernel) (by decide)
theorem own_neg : FV.DV (-4835703278458517) (-82) (13695778570484766357 : UInt64) := FV.dv_lit true 4835703278458517 (-82) (by decide +kernel) (by decide)
theorem own_q_val {n : Int64} (h : 0 ≤ n.toInt ∧ n.toInt ≤ 1099511627776) : FV.DV n.toInt (-40) (own_q n) := by
  have := FV.dv_div (k := n.toInt) (FV.dv_l2d (n := n) (by omega)) own_c40 (by decide) (by omega) (by omega) (by decide) (by decide)
  exact this
theorem own_dif {pn hn : Int64} (hp : 0 ≤ pn.toInt ∧ pn.toInt ≤ 1099511627776) (hh : 0 ≤ hn.toInt ∧ hn.toInt ≤ 1099511627776) : FV.DV (hn.toInt - pn.toInt) (-40) (FP.dsub (own_q hn) (own_q pn)) :=
  FV.dv_sub (own_q_val hh) (own_q_val hp) (by omega) (by decide) (by decide)
theorem own_final {pn hn : Int64} (hp : 0 ≤ pn.toInt ∧ pn.toInt ≤ 1099511627776) (hh : 0 ≤ hn.toInt ∧ hn.toInt ≤ 1099511627776) {st : Int32} (hst : st = 0 ∨ st = 1) :
    (if nar .boolean st = (0 : Int32) then (if (0 : Int32) < (cmpValue (FP.dcmp (FP.dsub (own_q hn) (own_q pn)) (13695778570484766357 : UInt64)) .l) then (1 : Int32) else 0) else (if (cmpValue (FP.dcmp (FP.dsub (own_q hn) (own_q pn)) (4472406533629990549 : UInt64)) .l) < (0 : Int32) then (0 : Int32) else 1)) =
    (if st = (0 : Int32) then (if (lcmpW (hn - pn) (-1099 : Int64)) < (0 : Int32) then (0 : Int32) else (1 : Int32)) else (if (lcmpW (hn - pn) (1100 : Int64)) < (0 : Int32) then (0 : Int32) else (1 : Int32))) := by
  have hd : (hn - pn).toInt = hn.toInt - pn.toInt := Jvm.FP.Core.int64_sub (by omega) (by omega)
  have hv := (FV.dv_shift 42).mp (own_dif hp hh)
  rw [show ((2 ^ 42 : Nat) : Int) = 4398046511104 by decide, show (-40 : Int) - (42 : Nat) = -82 by decide] at hv
  rcases hst with rfl | rfl
  · rw [if_pos (show nar .boolean (0 : Int32) = 0 by decide), if_pos rfl]
    by_cases h : hn.toInt - pn.toInt < -1099
    · rw [FV.cv_lt hv own_neg .l (by omega), if_neg (by decide), if_pos]
      rw [lw_lt, Int64.lt_iff_toInt_lt, hd, show (-1099 : Int64).toInt = -1099 by decide]; exact h
    · rw [FV.cv_gt hv own_neg .l (by omega), if_pos (by decide), if_neg]
      rw [lw_lt, Int64.lt_iff_toInt_lt, hd, show (-1099 : Int64).toInt = -1099 by decide]; exact h
  · rw [if_neg (show ¬ nar .boolean (1 : Int32) = 0 by decide), if_neg (show ¬ (1 : Int32) = (0 : Int32) by decide)]
    by_cases h : hn.toInt - pn.toInt < 1100
    · rw [FV.cv_lt hv own_pos .l (by omega), if_pos (by decide), if_pos]
      rw [lw_lt, Int64.lt_iff_toInt_lt, hd, show (1100 : Int64).toInt = 1100 by decide]; exact h
    · rw [FV.cv_gt hv own_pos .l (by omega), if_neg (by decide), if_neg]
      rw [lw_lt, Int64.lt_iff_toInt_lt, hd, show (1100 : Int64).toInt = 1100 by decide]; exact h
theorem pd_3 : parseMethodDescriptor "(ZD)V" = some ⟨[.boolean, .double], none⟩ := by decide +kernel
theorem pd_2 : parseMethodDescriptor "(D)Z" = some ⟨[.double], some .boolean⟩ := by decide +kernel
theorem pn_0 : plainName "com/example/runs_to_risk/runstorisk/anb/ThresholdMetByPinLaw" = true := by first | (simp [plainName, overriddenIn]; done) | decide +kernel
theorem ef_rm0 (m : MethodId) (x0 : Int64) (x1 : Int64) (x2 : Int32) : entryFrame m #[(.long x0), (.long x1), (.int x2)] maxLocals = mkF m 0 #[.val (.long x0), .second, .val (.long x1), .second, .val (.int x2), .unset, .unset, .unset, .unset, .unset, .unset, .unset, .unset, .unset, .unset, .unset, .unset, .unset, .unset, .unset, .unset] [] := by first | (simp [entryFrame, mkF, argsToLocals, Value.category, maxLocals]; done) | rfl
def Q_rm0 (Z : State) (q1 : Int64) (q2 : Int64) (p5 : Int32) (h0 : Heap) (n0 : Nat) (v : Option Value) (h : Heap) (L : List Loc) : Prop := v = some (.int 1) ∧ Fr n0 L
set_option maxRecDepth 65536 in
set_option maxHeartbeats 40000000 in
theorem rm0 (l : Launch) (Z : State) (a0 : Array Value) (hw : ∀ d ∈ tables_1, d.before a0 Z = true) (ws : List Jvm.Cond) (q1 : Int64) (q2 : Int64) (p5 : Int32) (h0 : Heap) (n0 : Nat) (Z0 : n0 ≤ h0.size) :
    MetFree l x (head1 (Jvm.Cond.code x code maxLocals ret :: ws) room_1) (fun av U => av = #[(.long q1), (.long q2), (.int p5)] ∧ Z.Warmed39 U.vm ∧ U.heap = h0) (fun _ _ _ _ _ => True) (fun _ U o U' => ∃ v L, o = .returned v ∧ Q_rm0 Z q1 q2 p5 h0 n0 v U'.heap L ∧ FrameEnd U o U' L room_1.cells room_1.slots) := by
  refine MetFree.of_bodySF (plainFor_of_name pn_0) hisR ?_
  intro p e s m args below meth c s₁ Bd hml0 hP hK
  obtain ⟨rfl, hZ, hh⟩ := hP
  have hx := Bd.exec
  have hby := Bd.bytes
  have hml : c.maxLocals = 21 := hml0
  have hown : s.vm.findClass "com/example/runs_to_risk/runstorisk/anb/ThresholdMetByPinLaw" = some m.cls := findClass_of_methodNamed Bd.named
  have hnm := (name_of_methodNamed Bd.named Bd.method).1
  have X0 : Stand p l e room_1 s m #[(.long q1), (.long q2), (.int p5)] below meth c s₁ [] 0 0 := Stand.of_body Bd
  have e0 : s₁.heap = h0 := by rw [← hh, Bd.state]; rfl
  have N0 := Fr.nil n0
  have pre0 : ∀ t, Steps p.tables e below (s₁.setTop (mkF m 0 #[.val (.long q1), .second, .val (.long q2), .second, .val (.int p5), .unset, .unset, .unset, .unset, .unset, .unset, .unset, .unset, .unset, .unset, .unset, .unset, .unset, .unset, .unset, .unset] [])) t → Steps p.tables e below (s₁.setTop (entryFrame m #[(.long q1), (.long q2), (.int p5)] maxLocals)) t := fun t k => castTop (ef_rm0 m q1 q2 p5) k
  have sg1 : ∀ target, Steps p.tables e below (s₁.setTop (mkF m 21 #[.val (.long q1), .second, .val (.long q2), .second, .val (.int p5), .val (.long (1099511627776 : Int64)), .second, .val (.long (own_md q1)), .second, .unset, .unset, .unset, .unset, .unset, .unset, .unset, .unset, .unset, .unset, .unset, .unset] [(.int (p5 &&& (2 : Int32)))])) target → Steps p.tables e below (s₁.setTop (mkF m 0 #[.val (.long q1), .second, .val (.long q2), .second, .val (.int p5), .unset, .unset, .unset, .unset, .unset, .unset, .unset, .unset, .unset, .unset, .unset, .unset, .unset, .unset, .unset, .unset] [])) target := by
    intro target kt
    show Steps p.tables e below (s₁.setTop (mkF m 0 #[.val (.long q1), .second, .val (.long q2), .second, .val (.int p5), .unset, .unset, .unset, .unset, .unset, .unset, .unset, .unset, .unset, .unset, .unset, .unset, .unset, .unset, .unset, .unset] [])) _
    refine X0.ldc2Long hx hown (mvT hZ (hw _ (List.mem_of_getElem? (i := 0) rfl))) (g := (mkF m 0 #[.val (.long q1), .second, .val (.long q2), .second, .val (.int p5), .unset, .unset, .unset, .unset, .unset, .unset, .unset, .unset, .unset, .unset, .unset, .unset, .unset, .unset, .unset, .unset] [])) rfl (hb hby at_0) _ ?_
    show Steps p.tables e below (s₁.setTop (mkF m 3 #[.val (.long q1), .second, .val (.long q2), .second, .val (.int p5), .unset, .unset, .unset, .unset, .unset, .unset, .unset, .unset, .unset, .unset, .unset, .unset, .unset, .unset, .unset, .unset] [(.long (1099511627776 : Int64))])) _
    refine XS.lstore X0.here hx rfl (hb hby at_3) rfl (l' := #[.val (.long q1), .second, .val (.long q2), .second, .val (.int p5), .val (.long (1099511627776 : Int64)), .second, .unset, .unset, .unset, .unset, .unset, .unset, .unset, .unset, .unset, .unset, .unset, .unset, .unset, .unset]) rfl ?_
    show Steps p.tables e below (s₁.setTop (mkF m 5 #[.val (.long q1), .second, .val (.long q2), .second, .val (.int p5), .val (.long (1099511627776 : Int64)), .second, .unset, .unset, .unset, .unset, .unset, .unset, .unset, .unset, .unset, .unset, .unset, .unset, .unset, .unset] [])) _
    refine XS.lloadN X0.here hx rfl (hb hby at_5) rfl ?_
    show Steps p.tables e below (s₁.setTop (mkF m 6 #[.val (.long q1), .second, .val (.long q2), .second, .val (.int p5), .val (.long (1099511627776 : Int64)), .second, .unset, .unset, .unset, .unset, .unset, .unset, .unset, .unset, .unset, .unset, .unset, .unset, .unset, .unset] [(.long q1)])) _
    refine X0.ldc2Long hx hown (mvT hZ (hw _ (List.mem_of_getElem? (i := 1) rfl))) (g := (mkF m 6 #[.val (.long q1), .second, .val (.long q2), .second, .val (.int p5), .val (.long (1099511627776 : Int64)), .second, .unset, .unset, .unset, .unset, .unset, .unset, .unset, .unset, .unset, .unset, .unset, .unset, .unset, .unset] [(.long q1)])) rfl (hb hby at_6) _ ?_
    show Steps p.tables e below (s₁.setTop (mkF m 9 #[.val (.long q1), .second, .val (.long q2), .second, .val (.int p5), .val (.long (1099511627776 : Int64)), .second, .unset, .unset, .unset, .unset, .unset, .unset, .unset, .unset, .unset, .unset, .unset, .unset, .unset, .unset] [(.long (9223372036854775807 : Int64)), (.long q1)])) _
    refine XS.land X0.here hx rfl (hb hby at_9) rfl ?_
    show Steps p.tables e below (s₁.setTop (mkF m 10 #[.val (.long q1), .second, .val (.long q2), .second, .val (.int p5), .val (.long (1099511627776 : Int64)), .second, .unset, .unset, .unset, .unset, .unset, .unset, .unset, .unset, .unset, .unset, .unset, .unset, .unset, .unset] [(.long (q1 &&& (9223372036854775807 : Int64)))])) _
    refine XS.lload X0.here hx rfl (hb hby at_10) rfl ?_
    show Steps p.tables e below (s₁.setTop (mkF m 12 #[.val (.long q1), .second, .val (.long q2), .second, .val (.int p5), .val (.long (1099511627776 : Int64)), .second, .unset, .unset, .unset, .unset, .unset, .unset, .unset, .unset, .unset, .unset, .unset, .unset, .unset, .unset] [(.long (1099511627776 : Int64)), (.long (q1 &&& (9223372036854775807 : Int64)))])) _
    refine XS.lconst X0.here hx rfl (hb hby at_12) ?_
    show Steps p.tables e below (s₁.setTop (mkF m 13 #[.val (.long q1), .second, .val (.long q2), .second, .val (.int p5), .val (.long (1099511627776 : Int64)), .second, .unset, .unset, .unset, .unset, .unset, .unset, .unset, .unset, .unset, .unset, .unset, .unset, .unset, .unset] [(.long (1 : Int64)), (.long (1099511627776 : Int64)), (.long (q1 &&& (9223372036854775807 : Int64)))])) _
    refine XS.ladd X0.here hx rfl (hb hby at_13) rfl ?_
    show Steps p.tables e below (s₁.setTop (mkF m 14 #[.val (.long q1), .second, .val (.long q2), .second, .val (.int p5), .val (.long (1099511627776 : Int64)), .second, .unset, .unset, .unset, .unset, .unset, .unset, .unset, .unset, .unset, .unset, .unset, .unset, .unset, .unset] [(.long ((1099511627776 : Int64) + (1 : Int64))), (.long (q1 &&& (9223372036854775807 : Int64)))])) _
    refine XS.lrem X0.here hx rfl (hb hby at_14) rfl (by decide) ?_
    rw [show ((q1 &&& (9223372036854775807 : Int64)) - ((q1 &&& (9223372036854775807 : Int64)) / ((1099511627776 : Int64) + (1 : Int64))) * ((1099511627776 : Int64) + (1 : Int64))) = (own_md q1) from lrem_mod _ _]
    show Steps p.tables e below (s₁.setTop (mkF m 15 #[.val (.long q1), .second, .val (.long q2), .second, .val (.int p5), .val (.long (1099511627776 : Int64)), .second, .unset, .unset, .unset, .unset, .unset, .unset, .unset, .unset, .unset, .unset, .unset, .unset, .unset, .unset] [(.long (own_md q1))])) _
    refine XS.lstore X0.here hx rfl (hb hby at_15) rfl (l' := #[.val (.long q1), .second, .val (.long q2), .second, .val (.int p5), .val (.long (1099511627776 : Int64)), .second, .val (.long (own_md q1)), .second, .unset, .unset, .unset, .unset, .unset, .unset, .unset, .unset, .unset, .unset, .unset, .unset]) rfl ?_
    show Steps p.tables e below (s₁.setTop (mkF m 17 #[.val (.long q1), .second, .val (.long q2), .second, .val (.int p5), .val (.long (1099511627776 : Int64)), .second, .val (.long (own_md q1)), .second, .unset, .unset, .unset, .unset, .unset, .unset, .unset, .unset, .unset, .unset, .unset, .unset] [])) _
    refine XS.iload X0.here hx rfl (hb hby at_17) rfl ?_
    show Steps p.tables e below (s₁.setTop (mkF m 19 #[.val (.long q1), .second, .val (.long q2), .second, .val (.int p5), .val (.long (1099511627776 : Int64)), .second, .val (.long (own_md q1)), .second, .unset, .unset, .unset, .unset, .unset, .unset, .unset, .unset, .unset, .unset, .unset, .unset] [(.int p5)])) _
    refine XS.iconst X0.here hx rfl (hb hby at_19) ?_
    show Steps p.tables e below (s₁.setTop (mkF m 20 #[.val (.long q1), .second, .val (.long q2), .second, .val (.int p5), .val (.long (1099511627776 : Int64)), .second, .val (.long (own_md q1)), .second, .unset, .unset, .unset, .unset, .unset, .unset, .unset, .unset, .unset, .unset, .unset, .unset] [(.int (2 : Int32)), (.int p5)])) _
    refine XS.iand X0.here hx rfl (hb hby at_20) rfl ?_
    exact kt
  obtain ⟨hn, q_hn⟩ : ∃ z : Int64, z = (if (p5 &&& (2 : Int32)) = (0 : Int32) then ((own_md q1) + ((q2 &&& (4095 : Int64)) - (2048 : Int64))) else (own_md q2)) := ⟨_, rfl⟩
  have sg4 : ∀ target, Steps p.tables e below (s₁.setTop (mkF m 53 #[.val (.long q1), .second, .val (.long q2), .second, .val (.int p5), .val (.long (1099511627776 : Int64)), .second, .val (.long (own_md q1)), .second, .val (.long hn), .second, .unset, .unset, .unset, .unset, .unset, .unset, .unset, .unset, .unset, .unset] [])) target → Steps p.tables e below (s₁.setTop (mkF m 21 #[.val (.long q1), .second, .val (.long q2), .second, .val (.int p5), .val (.long (1099511627776 : Int64)), .second, .val (.long (own_md q1)), .second, .unset, .unset, .unset, .unset, .unset, .unset, .unset, .unset, .unset, .unset, .unset, .unset] [(.int (p5 &&& (2 : Int32)))])) target := by
    intro target kt
    by_cases hj3_21 : (p5 &&& (2 : Int32)) = (0 : Int32)
    · rw [if_pos hj3_21] at q_hn
      rw [q_hn] at kt
      show Steps p.tables e below (s₁.setTop (mkF m 21 #[.val (.long q1), .second, .val (.long q2), .second, .val (.int p5), .val (.long (1099511627776 : Int64)), .second, .val (.long (own_md q1)), .second, .unset, .unset, .unset, .unset, .unset, .unset, .unset, .unset, .unset, .unset, .unset, .unset] [(.int (p5 &&& (2 : Int32)))])) _
      refine XS.ifYes X0.here hx rfl (pc0 := 21) (pc' := 39) rfl (hb hby at_21) rfl ((if0 _ _).trans (teq (hj3_21 : (p5 &&& (2 : Int32)) = (0 : Int32))).1) (by decide) (by decide) ?_
      show Steps p.tables e below (s₁.setTop (mkF m 39 #[.val (.long q1), .second, .val (.long q2), .second, .val (.int p5), .val (.long (1099511627776 : Int64)), .second, .val (.long (own_md q1)), .second, .unset, .unset, .unset, .unset, .unset, .unset, .unset, .unset, .unset, .unset, .unset, .unset] [])) _
      refine XS.lload X0.here hx rfl (hb hby at_39) rfl ?_
      show Steps p.tables e below (s₁.setTop (mkF m 41 #[.val (.long q1), .second, .val (.long q2), .second, .val (.int p5), .val (.long (1099511627776 : Int64)), .second, .val (.long (own_md q1)), .second, .unset, .unset, .unset, .unset, .unset, .unset, .unset, .unset, .unset, .unset, .unset, .unset] [(.long (own_md q1))])) _
      refine XS.lloadN X0.here hx rfl (hb hby at_41) rfl ?_
      show Steps p.tables e below (s₁.setTop (mkF m 42 #[.val (.long q1), .second, .val (.long q2), .second, .val (.int p5), .val (.long (1099511627776 : Int64)), .second, .val (.long (own_md q1)), .second, .unset, .unset, .unset, .unset, .unset, .unset, .unset, .unset, .unset, .unset, .unset, .unset] [(.long q2), (.long (own_md q1))])) _
      refine X0.ldc2Long hx hown (mvT hZ (hw _ (List.mem_of_getElem? (i := 2) rfl))) (g := (mkF m 42 #[.val (.long q1), .second, .val (.long q2), .second, .val (.int p5), .val (.long (1099511627776 : Int64)), .second, .val (.long (own_md q1)), .second, .unset, .unset, .unset, .unset, .unset, .unset, .unset, .unset, .unset, .unset, .unset, .unset] [(.long q2), (.long (own_md q1))])) rfl (hb hby at_42) _ ?_
      show Steps p.tables e below (s₁.setTop (mkF m 45 #[.val (.long q1), .second, .val (.long q2), .second, .val (.int p5), .val (.long (1099511627776 : Int64)), .second, .val (.long (own_md q1)), .second, .unset, .unset, .unset, .unset, .unset, .unset, .unset, .unset, .unset, .unset, .unset, .unset] [(.long (4095 : Int64)), (.long q2), (.long (own_md q1))])) _
      refine XS.land X0.here hx rfl (hb hby at_45) rfl ?_
      show Steps p.tables e below (s₁.setTop (mkF m 46 #[.val (.long q1), .second, .val (.long q2), .second, .val (.int p5), .val (.long (1099511627776 : Int64)), .second, .val (.long (own_md q1)), .second, .unset, .unset, .unset, .unset, .unset, .unset, .unset, .unset, .unset, .unset, .unset, .unset] [(.long (q2 &&& (4095 : Int64))), (.long (own_md q1))])) _
      refine X0.ldc2Long hx hown (mvT hZ (hw _ (List.mem_of_getElem? (i := 3) rfl))) (g := (mkF m 46 #[.val (.long q1), .second, .val (.long q2), .second, .val (.int p5), .val (.long (1099511627776 : Int64)), .second, .val (.long (own_md q1)), .second, .unset, .unset, .unset, .unset, .unset, .unset, .unset, .unset, .unset, .unset, .unset, .unset] [(.long (q2 &&& (4095 : Int64))), (.long (own_md q1))])) rfl (hb hby at_46) _ ?_
      show Steps p.tables e below (s₁.setTop (mkF m 49 #[.val (.long q1), .second, .val (.long q2), .second, .val (.int p5), .val (.long (1099511627776 : Int64)), .second, .val (.long (own_md q1)), .second, .unset, .unset, .unset, .unset, .unset, .unset, .unset, .unset, .unset, .unset, .unset, .unset] [(.long (2048 : Int64)), (.long (q2 &&& (4095 : Int64))), (.long (own_md q1))])) _
      refine XS.lsub X0.here hx rfl (hb hby at_49) rfl ?_
      show Steps p.tables e below (s₁.setTop (mkF m 50 #[.val (.long q1), .second, .val (.long q2), .second, .val (.int p5), .val (.long (1099511627776 : Int64)), .second, .val (.long (own_md q1)), .second, .unset, .unset, .unset, .unset, .unset, .unset, .unset, .unset, .unset, .unset, .unset, .unset] [(.long ((q2 &&& (4095 : Int64)) - (2048 : Int64))), (.long (own_md q1))])) _
      refine XS.ladd X0.here hx rfl (hb hby at_50) rfl ?_
      show Steps p.tables e below (s₁.setTop (mkF m 51 #[.val (.long q1), .second, .val (.long q2), .second, .val (.int p5), .val (.long (1099511627776 : Int64)), .second, .val (.long (own_md q1)), .second, .unset, .unset, .unset, .unset, .unset, .unset, .unset, .unset, .unset, .unset, .unset, .unset] [(.long ((own_md q1) + ((q2 &&& (4095 : Int64)) - (2048 : Int64))))])) _
      refine XS.lstore X0.here hx rfl (hb hby at_51) rfl (l' := #[.val (.long q1), .second, .val (.long q2), .second, .val (.int p5), .val (.long (1099511627776 : Int64)), .second, .val (.long (own_md q1)), .second, .val (.long ((own_md q1) + ((q2 &&& (4095 : Int64)) - (2048 : Int64)))), .second, .unset, .unset, .unset, .unset, .unset, .unset, .unset, .unset, .unset, .unset]) rfl ?_
      exact kt
    · rw [if_neg hj3_21] at q_hn
      rw [q_hn] at kt
      show Steps p.tables e below (s₁.setTop (mkF m 21 #[.val (.long q1), .second, .val (.long q2), .second, .val (.int p5), .val (.long (1099511627776 : Int64)), .second, .val (.long (own_md q1)), .second, .unset, .unset, .unset, .unset, .unset, .unset, .unset, .unset, .unset, .unset, .unset, .unset] [(.int (p5 &&& (2 : Int32)))])) _
      refine XS.ifNo X0.here hx rfl (hb hby at_21) rfl ((if0 _ _).trans (feq (hj3_21 : ¬ ((p5 &&& (2 : Int32)) = (0 : Int32)))).1) ?_
      show Steps p.tables e below (s₁.setTop (mkF m 24 #[.val (.long q1), .second, .val (.long q2), .second, .val (.int p5), .val (.long (1099511627776 : Int64)), .second, .val (.long (own_md q1)), .second, .unset, .unset, .unset, .unset, .unset, .unset, .unset, .unset, .unset, .unset, .unset, .unset] [])) _
      refine XS.lloadN X0.here hx rfl (hb hby at_24) rfl ?_
      show Steps p.tables e below (s₁.setTop (mkF m 25 #[.val (.long q1), .second, .val (.long q2), .second, .val (.int p5), .val (.long (1099511627776 : Int64)), .second, .val (.long (own_md q1)), .second, .unset, .unset, .unset, .unset, .unset, .unset, .unset, .unset, .unset, .unset, .unset, .unset] [(.long q2)])) _
      refine X0.ldc2Long hx hown (mvT hZ (hw _ (List.mem_of_getElem? (i := 1) rfl))) (g := (mkF m 25 #[.val (.long q1), .second, .val (.long q2), .second, .val (.int p5), .val (.long (1099511627776 : Int64)), .second, .val (.long (own_md q1)), .second, .unset, .unset, .unset, .unset, .unset, .unset, .unset, .unset, .unset, .unset, .unset, .unset] [(.long q2)])) rfl (hb hby at_25) _ ?_
      show Steps p.tables e below (s₁.setTop (mkF m 28 #[.val (.long q1), .second, .val (.long q2), .second, .val (.int p5), .val (.long (1099511627776 : Int64)), .second, .val (.long (own_md q1)), .second, .unset, .unset, .unset, .unset, .unset, .unset, .unset, .unset, .unset, .unset, .unset, .unset] [(.long (9223372036854775807 : Int64)), (.long q2)])) _
      refine XS.land X0.here hx rfl (hb hby at_28) rfl ?_
      show Steps p.tables e below (s₁.setTop (mkF m 29 #[.val (.long q1), .second, .val (.long q2), .second, .val (.int p5), .val (.long (1099511627776 : Int64)), .second, .val (.long (own_md q1)), .second, .unset, .unset, .unset, .unset, .unset, .unset, .unset, .unset, .unset, .unset, .unset, .unset] [(.long (q2 &&& (9223372036854775807 : Int64)))])) _
      refine XS.lload X0.here hx rfl (hb hby at_29) rfl ?_
      show Steps p.tables e below (s₁.setTop (mkF m 31 #[.val (.long q1), .second, .val (.long q2), .second, .val (.int p5), .val (.long (1099511627776 : Int64)), .second, .val (.long (own_md q1)), .second, .unset, .unset, .unset, .unset, .unset, .unset, .unset, .unset, .unset, .unset, .unset, .unset] [(.long (1099511627776 : Int64)), (.long (q2 &&& (9223372036854775807 : Int64)))])) _
      refine XS.lconst X0.here hx rfl (hb hby at_31) ?_
      show Steps p.tables e below (s₁.setTop (mkF m 32 #[.val (.long q1), .second, .val (.long q2), .second, .val (.int p5), .val (.long (1099511627776 : Int64)), .second, .val (.long (own_md q1)), .second, .unset, .unset, .unset, .unset, .unset, .unset, .unset, .unset, .unset, .unset, .unset, .unset] [(.long (1 : Int64)), (.long (1099511627776 : Int64)), (.long (q2 &&& (9223372036854775807 : Int64)))])) _
      refine XS.ladd X0.here hx rfl (hb hby at_32) rfl ?_
      show Steps p.tables e below (s₁.setTop (mkF m 33 #[.val (.long q1), .second, .val (.long q2), .second, .val (.int p5), .val (.long (1099511627776 : Int64)), .second, .val (.long (own_md q1)), .second, .unset, .unset, .unset, .unset, .unset, .unset, .unset, .unset, .unset, .unset, .unset, .unset] [(.long ((1099511627776 : Int64) + (1 : Int64))), (.long (q2 &&& (9223372036854775807 : Int64)))])) _
      refine XS.lrem X0.here hx rfl (hb hby at_33) rfl (by decide) ?_
      rw [show ((q2 &&& (9223372036854775807 : Int64)) - ((q2 &&& (9223372036854775807 : Int64)) / ((1099511627776 : Int64) + (1 : Int64))) * ((1099511627776 : Int64) + (1 : Int64))) = (own_md q2) from lrem_mod _ _]
      show Steps p.tables e below (s₁.setTop (mkF m 34 #[.val (.long q1), .second, .val (.long q2), .second, .val (.int p5), .val (.long (1099511627776 : Int64)), .second, .val (.long (own_md q1)), .second, .unset, .unset, .unset, .unset, .unset, .unset, .unset, .unset, .unset, .unset, .unset, .unset] [(.long (own_md q2))])) _
      refine XS.lstore X0.here hx rfl (hb hby at_34) rfl (l' := #[.val (.long q1), .second, .val (.long q2), .second, .val (.int p5), .val (.long (1099511627776 : Int64)), .second, .val (.long (own_md q1)), .second, .val (.long (own_md q2)), .second, .unset, .unset, .unset, .unset, .unset, .unset, .unset, .unset, .unset, .unset]) rfl ?_
      show Steps p.tables e below (s₁.setTop (mkF m 36 #[.val (.long q1), .second, .val (.long q2), .second, .val (.int p5), .val (.long (1099511627776 : Int64)), .second, .val (.long (own_md q1)), .second, .val (.long (own_md q2)), .second, .unset, .unset, .unset, .unset, .unset, .unset, .unset, .unset, .unset, .unset] [])) _
      refine XS.goto X0.here hx rfl (pc0 := 36) (pc' := 53) rfl (hb hby at_36) (by decide) (by decide) ?_
      exact kt
  have sg5 : ∀ target, Steps p.tables e below (s₁.setTop (mkF m 57 #[.val (.long q1), .second, .val (.long q2), .second, .val (.int p5), .val (.long (1099511627776 : Int64)), .second, .val (.long (own_md q1)), .second, .val (.long hn), .second, .unset, .unset, .unset, .unset, .unset, .unset, .unset, .unset, .unset, .unset] [(.int (lcmpW hn (0 : Int64)))])) target → Steps p.tables e below (s₁.setTop (mkF m 53 #[.val (.long q1), .second, .val (.long q2), .second, .val (.int p5), .val (.long (1099511627776 : Int64)), .second, .val (.long (own_md q1)), .second, .val (.long hn), .second, .unset, .unset, .unset, .unset, .unset, .unset, .unset, .unset, .unset, .unset] [])) target := by
    intro target kt
    show Steps p.tables e below (s₁.setTop (mkF m 53 #[.val (.long q1), .second, .val (.long q2), .second, .val (.int p5), .val (.long (1099511627776 : Int64)), .second, .val (.long (own_md q1)), .second, .val (.long hn), .second, .unset, .unset, .unset, .unset, .unset, .unset, .unset, .unset, .unset, .unset] [])) _
    refine XS.lload X0.here hx rfl (hb hby at_53) rfl ?_
    show Steps p.tables e below (s₁.setTop (mkF m 55 #[.val (.long q1), .second, .val (.long q2), .second, .val (.int p5), .val (.long (1099511627776 : Int64)), .second, .val (.long (own_md q1)), .second, .val (.long hn), .second, .unset, .unset, .unset, .unset, .unset, .unset, .unset, .unset, .unset, .unset] [(.long hn)])) _
    refine XS.lconst X0.here hx rfl (hb hby at_55) ?_
    show Steps p.tables e below (s₁.setTop (mkF m 56 #[.val (.long q1), .second, .val (.long q2), .second, .val (.int p5), .val (.long (1099511627776 : Int64)), .second, .val (.long (own_md q1)), .second, .val (.long hn), .second, .unset, .unset, .unset, .unset, .unset, .unset, .unset, .unset, .unset, .unset] [(.long (0 : Int64)), (.long hn)])) _
    refine XS.lcmp X0.here hx rfl (hb hby at_56) rfl ?_
    exact kt
  by_cases h57 : (lcmpW hn (0 : Int64)) < (0 : Int32)
  · have sg6 : ∀ target, Steps p.tables e below (s₁.setTop (mkF m 69 #[.val (.long q1), .second, .val (.long q2), .second, .val (.int p5), .val (.long (1099511627776 : Int64)), .second, .val (.long (own_md q1)), .second, .val (.long hn), .second, .unset, .unset, .unset, .unset, .unset, .unset, .unset, .unset, .unset, .unset] [(.int (1 : Int32))])) target → Steps p.tables e below (s₁.setTop (mkF m 57 #[.val (.long q1), .second, .val (.long q2), .second, .val (.int p5), .val (.long (1099511627776 : Int64)), .second, .val (.long (own_md q1)), .second, .val (.long hn), .second, .unset, .unset, .unset, .unset, .unset, .unset, .unset, .unset, .unset, .unset] [(.int (lcmpW hn (0 : Int64)))])) target := by
      intro target kt
      show Steps p.tables e below (s₁.setTop (mkF m 57 #[.val (.long q1), .second, .val (.long q2), .second, .val (.int p5), .val (.long (1099511627776 : Int64)), .second, .val (.long (own_md q1)), .second, .val (.long hn), .second, .unset, .unset, .unset, .unset, .unset, .unset, .unset, .unset, .unset, .unset] [(.int (lcmpW hn (0 : Int64)))])) _
      refine XS.ifYes X0.here hx rfl (pc0 := 57) (pc' := 68) rfl (hb hby at_57) rfl ((if0 _ _).trans (tlt (h57 : (lcmpW hn (0 : Int64)) < (0 : Int32))).1) (by decide) (by decide) ?_
      show Steps p.tables e below (s₁.setTop (mkF m 68 #[.val (.long q1), .second, .val (.long q2), .second, .val (.int p5), .val (.long (1099511627776 : Int64)), .second, .val (.long (own_md q1)), .second, .val (.long hn), .second, .unset, .unset, .unset, .unset, .unset, .unset, .unset, .unset, .unset, .unset] [])) _
      refine XS.iconst X0.here hx rfl (hb hby at_68) ?_
      exact kt
    obtain ⟨fs, hr, hrun, hended, hW, hsame⟩ := X0.leave (v := some (.int (1 : Int32))) (fun h => by rw [Bd.returns] at h; cases h)
    refine ⟨_, _, pre0 _ ?_, hrun, hended, _, _, rfl, ?_, ⟨_, rfl⟩, hW, hsame.mono (by decide) (by decide)⟩
    · show Steps p.tables e below (s₁.setTop (mkF m 0 #[.val (.long q1), .second, .val (.long q2), .second, .val (.int p5), .unset, .unset, .unset, .unset, .unset, .unset, .unset, .unset, .unset, .unset, .unset, .unset, .unset, .unset, .unset, .unset] [])) _
      refine sg1 _ ?_
      refine sg4 _ ?_
      refine sg5 _ ?_
      refine sg6 _ ?_
      show Steps p.tables e below (s₁.setTop (mkF m 69 #[.val (.long q1), .second, .val (.long q2), .second, .val (.int p5), .val (.long (1099511627776 : Int64)), .second, .val (.long (own_md q1)), .second, .val (.long hn), .second, .unset, .unset, .unset, .unset, .unset, .unset, .unset, .unset, .unset, .unset] [(.int (1 : Int32))])) _
      exact retN X0 hx (t := .boolean) Bd.returns (by simp) (hb hby at_69) hr
    · show Q_rm0 Z q1 q2 p5 h0 n0 _ s₁.heap _
      rw [e0]
      exact ⟨rfl, N0⟩
  · have sg7 : ∀ target, Steps p.tables e below (s₁.setTop (mkF m 65 #[.val (.long q1), .second, .val (.long q2), .second, .val (.int p5), .val (.long (1099511627776 : Int64)), .second, .val (.long (own_md q1)), .second, .val (.long hn), .second, .unset, .unset, .unset, .unset, .unset, .unset, .unset, .unset, .unset, .unset] [(.int (lcmpW hn (1099511627776 : Int64)))])) target → Steps p.tables e below (s₁.setTop (mkF m 57 #[.val (.long q1), .second, .val (.long q2), .second, .val (.int p5), .val (.long (1099511627776 : Int64)), .second, .val (.long (own_md q1)), .second, .val (.long hn), .second, .unset, .unset, .unset, .unset, .unset, .unset, .unset, .unset, .unset, .unset] [(.int (lcmpW hn (0 : Int64)))])) target := by
      intro target kt
      show Steps p.tables e below (s₁.setTop (mkF m 57 #[.val (.long q1), .second, .val (.long q2), .second, .val (.int p5), .val (.long (1099511627776 : Int64)), .second, .val (.long (own_md q1)), .second, .val (.long hn), .second, .unset, .unset, .unset, .unset, .unset, .unset, .unset, .unset, .unset, .unset] [(.int (lcmpW hn (0 : Int64)))])) _
      refine XS.ifNo X0.here hx rfl (hb hby at_57) rfl ((if0 _ _).trans (flt (h57 : ¬ ((lcmpW hn (0 : Int64)) < (0 : Int32)))).1) ?_
      show Steps p.tables e below (s₁.setTop (mkF m 60 #[.val (.long q1), .second, .val (.long q2), .second, .val (.int p5), .val (.long (1099511627776 : Int64)), .second, .val (.long (own_md q1)), .second, .val (.long hn), .second, .unset, .unset, .unset, .unset, .unset, .unset, .unset, .unset, .unset, .unset] [])) _
      refine XS.lload X0.here hx rfl (hb hby at_60) rfl ?_
      show Steps p.tables e below (s₁.setTop (mkF m 62 #[.val (.long q1), .second, .val (.long q2), .second, .val (.int p5), .val (.long (1099511627776 : Int64)), .second, .val (.long (own_md q1)), .second, .val (.long hn), .second, .unset, .unset, .unset, .unset, .unset, .unset, .unset, .unset, .unset, .unset] [(.long hn)])) _
      refine XS.lload X0.here hx rfl (hb hby at_62) rfl ?_
      show Steps p.tables e below (s₁.setTop (mkF m 64 #[.val (.long q1), .second, .val (.long q2), .second, .val (.int p5), .val (.long (1099511627776 : Int64)), .second, .val (.long (own_md q1)), .second, .val (.long hn), .second, .unset, .unset, .unset, .unset, .unset, .unset, .unset, .unset, .unset, .unset] [(.long (1099511627776 : Int64)), (.long hn)])) _
      refine XS.lcmp X0.here hx rfl (hb hby at_64) rfl ?_
      exact kt
    by_cases h65 : (0 : Int32) < (lcmpW hn (1099511627776 : Int64))
    · have sg8 : ∀ target, Steps p.tables e below (s₁.setTop (mkF m 69 #[.val (.long q1), .second, .val (.long q2), .second, .val (.int p5), .val (.long (1099511627776 : Int64)), .second, .val (.long (own_md q1)), .second, .val (.long hn), .second, .unset, .unset, .unset, .unset, .unset, .unset, .unset, .unset, .unset, .unset] [(.int (1 : Int32))])) target → Steps p.tables e below (s₁.setTop (mkF m 65 #[.val (.long q1), .second, .val (.long q2), .second, .val (.int p5), .val (.long (1099511627776 : Int64)), .second, .val (.long (own_md q1)), .second, .val (.long hn), .second, .unset, .unset, .unset, .unset, .unset, .unset, .unset, .unset, .unset, .unset] [(.int (lcmpW hn (1099511627776 : Int64)))])) target := by
        intro target kt
        show Steps p.tables e below (s₁.setTop (mkF m 65 #[.val (.long q1), .second, .val (.long q2), .second, .val (.int p5), .val (.long (1099511627776 : Int64)), .second, .val (.long (own_md q1)), .second, .val (.long hn), .second, .unset, .unset, .unset, .unset, .unset, .unset, .unset, .unset, .unset, .unset] [(.int (lcmpW hn (1099511627776 : Int64)))])) _
        refine XS.ifNo X0.here hx rfl (hb hby at_65) rfl ((if0 _ _).trans (tlt (h65 : (0 : Int32) < (lcmpW hn (1099511627776 : Int64)))).2.2.2) ?_
        show Steps p.tables e below (s₁.setTop (mkF m 68 #[.val (.long q1), .second, .val (.long q2), .second, .val (.int p5), .val (.long (1099511627776 : Int64)), .second, .val (.long (own_md q1)), .second, .val (.long hn), .second, .unset, .unset, .unset, .unset, .unset, .unset, .unset, .unset, .unset, .unset] [])) _
        refine XS.iconst X0.here hx rfl (hb hby at_68) ?_
        exact kt
      obtain ⟨fs, hr, hrun, hended, hW, hsame⟩ := X0.leave (v := some (.int (1 : Int32))) (fun h => by rw [Bd.returns] at h; cases h)
      refine ⟨_, _, pre0 _ ?_, hrun, hended, _, _, rfl, ?_, ⟨_, rfl⟩, hW, hsame.mono (by decide) (by decide)⟩
      · show Steps p.tables e below (s₁.setTop (mkF m 0 #[.val (.long q1), .second, .val (.long q2), .second, .val (.int p5), .unset, .unset, .unset, .unset, .unset, .unset, .unset, .unset, .unset, .unset, .unset, .unset, .unset, .unset, .unset, .unset] [])) _
        refine sg1 _ ?_
        refine sg4 _ ?_
        refine sg5 _ ?_
        refine sg7 _ ?_
        refine sg8 _ ?_
        show Steps p.tables e below (s₁.setTop (mkF m 69 #[.val (.long q1), .second, .val (.long q2), .second, .val (.int p5), .val (.long (1099511627776 : Int64)), .second, .val (.long (own_md q1)), .second, .val (.long hn), .second, .unset, .unset, .unset, .unset, .unset, .unset, .unset, .unset, .unset, .unset] [(.int (1 : Int32))])) _
        exact retN X0 hx (t := .boolean) Bd.returns (by simp) (hb hby at_69) hr
      · show Q_rm0 Z q1 q2 p5 h0 n0 _ s₁.heap _
        rw [e0]
        exact ⟨rfl, N0⟩
    · have hp := own_md_rng q1
      have hh : 0 ≤ hn.toInt ∧ hn.toInt ≤ 1099511627776 := by
        rw [lw_lt, Int64.lt_iff_toInt_lt, show (0 : Int64).toInt = 0 by decide] at h57; rw [lw_gt, Int64.lt_iff_toInt_lt, show (1099511627776 : Int64).toInt = 1099511627776 by decide] at h65; omega
      have sg9 : ∀ target, Steps p.tables e below (s₁.setTop (mkF m 74 #[.val (.long q1), .second, .val (.long q2), .second, .val (.int p5), .val (.long (1099511627776 : Int64)), .second, .val (.long (own_md q1)), .second, .val (.long hn), .second, .unset, .unset, .unset, .unset, .unset, .unset, .unset, .unset, .unset, .unset] [(.int (p5 &&& (1 : Int32)))])) target → Steps p.tables e below (s₁.setTop (mkF m 65 #[.val (.long q1), .second, .val (.long q2), .second, .val (.int p5), .val (.long (1099511627776 : Int64)), .second, .val (.long (own_md q1)), .second, .val (.long hn), .second, .unset, .unset, .unset, .unset, .unset, .unset, .unset, .unset, .unset, .unset] [(.int (lcmpW hn (1099511627776 : Int64)))])) target := by
        intro target kt
        show Steps p.tables e below (s₁.setTop (mkF m 65 #[.val (.long q1), .second, .val (.long q2), .second, .val (.int p5), .val (.long (1099511627776 : Int64)), .second, .val (.long (own_md q1)), .second, .val (.long hn), .second, .unset, .unset, .unset, .unset, .unset, .unset, .unset, .unset, .unset, .unset] [(.int (lcmpW hn (1099511627776 : Int64)))])) _
        refine XS.ifYes X0.here hx rfl (pc0 := 65) (pc' := 70) rfl (hb hby at_65) rfl ((if0 _ _).trans (flt (h65 : ¬ ((0 : Int32) < (lcmpW hn (1099511627776 : Int64))))).2.2.2) (by decide) (by decide) ?_
        show Steps p.tables e below (s₁.setTop (mkF m 70 #[.val (.long q1), .second, .val (.long q2), .second, .val (.int p5), .val (.long (1099511627776 : Int64)), .second, .val (.long (own_md q1)), .second, .val (.long hn), .second, .unset, .unset, .unset, .unset, .unset, .unset, .unset, .unset, .unset, .unset] [])) _
        refine XS.iload X0.here hx rfl (hb hby at_70) rfl ?_
        show Steps p.tables e below (s₁.setTop (mkF m 72 #[.val (.long q1), .second, .val (.long q2), .second, .val (.int p5), .val (.long (1099511627776 : Int64)), .second, .val (.long (own_md q1)), .second, .val (.long hn), .second, .unset, .unset, .unset, .unset, .unset, .unset, .unset, .unset, .unset, .unset] [(.int p5)])) _
        refine XS.iconst X0.here hx rfl (hb hby at_72) ?_
        show Steps p.tables e below (s₁.setTop (mkF m 73 #[.val (.long q1), .second, .val (.long q2), .second, .val (.int p5), .val (.long (1099511627776 : Int64)), .second, .val (.long (own_md q1)), .second, .val (.long hn), .second, .unset, .unset, .unset, .unset, .unset, .unset, .unset, .unset, .unset, .unset] [(.int (1 : Int32)), (.int p5)])) _
        refine XS.iand X0.here hx rfl (hb hby at_73) rfl ?_
        exact kt
      obtain ⟨st, q_st⟩ : ∃ z : Int32, z = (if (p5 &&& (1 : Int32)) = (0 : Int32) then (0 : Int32) else (1 : Int32)) := ⟨_, rfl⟩
      have sg12 : ∀ target, Steps p.tables e below (s₁.setTop (mkF m 82 #[.val (.long q1), .second, .val (.long q2), .second, .val (.int p5), .val (.long (1099511627776 : Int64)), .second, .val (.long (own_md q1)), .second, .val (.long hn), .second, .unset, .unset, .unset, .unset, .unset, .unset, .unset, .unset, .unset, .unset] [(.int st)])) target → Steps p.tables e below (s₁.setTop (mkF m 74 #[.val (.long q1), .second, .val (.long q2), .second, .val (.int p5), .val (.long (1099511627776 : Int64)), .second, .val (.long (own_md q1)), .second, .val (.long hn), .second, .unset, .unset, .unset, .unset, .unset, .unset, .unset, .unset, .unset, .unset] [(.int (p5 &&& (1 : Int32)))])) target := by
        intro target kt
        by_cases hj11_74 : (p5 &&& (1 : Int32)) = (0 : Int32)
        · rw [if_pos hj11_74] at q_st
          rw [q_st] at kt
          show Steps p.tables e below (s₁.setTop (mkF m 74 #[.val (.long q1), .second, .val (.long q2), .second, .val (.int p5), .val (.long (1099511627776 : Int64)), .second, .val (.long (own_md q1)), .second, .val (.long hn), .second, .unset, .unset, .unset, .unset, .unset, .unset, .unset, .unset, .unset, .unset] [(.int (p5 &&& (1 : Int32)))])) _
          refine XS.ifYes X0.here hx rfl (pc0 := 74) (pc' := 81) rfl (hb hby at_74) rfl ((if0 _ _).trans (teq (hj11_74 : (p5 &&& (1 : Int32)) = (0 : Int32))).1) (by decide) (by decide) ?_
          show Steps p.tables e below (s₁.setTop (mkF m 81 #[.val (.long q1), .second, .val (.long q2), .second, .val (.int p5), .val (.long (1099511627776 : Int64)), .second, .val (.long (own_md q1)), .second, .val (.long hn), .second, .unset, .unset, .unset, .unset, .unset, .unset, .unset, .unset, .unset, .unset] [])) _
          refine XS.iconst X0.here hx rfl (hb hby at_81) ?_
          exact kt
        · rw [if_neg hj11_74] at q_st
          rw [q_st] at kt
          show Steps p.tables e below (s₁.setTop (mkF m 74 #[.val (.long q1), .second, .val (.long q2), .second, .val (.int p5), .val (.long (1099511627776 : Int64)), .second, .val (.long (own_md q1)), .second, .val (.long hn), .second, .unset, .unset, .unset, .unset, .unset, .unset, .unset, .unset, .unset, .unset] [(.int (p5 &&& (1 : Int32)))])) _
          refine XS.ifNo X0.here hx rfl (hb hby at_74) rfl ((if0 _ _).trans (feq (hj11_74 : ¬ ((p5 &&& (1 : Int32)) = (0 : Int32)))).1) ?_
          show Steps p.tables e below (s₁.setTop (mkF m 77 #[.val (.long q1), .second, .val (.long q2), .second, .val (.int p5), .val (.long (1099511627776 : Int64)), .second, .val (.long (own_md q1)), .second, .val (.long hn), .second, .unset, .unset, .unset, .unset, .unset, .unset, .unset, .unset, .unset, .unset] [])) _
          refine XS.iconst X0.here hx rfl (hb hby at_77) ?_
          show Steps p.tables e below (s₁.setTop (mkF m 78 #[.val (.long q1), .second, .val (.long q2), .second, .val (.int p5), .val (.long (1099511627776 : Int64)), .second, .val (.long (own_md q1)), .second, .val (.long hn), .second, .unset, .unset, .unset, .unset, .unset, .unset, .unset, .unset, .unset, .unset] [(.int (1 : Int32))])) _
          refine XS.goto X0.here hx rfl (pc0 := 78) (pc' := 82) rfl (hb hby at_78) (by decide) (by decide) ?_
          exact kt
      have hst : st = 0 ∨ st = 1 := by rw [q_st]; split <;> simp
      have sg13 : ∀ target, Steps p.tables e below (s₁.setTop (mkF m 102 #[.val (.long q1), .second, .val (.long q2), .second, .val (.int p5), .val (.long (1099511627776 : Int64)), .second, .val (.long (own_md q1)), .second, .val (.long hn), .second, .val (.int st), .val (.double (own_q (own_md q1))), .second, .val (.double (own_q hn)), .second, .unset, .unset, .unset, .unset, .unset] [])) target → Steps p.tables e below (s₁.setTop (mkF m 82 #[.val (.long q1), .second, .val (.long q2), .second, .val (.int p5), .val (.long (1099511627776 : Int64)), .second, .val (.long (own_md q1)), .second, .val (.long hn), .second, .unset, .unset, .unset, .unset, .unset, .unset, .unset, .unset, .unset, .unset] [(.int st)])) target := by
        intro target kt
        show Steps p.tables e below (s₁.setTop (mkF m 82 #[.val (.long q1), .second, .val (.long q2), .second, .val (.int p5), .val (.long (1099511627776 : Int64)), .second, .val (.long (own_md q1)), .second, .val (.long hn), .second, .unset, .unset, .unset, .unset, .unset, .unset, .unset, .unset, .unset, .unset] [(.int st)])) _
        refine XS.istore X0.here hx rfl (hb hby at_82) rfl (l' := #[.val (.long q1), .second, .val (.long q2), .second, .val (.int p5), .val (.long (1099511627776 : Int64)), .second, .val (.long (own_md q1)), .second, .val (.long hn), .second, .val (.int st), .unset, .unset, .unset, .unset, .unset, .unset, .unset, .unset, .unset]) rfl ?_
        show Steps p.tables e below (s₁.setTop (mkF m 84 #[.val (.long q1), .second, .val (.long q2), .second, .val (.int p5), .val (.long (1099511627776 : Int64)), .second, .val (.long (own_md q1)), .second, .val (.long hn), .second, .val (.int st), .unset, .unset, .unset, .unset, .unset, .unset, .unset, .unset, .unset] [])) _
        refine XS.lload X0.here hx rfl (hb hby at_84) rfl ?_
        show Steps p.tables e below (s₁.setTop (mkF m 86 #[.val (.long q1), .second, .val (.long q2), .second, .val (.int p5), .val (.long (1099511627776 : Int64)), .second, .val (.long (own_md q1)), .second, .val (.long hn), .second, .val (.int st), .unset, .unset, .unset, .unset, .unset, .unset, .unset, .unset, .unset] [(.long (own_md q1))])) _
        refine XS.l2dS X0.here hx rfl (v := (FP.l2d (own_md q1))) (hb hby at_86) rfl rfl ?_
        show Steps p.tables e below (s₁.setTop (mkF m 87 #[.val (.long q1), .second, .val (.long q2), .second, .val (.int p5), .val (.long (1099511627776 : Int64)), .second, .val (.long (own_md q1)), .second, .val (.long hn), .second, .val (.int st), .unset, .unset, .unset, .unset, .unset, .unset, .unset, .unset, .unset] [(.double (FP.l2d (own_md q1)))])) _
        refine X0.ldc2DoubleC hx hown (mvT hZ (hw _ (List.mem_of_getElem? (i := 4) rfl))) (g := (mkF m 87 #[.val (.long q1), .second, .val (.long q2), .second, .val (.int p5), .val (.long (1099511627776 : Int64)), .second, .val (.long (own_md q1)), .second, .val (.long hn), .second, .val (.int st), .unset, .unset, .unset, .unset, .unset, .unset, .unset, .unset, .unset] [(.double (FP.l2d (own_md q1)))])) rfl (hb hby at_87) _ ?_
        show Steps p.tables e below (s₁.setTop (mkF m 90 #[.val (.long q1), .second, .val (.long q2), .second, .val (.int p5), .val (.long (1099511627776 : Int64)), .second, .val (.long (own_md q1)), .second, .val (.long hn), .second, .val (.int st), .unset, .unset, .unset, .unset, .unset, .unset, .unset, .unset, .unset] [(.double (4787326403894837248 : UInt64)), (.double (FP.l2d (own_md q1)))])) _
        refine XS.ddivS X0.here hx rfl (v := (own_q (own_md q1))) (hb hby at_90) rfl (own_q_nn (own_md q1)) rfl ?_
        show Steps p.tables e below (s₁.setTop (mkF m 91 #[.val (.long q1), .second, .val (.long q2), .second, .val (.int p5), .val (.long (1099511627776 : Int64)), .second, .val (.long (own_md q1)), .second, .val (.long hn), .second, .val (.int st), .unset, .unset, .unset, .unset, .unset, .unset, .unset, .unset, .unset] [(.double (own_q (own_md q1)))])) _
        refine XS.dstore X0.here hx rfl (hb hby at_91) rfl (l' := #[.val (.long q1), .second, .val (.long q2), .second, .val (.int p5), .val (.long (1099511627776 : Int64)), .second, .val (.long (own_md q1)), .second, .val (.long hn), .second, .val (.int st), .val (.double (own_q (own_md q1))), .second, .unset, .unset, .unset, .unset, .unset, .unset, .unset]) rfl ?_
        show Steps p.tables e below (s₁.setTop (mkF m 93 #[.val (.long q1), .second, .val (.long q2), .second, .val (.int p5), .val (.long (1099511627776 : Int64)), .second, .val (.long (own_md q1)), .second, .val (.long hn), .second, .val (.int st), .val (.double (own_q (own_md q1))), .second, .unset, .unset, .unset, .unset, .unset, .unset, .unset] [])) _
        refine XS.lload X0.here hx rfl (hb hby at_93) rfl ?_
        show Steps p.tables e below (s₁.setTop (mkF m 95 #[.val (.long q1), .second, .val (.long q2), .second, .val (.int p5), .val (.long (1099511627776 : Int64)), .second, .val (.long (own_md q1)), .second, .val (.long hn), .second, .val (.int st), .val (.double (own_q (own_md q1))), .second, .unset, .unset, .unset, .unset, .unset, .unset, .unset] [(.long hn)])) _
        refine XS.l2dS X0.here hx rfl (v := (FP.l2d hn)) (hb hby at_95) rfl rfl ?_
        show Steps p.tables e below (s₁.setTop (mkF m 96 #[.val (.long q1), .second, .val (.long q2), .second, .val (.int p5), .val (.long (1099511627776 : Int64)), .second, .val (.long (own_md q1)), .second, .val (.long hn), .second, .val (.int st), .val (.double (own_q (own_md q1))), .second, .unset, .unset, .unset, .unset, .unset, .unset, .unset] [(.double (FP.l2d hn))])) _
        refine X0.ldc2DoubleC hx hown (mvT hZ (hw _ (List.mem_of_getElem? (i := 4) rfl))) (g := (mkF m 96 #[.val (.long q1), .second, .val (.long q2), .second, .val (.int p5), .val (.long (1099511627776 : Int64)), .second, .val (.long (own_md q1)), .second, .val (.long hn), .second, .val (.int st), .val (.double (own_q (own_md q1))), .second, .unset, .unset, .unset, .unset, .unset, .unset, .unset] [(.double (FP.l2d hn))])) rfl (hb hby at_96) _ ?_
        show Steps p.tables e below (s₁.setTop (mkF m 99 #[.val (.long q1), .second, .val (.long q2), .second, .val (.int p5), .val (.long (1099511627776 : Int64)), .second, .val (.long (own_md q1)), .second, .val (.long hn), .second, .val (.int st), .val (.double (own_q (own_md q1))), .second, .unset, .unset, .unset, .unset, .unset, .unset, .unset] [(.double (4787326403894837248 : UInt64)), (.double (FP.l2d hn))])) _
        refine XS.ddivS X0.here hx rfl (v := (own_q hn)) (hb hby at_99) rfl (own_q_nn hn) rfl ?_
        show Steps p.tables e below (s₁.setTop (mkF m 100 #[.val (.long q1), .second, .val (.long q2), .second, .val (.int p5), .val (.long (1099511627776 : Int64)), .second, .val (.long (own_md q1)), .second, .val (.long hn), .second, .val (.int st), .val (.double (own_q (own_md q1))), .second, .unset, .unset, .unset, .unset, .unset, .unset, .unset] [(.double (own_q hn))])) _
        refine XS.dstore X0.here hx rfl (hb hby at_100) rfl (l' := #[.val (.long q1), .second, .val (.long q2), .second, .val (.int p5), .val (.long (1099511627776 : Int64)), .second, .val (.long (own_md q1)), .second, .val (.long hn), .second, .val (.int st), .val (.double (own_q (own_md q1))), .second, .val (.double (own_q hn)), .second, .unset, .unset, .unset, .unset, .unset]) rfl ?_
        exact kt
      obtain ⟨T14, h14, X14, e14, E14, A14, D14, -, st14⟩ := newO X0 hx hZ hown (hw _ (List.mem_of_getElem? (i := 5) rfl)) (hw _ (List.mem_of_getElem? (i := 6) rfl)) (hw _ (List.mem_of_getElem? (i := 7) rfl)) e0 (g := (mkF m 102 #[.val (.long q1), .second, .val (.long q2), .second, .val (.int p5), .val (.long (1099511627776 : Int64)), .second, .val (.long (own_md q1)), .second, .val (.long hn), .second, .val (.int st), .val (.double (own_q (own_md q1))), .second, .val (.double (own_q hn)), .second, .unset, .unset, .unset, .unset, .unset] [])) rfl (hb hby at_102) (by decide) (by decide)
      obtain ⟨b14, g14⟩ : ∃ z, z = h0.size := ⟨_, rfl⟩
      rw [← g14] at A14 D14 st14
      have g_b14 : n0 ≤ b14 := Nat.le_trans Z0 (Nat.le_of_eq g14.symm)
      have Zs14 : n0 ≤ h14.size := Nat.le_trans Z0 E14.1
      have f15 : Exa Z h14 b14 "com/example/runs_to_risk/runstorisk/anb/Threshold" := A14
      have f16 : Fld Z h14 b14 "com/example/runs_to_risk/runstorisk/anb/Threshold" "strict" "Z" (.int (0 : Int32)) := D14 (Or.inr (hw _ (List.mem_of_getElem? (i := 20) rfl))) (ty := .boolean) (by decide)
      have f17 : Fld Z h14 b14 "com/example/runs_to_risk/runstorisk/anb/Threshold" "probability" "D" (.double (0 : UInt64)) := D14 (Or.inr (hw _ (List.mem_of_getElem? (i := 22) rfl))) (ty := .double) (by decide)
      have sg18 : ∀ target, Steps p.tables e below (T14.setTop (mkF m 110 #[.val (.long q1), .second, .val (.long q2), .second, .val (.int p5), .val (.long (1099511627776 : Int64)), .second, .val (.long (own_md q1)), .second, .val (.long hn), .second, .val (.int st), .val (.double (own_q (own_md q1))), .second, .val (.double (own_q hn)), .second, .unset, .unset, .unset, .unset, .unset] [(.double (own_q (own_md q1))), (.int st), (.ref b14), (.ref b14)])) target → Steps p.tables e below (T14.setTop (mkF m 105 #[.val (.long q1), .second, .val (.long q2), .second, .val (.int p5), .val (.long (1099511627776 : Int64)), .second, .val (.long (own_md q1)), .second, .val (.long hn), .second, .val (.int st), .val (.double (own_q (own_md q1))), .second, .val (.double (own_q hn)), .second, .unset, .unset, .unset, .unset, .unset] [(.ref b14)])) target := by
        intro target kt
        show Steps p.tables e below (T14.setTop (mkF m 105 #[.val (.long q1), .second, .val (.long q2), .second, .val (.int p5), .val (.long (1099511627776 : Int64)), .second, .val (.long (own_md q1)), .second, .val (.long hn), .second, .val (.int st), .val (.double (own_q (own_md q1))), .second, .val (.double (own_q hn)), .second, .unset, .unset, .unset, .unset, .unset] [(.ref b14)])) _
        refine XS.dup X14.here hx rfl (hb hby at_105) rfl rfl ?_
        show Steps p.tables e below (T14.setTop (mkF m 106 #[.val (.long q1), .second, .val (.long q2), .second, .val (.int p5), .val (.long (1099511627776 : Int64)), .second, .val (.long (own_md q1)), .second, .val (.long hn), .second, .val (.int st), .val (.double (own_q (own_md q1))), .second, .val (.double (own_q hn)), .second, .unset, .unset, .unset, .unset, .unset] [(.ref b14), (.ref b14)])) _
        refine XS.iload X14.here hx rfl (hb hby at_106) rfl ?_
        show Steps p.tables e below (T14.setTop (mkF m 108 #[.val (.long q1), .second, .val (.long q2), .second, .val (.int p5), .val (.long (1099511627776 : Int64)), .second, .val (.long (own_md q1)), .second, .val (.long hn), .second, .val (.int st), .val (.double (own_q (own_md q1))), .second, .val (.double (own_q hn)), .second, .unset, .unset, .unset, .unset, .unset] [(.int st), (.ref b14), (.ref b14)])) _
        refine XS.dload X14.here hx rfl (hb hby at_108) rfl ?_
        exact kt
      obtain ⟨_, _, ⟨T19, L19, k19, n19⟩, -, X19, ⟨Lc19, hQ19, l19, y19, z19⟩, st19⟩ := X14.specialBack hx (y := (⟨"com/example/runs_to_risk/runstorisk/anb/Threshold", "<init>", "(ZD)V"⟩ : MethodName)) rfl hown (mvT hZ (hw _ (List.mem_of_getElem? (i := 8) rfl))) (mvT hZ (hw _ (List.mem_of_getElem? (i := 9) rfl))) (mvT hZ (hw _ (List.mem_of_getElem? (i := 10) rfl))) (by decide) (backOf (W := 1) (rm1 l Z a0 hw [] b14 st (own_q (own_md q1)) h14 n0 Zs14 f15 f16 f17 g_b14) hZ (hw _ (List.mem_of_getElem? (i := 10) rfl)) (hw _ (List.mem_of_getElem? (i := 7) rfl)) (by decide) (by decide)) (g := (mkF m 110 #[.val (.long q1), .second, .val (.long q2), .second, .val (.int p5), .val (.long (1099511627776 : Int64)), .second, .val (.long (own_md q1)), .second, .val (.long hn), .second, .val (.int st), .val (.double (own_q (own_md q1))), .second, .val (.double (own_q hn)), .second, .unset, .unset, .unset, .unset, .unset] [(.double (own_q (own_md q1))), (.int st), (.ref b14), (.ref b14)])) rfl (by rw [hml]; rfl) (Steps.refl _) (a := b14) (argsL := [(.int st), (.double (own_q (own_md q1)))]) (rest := [(.ref b14)]) (lenOf pd_3 rfl) rfl (by show 2 * 0 + _ ≤ _; exact Nat.le_of_eq rfl) (hb hby at_110) (fun _ _ => ⟨rfl, e14, (by decide : 1 + 0 ≤ _), (by decide : 2 + 0 ≤ _)⟩)
      dsimp only [Pt.U, Pt.locs, Pt.cells, Pt.slots] at X19 l19 y19 z19 st19 hQ19
      subst l19 y19 z19
      obtain ⟨rfl, N19q, c19_0, c19_1, c19_2, c19_3⟩ := hQ19
      have N19 := Fr.app N0 N19q
      have Zs19 : n0 ≤ T19.heap.size := Nat.le_trans Zs14 c19_0.1
      have f20 : Exa Z T19.heap b14 "com/example/runs_to_risk/runstorisk/anb/Threshold" := c19_1
      have f21 : Fld Z T19.heap b14 "com/example/runs_to_risk/runstorisk/anb/Threshold" "strict" "Z" (.int (nar .boolean st)) := c19_2
      have f22 : Fld Z T19.heap b14 "com/example/runs_to_risk/runstorisk/anb/Threshold" "probability" "D" (.double (own_q (own_md q1))) := c19_3
      have sg23 : ∀ target, Steps p.tables e below (T19.setTop (mkF m 119 #[.val (.long q1), .second, .val (.long q2), .second, .val (.int p5), .val (.long (1099511627776 : Int64)), .second, .val (.long (own_md q1)), .second, .val (.long hn), .second, .val (.int st), .val (.double (own_q (own_md q1))), .second, .val (.double (own_q hn)), .second, .val (.ref b14), .unset, .unset, .unset, .unset] [(.double (own_q hn)), (.ref b14)])) target → Steps p.tables e below (T19.setTop (mkF m 113 #[.val (.long q1), .second, .val (.long q2), .second, .val (.int p5), .val (.long (1099511627776 : Int64)), .second, .val (.long (own_md q1)), .second, .val (.long hn), .second, .val (.int st), .val (.double (own_q (own_md q1))), .second, .val (.double (own_q hn)), .second, .unset, .unset, .unset, .unset, .unset] [(.ref b14)])) target := by
        intro target kt
        show Steps p.tables e below (T19.setTop (mkF m 113 #[.val (.long q1), .second, .val (.long q2), .second, .val (.int p5), .val (.long (1099511627776 : Int64)), .second, .val (.long (own_md q1)), .second, .val (.long hn), .second, .val (.int st), .val (.double (own_q (own_md q1))), .second, .val (.double (own_q hn)), .second, .unset, .unset, .unset, .unset, .unset] [(.ref b14)])) _
        refine XS.astore X19.here hx rfl (hb hby at_113) rfl rfl (l' := #[.val (.long q1), .second, .val (.long q2), .second, .val (.int p5), .val (.long (1099511627776 : Int64)), .second, .val (.long (own_md q1)), .second, .val (.long hn), .second, .val (.int st), .val (.double (own_q (own_md q1))), .second, .val (.double (own_q hn)), .second, .val (.ref b14), .unset, .unset, .unset, .unset]) rfl ?_
        show Steps p.tables e below (T19.setTop (mkF m 115 #[.val (.long q1), .second, .val (.long q2), .second, .val (.int p5), .val (.long (1099511627776 : Int64)), .second, .val (.long (own_md q1)), .second, .val (.long hn), .second, .val (.int st), .val (.double (own_q (own_md q1))), .second, .val (.double (own_q hn)), .second, .val (.ref b14), .unset, .unset, .unset, .unset] [])) _
        refine XS.aload X19.here hx rfl (hb hby at_115) rfl rfl ?_
        show Steps p.tables e below (T19.setTop (mkF m 117 #[.val (.long q1), .second, .val (.long q2), .second, .val (.int p5), .val (.long (1099511627776 : Int64)), .second, .val (.long (own_md q1)), .second, .val (.long hn), .second, .val (.int st), .val (.double (own_q (own_md q1))), .second, .val (.double (own_q hn)), .second, .val (.ref b14), .unset, .unset, .unset, .unset] [(.ref b14)])) _
        refine XS.dload X19.here hx rfl (hb hby at_117) rfl ?_
        exact kt
      obtain ⟨cq24, kq24, q24a, q24b, q24c⟩ := isOf hZ rfl f20
      obtain ⟨_, _, ⟨T24, L24, k24, n24⟩, -, X24, ⟨Lc24, hQ24, l24, y24, z24⟩, st24⟩ := X19.virtualBack hx (y := (⟨"com/example/runs_to_risk/runstorisk/anb/Threshold", "metBy", "(D)Z"⟩ : MethodName)) (z := (⟨"com/example/runs_to_risk/runstorisk/anb/Threshold", "metBy", "(D)Z"⟩ : MethodName)) hown (mvT hZ (hw _ (List.mem_of_getElem? (i := 23) rfl))) (mvT hZ (hw _ (List.mem_of_getElem? (i := 24) rfl))) (notFace_of_selects (args := #[]) (mvT hZ (hw _ (List.mem_of_getElem? (i := 26) rfl)))) (mvT hZ (hw _ (List.mem_of_getElem? (i := 26) rfl))) (mvT hZ (hw _ (List.mem_of_getElem? (i := 25) rfl))) (by decide) (backOf (W := 0) (rm4 l Z a0 hw [] b14 (own_q hn) (nar .boolean st) (own_q (own_md q1)) T19.heap n0 Zs19 f21 f22 ((own_dif hp hh).nn)) hZ (hw _ (List.mem_of_getElem? (i := 27) rfl)) (hw _ (List.mem_of_getElem? (i := 7) rfl)) (by decide) (by decide)) q24a q24c (g := (mkF m 119 #[.val (.long q1), .second, .val (.long q2), .second, .val (.int p5), .val (.long (1099511627776 : Int64)), .second, .val (.long (own_md q1)), .second, .val (.long hn), .second, .val (.int st), .val (.double (own_q (own_md q1))), .second, .val (.double (own_q hn)), .second, .val (.ref b14), .unset, .unset, .unset, .unset] [(.double (own_q hn)), (.ref b14)])) rfl (by rw [hml]; rfl) (Steps.refl _) (argsL := [(.double (own_q hn))]) (rest := []) (lenOf pd_2 rfl) rfl (by show 2 * 0 + _ ≤ _; exact Nat.le_of_eq rfl) (hb hby at_119) (fun _ _ => ⟨rfl, rfl, (by decide : 1 + 0 ≤ _), (by decide : 2 + 0 ≤ _)⟩)
      dsimp only [Pt.U, Pt.locs, Pt.cells, Pt.slots] at X24 l24 y24 z24 st24 hQ24
      subst l24 y24 z24
      obtain ⟨rfl, N24q, c24_0⟩ := hQ24
      have N24 := Fr.app N19 N24q
      have sg25 : ∀ target, Steps p.tables e below (T24.setTop (mkF m 133 #[.val (.long q1), .second, .val (.long q2), .second, .val (.int p5), .val (.long (1099511627776 : Int64)), .second, .val (.long (own_md q1)), .second, .val (.long hn), .second, .val (.int st), .val (.double (own_q (own_md q1))), .second, .val (.double (own_q hn)), .second, .val (.ref b14), .val (.int (if (nar .boolean st) = (0 : Int32) then (if (0 : Int32) < (cmpValue (FP.dcmp (FP.dsub (own_q hn) (own_q (own_md q1))) (13695778570484766357 : UInt64)) .l) then (1 : Int32) else 0) else (if (cmpValue (FP.dcmp (FP.dsub (own_q hn) (own_q (own_md q1))) (4472406533629990549 : UInt64)) .l) < (0 : Int32) then (0 : Int32) else 1))), .val (.long (hn - (own_md q1))), .second, .unset] [(.int st)])) target → Steps p.tables e below (T24.setTop (mkF m 122 #[.val (.long q1), .second, .val (.long q2), .second, .val (.int p5), .val (.long (1099511627776 : Int64)), .second, .val (.long (own_md q1)), .second, .val (.long hn), .second, .val (.int st), .val (.double (own_q (own_md q1))), .second, .val (.double (own_q hn)), .second, .val (.ref b14), .unset, .unset, .unset, .unset] [(.int (if (nar .boolean st) = (0 : Int32) then (if (0 : Int32) < (cmpValue (FP.dcmp (FP.dsub (own_q hn) (own_q (own_md q1))) (13695778570484766357 : UInt64)) .l) then (1 : Int32) else 0) else (if (cmpValue (FP.dcmp (FP.dsub (own_q hn) (own_q (own_md q1))) (4472406533629990549 : UInt64)) .l) < (0 : Int32) then (0 : Int32) else 1)))])) target := by
        intro target kt
        show Steps p.tables e below (T24.setTop (mkF m 122 #[.val (.long q1), .second, .val (.long q2), .second, .val (.int p5), .val (.long (1099511627776 : Int64)), .second, .val (.long (own_md q1)), .second, .val (.long hn), .second, .val (.int st), .val (.double (own_q (own_md q1))), .second, .val (.double (own_q hn)), .second, .val (.ref b14), .unset, .unset, .unset, .unset] [(.int (if (nar .boolean st) = (0 : Int32) then (if (0 : Int32) < (cmpValue (FP.dcmp (FP.dsub (own_q hn) (own_q (own_md q1))) (13695778570484766357 : UInt64)) .l) then (1 : Int32) else 0) else (if (cmpValue (FP.dcmp (FP.dsub (own_q hn) (own_q (own_md q1))) (4472406533629990549 : UInt64)) .l) < (0 : Int32) then (0 : Int32) else 1)))])) _
        refine XS.istore X24.here hx rfl (hb hby at_122) rfl (l' := #[.val (.long q1), .second, .val (.long q2), .second, .val (.int p5), .val (.long (1099511627776 : Int64)), .second, .val (.long (own_md q1)), .second, .val (.long hn), .second, .val (.int st), .val (.double (own_q (own_md q1))), .second, .val (.double (own_q hn)), .second, .val (.ref b14), .val (.int (if (nar .boolean st) = (0 : Int32) then (if (0 : Int32) < (cmpValue (FP.dcmp (FP.dsub (own_q hn) (own_q (own_md q1))) (13695778570484766357 : UInt64)) .l) then (1 : Int32) else 0) else (if (cmpValue (FP.dcmp (FP.dsub (own_q hn) (own_q (own_md q1))) (4472406533629990549 : UInt64)) .l) < (0 : Int32) then (0 : Int32) else 1))), .unset, .unset, .unset]) rfl ?_
        show Steps p.tables e below (T24.setTop (mkF m 124 #[.val (.long q1), .second, .val (.long q2), .second, .val (.int p5), .val (.long (1099511627776 : Int64)), .second, .val (.long (own_md q1)), .second, .val (.long hn), .second, .val (.int st), .val (.double (own_q (own_md q1))), .second, .val (.double (own_q hn)), .second, .val (.ref b14), .val (.int (if (nar .boolean st) = (0 : Int32) then (if (0 : Int32) < (cmpValue (FP.dcmp (FP.dsub (own_q hn) (own_q (own_md q1))) (13695778570484766357 : UInt64)) .l) then (1 : Int32) else 0) else (if (cmpValue (FP.dcmp (FP.dsub (own_q hn) (own_q (own_md q1))) (4472406533629990549 : UInt64)) .l) < (0 : Int32) then (0 : Int32) else 1))), .unset, .unset, .unset] [])) _
        refine XS.lload X24.here hx rfl (hb hby at_124) rfl ?_
        show Steps p.tables e below (T24.setTop (mkF m 126 #[.val (.long q1), .second, .val (.long q2), .second, .val (.int p5), .val (.long (1099511627776 : Int64)), .second, .val (.long (own_md q1)), .second, .val (.long hn), .second, .val (.int st), .val (.double (own_q (own_md q1))), .second, .val (.double (own_q hn)), .second, .val (.ref b14), .val (.int (if (nar .boolean st) = (0 : Int32) then (if (0 : Int32) < (cmpValue (FP.dcmp (FP.dsub (own_q hn) (own_q (own_md q1))) (13695778570484766357 : UInt64)) .l) then (1 : Int32) else 0) else (if (cmpValue (FP.dcmp (FP.dsub (own_q hn) (own_q (own_md q1))) (4472406533629990549 : UInt64)) .l) < (0 : Int32) then (0 : Int32) else 1))), .unset, .unset, .unset] [(.long hn)])) _
        refine XS.lload X24.here hx rfl (hb hby at_126) rfl ?_
        show Steps p.tables e below (T24.setTop (mkF m 128 #[.val (.long q1), .second, .val (.long q2), .second, .val (.int p5), .val (.long (1099511627776 : Int64)), .second, .val (.long (own_md q1)), .second, .val (.long hn), .second, .val (.int st), .val (.double (own_q (own_md q1))), .second, .val (.double (own_q hn)), .second, .val (.ref b14), .val (.int (if (nar .boolean st) = (0 : Int32) then (if (0 : Int32) < (cmpValue (FP.dcmp (FP.dsub (own_q hn) (own_q (own_md q1))) (13695778570484766357 : UInt64)) .l) then (1 : Int32) else 0) else (if (cmpValue (FP.dcmp (FP.dsub (own_q hn) (own_q (own_md q1))) (4472406533629990549 : UInt64)) .l) < (0 : Int32) then (0 : Int32) else 1))), .unset, .unset, .unset] [(.long (own_md q1)), (.long hn)])) _
        refine XS.lsub X24.here hx rfl (hb hby at_128) rfl ?_
        show Steps p.tables e below (T24.setTop (mkF m 129 #[.val (.long q1), .second, .val (.long q2), .second, .val (.int p5), .val (.long (1099511627776 : Int64)), .second, .val (.long (own_md q1)), .second, .val (.long hn), .second, .val (.int st), .val (.double (own_q (own_md q1))), .second, .val (.double (own_q hn)), .second, .val (.ref b14), .val (.int (if (nar .boolean st) = (0 : Int32) then (if (0 : Int32) < (cmpValue (FP.dcmp (FP.dsub (own_q hn) (own_q (own_md q1))) (13695778570484766357 : UInt64)) .l) then (1 : Int32) else 0) else (if (cmpValue (FP.dcmp (FP.dsub (own_q hn) (own_q (own_md q1))) (4472406533629990549 : UInt64)) .l) < (0 : Int32) then (0 : Int32) else 1))), .unset, .unset, .unset] [(.long (hn - (own_md q1)))])) _
        refine XS.lstore X24.here hx rfl (hb hby at_129) rfl (l' := #[.val (.long q1), .second, .val (.long q2), .second, .val (.int p5), .val (.long (1099511627776 : Int64)), .second, .val (.long (own_md q1)), .second, .val (.long hn), .second, .val (.int st), .val (.double (own_q (own_md q1))), .second, .val (.double (own_q hn)), .second, .val (.ref b14), .val (.int (if (nar .boolean st) = (0 : Int32) then (if (0 : Int32) < (cmpValue (FP.dcmp (FP.dsub (own_q hn) (own_q (own_md q1))) (13695778570484766357 : UInt64)) .l) then (1 : Int32) else 0) else (if (cmpValue (FP.dcmp (FP.dsub (own_q hn) (own_q (own_md q1))) (4472406533629990549 : UInt64)) .l) < (0 : Int32) then (0 : Int32) else 1))), .val (.long (hn - (own_md q1))), .second, .unset]) rfl ?_
        show Steps p.tables e below (T24.setTop (mkF m 131 #[.val (.long q1), .second, .val (.long q2), .second, .val (.int p5), .val (.long (1099511627776 : Int64)), .second, .val (.long (own_md q1)), .second, .val (.long hn), .second, .val (.int st), .val (.double (own_q (own_md q1))), .second, .val (.double (own_q hn)), .second, .val (.ref b14), .val (.int (if (nar .boolean st) = (0 : Int32) then (if (0 : Int32) < (cmpValue (FP.dcmp (FP.dsub (own_q hn) (own_q (own_md q1))) (13695778570484766357 : UInt64)) .l) then (1 : Int32) else 0) else (if (cmpValue (FP.dcmp (FP.dsub (own_q hn) (own_q (own_md q1))) (4472406533629990549 : UInt64)) .l) < (0 : Int32) then (0 : Int32) else 1))), .val (.long (hn - (own_md q1))), .second, .unset] [])) _
        refine XS.iload X24.here hx rfl (hb hby at_131) rfl ?_
        exact kt
      obtain ⟨jv, q_jv⟩ : ∃ z : Int32, z = (if st = (0 : Int32) then (if (lcmpW (hn - (own_md q1)) (-1099 : Int64)) < (0 : Int32) then (0 : Int32) else (1 : Int32)) else (if (lcmpW (hn - (own_md q1)) (1100 : Int64)) < (0 : Int32) then (0 : Int32) else (1 : Int32))) := ⟨_, rfl⟩
      have sg30 : ∀ target, Steps p.tables e below (T24.setTop (mkF m 167 #[.val (.long q1), .second, .val (.long q2), .second, .val (.int p5), .val (.long (1099511627776 : Int64)), .second, .val (.long (own_md q1)), .second, .val (.long hn), .second, .val (.int st), .val (.double (own_q (own_md q1))), .second, .val (.double (own_q hn)), .second, .val (.ref b14), .val (.int (if (nar .boolean st) = (0 : Int32) then (if (0 : Int32) < (cmpValue (FP.dcmp (FP.dsub (own_q hn) (own_q (own_md q1))) (13695778570484766357 : UInt64)) .l) then (1 : Int32) else 0) else (if (cmpValue (FP.dcmp (FP.dsub (own_q hn) (own_q (own_md q1))) (4472406533629990549 : UInt64)) .l) < (0 : Int32) then (0 : Int32) else 1))), .val (.long (hn - (own_md q1))), .second, .unset] [(.int jv)])) target → Steps p.tables e below (T24.setTop (mkF m 133 #[.val (.long q1), .second, .val (.long q2), .second, .val (.int p5), .val (.long (1099511627776 : Int64)), .second, .val (.long (own_md q1)), .second, .val (.long hn), .second, .val (.int st), .val (.double (own_q (own_md q1))), .second, .val (.double (own_q hn)), .second, .val (.ref b14), .val (.int (if (nar .boolean st) = (0 : Int32) then (if (0 : Int32) < (cmpValue (FP.dcmp (FP.dsub (own_q hn) (own_q (own_md q1))) (13695778570484766357 : UInt64)) .l) then (1 : Int32) else 0) else (if (cmpValue (FP.dcmp (FP.dsub (own_q hn) (own_q (own_md q1))) (4472406533629990549 : UInt64)) .l) < (0 : Int32) then (0 : Int32) else 1))), .val (.long (hn - (own_md q1))), .second, .unset] [(.int st)])) target := by
        intro target kt
        by_cases hj27_133 : st = (0 : Int32)
        · by_cases hj28_159 : (lcmpW (hn - (own_md q1)) (-1099 : Int64)) < (0 : Int32)
          · rw [if_pos hj27_133, if_pos hj28_159] at q_jv
            rw [q_jv] at kt
            show Steps p.tables e below (T24.setTop (mkF m 133 #[.val (.long q1), .second, .val (.long q2), .second, .val (.int p5), .val (.long (1099511627776 : Int64)), .second, .val (.long (own_md q1)), .second, .val (.long hn), .second, .val (.int st), .val (.double (own_q (own_md q1))), .second, .val (.double (own_q hn)), .second, .val (.ref b14), .val (.int (if (nar .boolean st) = (0 : Int32) then (if (0 : Int32) < (cmpValue (FP.dcmp (FP.dsub (own_q hn) (own_q (own_md q1))) (13695778570484766357 : UInt64)) .l) then (1 : Int32) else 0) else (if (cmpValue (FP.dcmp (FP.dsub (own_q hn) (own_q (own_md q1))) (4472406533629990549 : UInt64)) .l) < (0 : Int32) then (0 : Int32) else 1))), .val (.long (hn - (own_md q1))), .second, .unset] [(.int st)])) _
            refine XS.ifYes X24.here hx rfl (pc0 := 133) (pc' := 153) rfl (hb hby at_133) rfl ((if0 _ _).trans (teq (hj27_133 : st = (0 : Int32))).1) (by decide) (by decide) ?_
            show Steps p.tables e below (T24.setTop (mkF m 153 #[.val (.long q1), .second, .val (.long q2), .second, .val (.int p5), .val (.long (1099511627776 : Int64)), .second, .val (.long (own_md q1)), .second, .val (.long hn), .second, .val (.int st), .val (.double (own_q (own_md q1))), .second, .val (.double (own_q hn)), .second, .val (.ref b14), .val (.int (if (nar .boolean st) = (0 : Int32) then (if (0 : Int32) < (cmpValue (FP.dcmp (FP.dsub (own_q hn) (own_q (own_md q1))) (13695778570484766357 : UInt64)) .l) then (1 : Int32) else 0) else (if (cmpValue (FP.dcmp (FP.dsub (own_q hn) (own_q (own_md q1))) (4472406533629990549 : UInt64)) .l) < (0 : Int32) then (0 : Int32) else 1))), .val (.long (hn - (own_md q1))), .second, .unset] [])) _
            refine XS.lload X24.here hx rfl (hb hby at_153) rfl ?_
            show Steps p.tables e below (T24.setTop (mkF m 155 #[.val (.long q1), .second, .val (.long q2), .second, .val (.int p5), .val (.long (1099511627776 : Int64)), .second, .val (.long (own_md q1)), .second, .val (.long hn), .second, .val (.int st), .val (.double (own_q (own_md q1))), .second, .val (.double (own_q hn)), .second, .val (.ref b14), .val (.int (if (nar .boolean st) = (0 : Int32) then (if (0 : Int32) < (cmpValue (FP.dcmp (FP.dsub (own_q hn) (own_q (own_md q1))) (13695778570484766357 : UInt64)) .l) then (1 : Int32) else 0) else (if (cmpValue (FP.dcmp (FP.dsub (own_q hn) (own_q (own_md q1))) (4472406533629990549 : UInt64)) .l) < (0 : Int32) then (0 : Int32) else 1))), .val (.long (hn - (own_md q1))), .second, .unset] [(.long (hn - (own_md q1)))])) _
            refine X24.ldc2Long hx hown (mvT hZ (hw _ (List.mem_of_getElem? (i := 31) rfl))) (g := (mkF m 155 #[.val (.long q1), .second, .val (.long q2), .second, .val (.int p5), .val (.long (1099511627776 : Int64)), .second, .val (.long (own_md q1)), .second, .val (.long hn), .second, .val (.int st), .val (.double (own_q (own_md q1))), .second, .val (.double (own_q hn)), .second, .val (.ref b14), .val (.int (if (nar .boolean st) = (0 : Int32) then (if (0 : Int32) < (cmpValue (FP.dcmp (FP.dsub (own_q hn) (own_q (own_md q1))) (13695778570484766357 : UInt64)) .l) then (1 : Int32) else 0) else (if (cmpValue (FP.dcmp (FP.dsub (own_q hn) (own_q (own_md q1))) (4472406533629990549 : UInt64)) .l) < (0 : Int32) then (0 : Int32) else 1))), .val (.long (hn - (own_md q1))), .second, .unset] [(.long (hn - (own_md q1)))])) rfl (hb hby at_155) _ ?_
            show Steps p.tables e below (T24.setTop (mkF m 158 #[.val (.long q1), .second, .val (.long q2), .second, .val (.int p5), .val (.long (1099511627776 : Int64)), .second, .val (.long (own_md q1)), .second, .val (.long hn), .second, .val (.int st), .val (.double (own_q (own_md q1))), .second, .val (.double (own_q hn)), .second, .val (.ref b14), .val (.int (if (nar .boolean st) = (0 : Int32) then (if (0 : Int32) < (cmpValue (FP.dcmp (FP.dsub (own_q hn) (own_q (own_md q1))) (13695778570484766357 : UInt64)) .l) then (1 : Int32) else 0) else (if (cmpValue (FP.dcmp (FP.dsub (own_q hn) (own_q (own_md q1))) (4472406533629990549 : UInt64)) .l) < (0 : Int32) then (0 : Int32) else 1))), .val (.long (hn - (own_md q1))), .second, .unset] [(.long (-1099 : Int64)), (.long (hn - (own_md q1)))])) _
            refine XS.lcmp X24.here hx rfl (hb hby at_158) rfl ?_
            show Steps p.tables e below (T24.setTop (mkF m 159 #[.val (.long q1), .second, .val (.long q2), .second, .val (.int p5), .val (.long (1099511627776 : Int64)), .second, .val (.long (own_md q1)), .second, .val (.long hn), .second, .val (.int st), .val (.double (own_q (own_md q1))), .second, .val (.double (own_q hn)), .second, .val (.ref b14), .val (.int (if (nar .boolean st) = (0 : Int32) then (if (0 : Int32) < (cmpValue (FP.dcmp (FP.dsub (own_q hn) (own_q (own_md q1))) (13695778570484766357 : UInt64)) .l) then (1 : Int32) else 0) else (if (cmpValue (FP.dcmp (FP.dsub (own_q hn) (own_q (own_md q1))) (4472406533629990549 : UInt64)) .l) < (0 : Int32) then (0 : Int32) else 1))), .val (.long (hn - (own_md q1))), .second, .unset] [(.int (lcmpW (hn - (own_md q1)) (-1099 : Int64)))])) _
            refine XS.ifYes X24.here hx rfl (pc0 := 159) (pc' := 166) rfl (hb hby at_159) rfl ((if0 _ _).trans (tlt (hj28_159 : (lcmpW (hn - (own_md q1)) (-1099 : Int64)) < (0 : Int32))).1) (by decide) (by decide) ?_
            show Steps p.tables e below (T24.setTop (mkF m 166 #[.val (.long q1), .second, .val (.long q2), .second, .val (.int p5), .val (.long (1099511627776 : Int64)), .second, .val (.long (own_md q1)), .second, .val (.long hn), .second, .val (.int st), .val (.double (own_q (own_md q1))), .second, .val (.double (own_q hn)), .second, .val (.ref b14), .val (.int (if (nar .boolean st) = (0 : Int32) then (if (0 : Int32) < (cmpValue (FP.dcmp (FP.dsub (own_q hn) (own_q (own_md q1))) (13695778570484766357 : UInt64)) .l) then (1 : Int32) else 0) else (if (cmpValue (FP.dcmp (FP.dsub (own_q hn) (own_q (own_md q1))) (4472406533629990549 : UInt64)) .l) < (0 : Int32) then (0 : Int32) else 1))), .val (.long (hn - (own_md q1))), .second, .unset] [])) _
            refine XS.iconst X24.here hx rfl (hb hby at_166) ?_
            exact kt
          · rw [if_pos hj27_133, if_neg hj28_159] at q_jv
            rw [q_jv] at kt
            show Steps p.tables e below (T24.setTop (mkF m 133 #[.val (.long q1), .second, .val (.long q2), .second, .val (.int p5), .val (.long (1099511627776 : Int64)), .second, .val (.long (own_md q1)), .second, .val (.long hn), .second, .val (.int st), .val (.double (own_q (own_md q1))), .second, .val (.double (own_q hn)), .second, .val (.ref b14), .val (.int (if (nar .boolean st) = (0 : Int32) then (if (0 : Int32) < (cmpValue (FP.dcmp (FP.dsub (own_q hn) (own_q (own_md q1))) (13695778570484766357 : UInt64)) .l) then (1 : Int32) else 0) else (if (cmpValue (FP.dcmp (FP.dsub (own_q hn) (own_q (own_md q1))) (4472406533629990549 : UInt64)) .l) < (0 : Int32) then (0 : Int32) else 1))), .val (.long (hn - (own_md q1))), .second, .unset] [(.int st)])) _
            refine XS.ifYes X24.here hx rfl (pc0 := 133) (pc' := 153) rfl (hb hby at_133) rfl ((if0 _ _).trans (teq (hj27_133 : st = (0 : Int32))).1) (by decide) (by decide) ?_
            show Steps p.tables e below (T24.setTop (mkF m 153 #[.val (.long q1), .second, .val (.long q2), .second, .val (.int p5), .val (.long (1099511627776 : Int64)), .second, .val (.long (own_md q1)), .second, .val (.long hn), .second, .val (.int st), .val (.double (own_q (own_md q1))), .second, .val (.double (own_q hn)), .second, .val (.ref b14), .val (.int (if (nar .boolean st) = (0 : Int32) then (if (0 : Int32) < (cmpValue (FP.dcmp (FP.dsub (own_q hn) (own_q (own_md q1))) (13695778570484766357 : UInt64)) .l) then (1 : Int32) else 0) else (if (cmpValue (FP.dcmp (FP.dsub (own_q hn) (own_q (own_md q1))) (4472406533629990549 : UInt64)) .l) < (0 : Int32) then (0 : Int32) else 1))), .val (.long (hn - (own_md q1))), .second, .unset] [])) _
            refine XS.lload X24.here hx rfl (hb hby at_153) rfl ?_
            show Steps p.tables e below (T24.setTop (mkF m 155 #[.val (.long q1), .second, .val (.long q2), .second, .val (.int p5), .val (.long (1099511627776 : Int64)), .second, .val (.long (own_md q1)), .second, .val (.long hn), .second, .val (.int st), .val (.double (own_q (own_md q1))), .second, .val (.double (own_q hn)), .second, .val (.ref b14), .val (.int (if (nar .boolean st) = (0 : Int32) then (if (0 : Int32) < (cmpValue (FP.dcmp (FP.dsub (own_q hn) (own_q (own_md q1))) (13695778570484766357 : UInt64)) .l) then (1 : Int32) else 0) else (if (cmpValue (FP.dcmp (FP.dsub (own_q hn) (own_q (own_md q1))) (4472406533629990549 : UInt64)) .l) < (0 : Int32) then (0 : Int32) else 1))), .val (.long (hn - (own_md q1))), .second, .unset] [(.long (hn - (own_md q1)))])) _
            refine X24.ldc2Long hx hown (mvT hZ (hw _ (List.mem_of_getElem? (i := 31) rfl))) (g := (mkF m 155 #[.val (.long q1), .second, .val (.long q2), .second, .val (.int p5), .val (.long (1099511627776 : Int64)), .second, .val (.long (own_md q1)), .second, .val (.long hn), .second, .val (.int st), .val (.double (own_q (own_md q1))), .second, .val (.double (own_q hn)), .second, .val (.ref b14), .val (.int (if (nar .boolean st) = (0 : Int32) then (if (0 : Int32) < (cmpValue (FP.dcmp (FP.dsub (own_q hn) (own_q (own_md q1))) (13695778570484766357 : UInt64)) .l) then (1 : Int32) else 0) else (if (cmpValue (FP.dcmp (FP.dsub (own_q hn) (own_q (own_md q1))) (4472406533629990549 : UInt64)) .l) < (0 : Int32) then (0 : Int32) else 1))), .val (.long (hn - (own_md q1))), .second, .unset] [(.long (hn - (own_md q1)))])) rfl (hb hby at_155) _ ?_
            show Steps p.tables e below (T24.setTop (mkF m 158 #[.val (.long q1), .second, .val (.long q2), .second, .val (.int p5), .val (.long (1099511627776 : Int64)), .second, .val (.long (own_md q1)), .second, .val (.long hn), .second, .val (.int st), .val (.double (own_q (own_md q1))), .second, .val (.double (own_q hn)), .second, .val (.ref b14), .val (.int (if (nar .boolean st) = (0 : Int32) then (if (0 : Int32) < (cmpValue (FP.dcmp (FP.dsub (own_q hn) (own_q (own_md q1))) (13695778570484766357 : UInt64)) .l) then (1 : Int32) else 0) else (if (cmpValue (FP.dcmp (FP.dsub (own_q hn) (own_q (own_md q1))) (4472406533629990549 : UInt64)) .l) < (0 : Int32) then (0 : Int32) else 1))), .val (.long (hn - (own_md q1))), .second, .unset] [(.long (-1099 : Int64)), (.long (hn - (own_md q1)))])) _
            refine XS.lcmp X24.here hx rfl (hb hby at_158) rfl ?_
            show Steps p.tables e below (T24.setTop (mkF m 159 #[.val (.long q1), .second, .val (.long q2), .second, .val (.int p5), .val (.long (1099511627776 : Int64)), .second, .val (.long (own_md q1)), .second, .val (.long hn), .second, .val (.int st), .val (.double (own_q (own_md q1))), .second, .val (.double (own_q hn)), .second, .val (.ref b14), .val (.int (if (nar .boolean st) = (0 : Int32) then (if (0 : Int32) < (cmpValue (FP.dcmp (FP.dsub (own_q hn) (own_q (own_md q1))) (13695778570484766357 : UInt64)) .l) then (1 : Int32) else 0) else (if (cmpValue (FP.dcmp (FP.dsub (own_q hn) (own_q (own_md q1))) (4472406533629990549 : UInt64)) .l) < (0 : Int32) then (0 : Int32) else 1))), .val (.long (hn - (own_md q1))), .second, .unset] [(.int (lcmpW (hn - (own_md q1)) (-1099 : Int64)))])) _
            refine XS.ifNo X24.here hx rfl (hb hby at_159) rfl ((if0 _ _).trans (flt (hj28_159 : ¬ ((lcmpW (hn - (own_md q1)) (-1099 : Int64)) < (0 : Int32)))).1) ?_
            show Steps p.tables e below (T24.setTop (mkF m 162 #[.val (.long q1), .second, .val (.long q2), .second, .val (.int p5), .val (.long (1099511627776 : Int64)), .second, .val (.long (own_md q1)), .second, .val (.long hn), .second, .val (.int st), .val (.double (own_q (own_md q1))), .second, .val (.double (own_q hn)), .second, .val (.ref b14), .val (.int (if (nar .boolean st) = (0 : Int32) then (if (0 : Int32) < (cmpValue (FP.dcmp (FP.dsub (own_q hn) (own_q (own_md q1))) (13695778570484766357 : UInt64)) .l) then (1 : Int32) else 0) else (if (cmpValue (FP.dcmp (FP.dsub (own_q hn) (own_q (own_md q1))) (4472406533629990549 : UInt64)) .l) < (0 : Int32) then (0 : Int32) else 1))), .val (.long (hn - (own_md q1))), .second, .unset] [])) _
            refine XS.iconst X24.here hx rfl (hb hby at_162) ?_
            show Steps p.tables e below (T24.setTop (mkF m 163 #[.val (.long q1), .second, .val (.long q2), .second, .val (.int p5), .val (.long (1099511627776 : Int64)), .second, .val (.long (own_md q1)), .second, .val (.long hn), .second, .val (.int st), .val (.double (own_q (own_md q1))), .second, .val (.double (own_q hn)), .second, .val (.ref b14), .val (.int (if (nar .boolean st) = (0 : Int32) then (if (0 : Int32) < (cmpValue (FP.dcmp (FP.dsub (own_q hn) (own_q (own_md q1))) (13695778570484766357 : UInt64)) .l) then (1 : Int32) else 0) else (if (cmpValue (FP.dcmp (FP.dsub (own_q hn) (own_q (own_md q1))) (4472406533629990549 : UInt64)) .l) < (0 : Int32) then (0 : Int32) else 1))), .val (.long (hn - (own_md q1))), .second, .unset] [(.int (1 : Int32))])) _
            refine XS.goto X24.here hx rfl (pc0 := 163) (pc' := 167) rfl (hb hby at_163) (by decide) (by decide) ?_
            exact kt
        · by_cases hj29_142 : (lcmpW (hn - (own_md q1)) (1100 : Int64)) < (0 : Int32)
          · rw [if_neg hj27_133, if_pos hj29_142] at q_jv
            rw [q_jv] at kt
            show Steps p.tables e below (T24.setTop (mkF m 133 #[.val (.long q1), .second, .val (.long q2), .second, .val (.int p5), .val (.long (1099511627776 : Int64)), .second, .val (.long (own_md q1)), .second, .val (.long hn), .second, .val (.int st), .val (.double (own_q (own_md q1))), .second, .val (.double (own_q hn)), .second, .val (.ref b14), .val (.int (if (nar .boolean st) = (0 : Int32) then (if (0 : Int32) < (cmpValue (FP.dcmp (FP.dsub (own_q hn) (own_q (own_md q1))) (13695778570484766357 : UInt64)) .l) then (1 : Int32) else 0) else (if (cmpValue (FP.dcmp (FP.dsub (own_q hn) (own_q (own_md q1))) (4472406533629990549 : UInt64)) .l) < (0 : Int32) then (0 : Int32) else 1))), .val (.long (hn - (own_md q1))), .second, .unset] [(.int st)])) _
            refine XS.ifNo X24.here hx rfl (hb hby at_133) rfl ((if0 _ _).trans (feq (hj27_133 : ¬ (st = (0 : Int32)))).1) ?_
            show Steps p.tables e below (T24.setTop (mkF m 136 #[.val (.long q1), .second, .val (.long q2), .second, .val (.int p5), .val (.long (1099511627776 : Int64)), .second, .val (.long (own_md q1)), .second, .val (.long hn), .second, .val (.int st), .val (.double (own_q (own_md q1))), .second, .val (.double (own_q hn)), .second, .val (.ref b14), .val (.int (if (nar .boolean st) = (0 : Int32) then (if (0 : Int32) < (cmpValue (FP.dcmp (FP.dsub (own_q hn) (own_q (own_md q1))) (13695778570484766357 : UInt64)) .l) then (1 : Int32) else 0) else (if (cmpValue (FP.dcmp (FP.dsub (own_q hn) (own_q (own_md q1))) (4472406533629990549 : UInt64)) .l) < (0 : Int32) then (0 : Int32) else 1))), .val (.long (hn - (own_md q1))), .second, .unset] [])) _
            refine XS.lload X24.here hx rfl (hb hby at_136) rfl ?_
            show Steps p.tables e below (T24.setTop (mkF m 138 #[.val (.long q1), .second, .val (.long q2), .second, .val (.int p5), .val (.long (1099511627776 : Int64)), .second, .val (.long (own_md q1)), .second, .val (.long hn), .second, .val (.int st), .val (.double (own_q (own_md q1))), .second, .val (.double (own_q hn)), .second, .val (.ref b14), .val (.int (if (nar .boolean st) = (0 : Int32) then (if (0 : Int32) < (cmpValue (FP.dcmp (FP.dsub (own_q hn) (own_q (own_md q1))) (13695778570484766357 : UInt64)) .l) then (1 : Int32) else 0) else (if (cmpValue (FP.dcmp (FP.dsub (own_q hn) (own_q (own_md q1))) (4472406533629990549 : UInt64)) .l) < (0 : Int32) then (0 : Int32) else 1))), .val (.long (hn - (own_md q1))), .second, .unset] [(.long (hn - (own_md q1)))])) _
            refine X24.ldc2Long hx hown (mvT hZ (hw _ (List.mem_of_getElem? (i := 29) rfl))) (g := (mkF m 138 #[.val (.long q1), .second, .val (.long q2), .second, .val (.int p5), .val (.long (1099511627776 : Int64)), .second, .val (.long (own_md q1)), .second, .val (.long hn), .second, .val (.int st), .val (.double (own_q (own_md q1))), .second, .val (.double (own_q hn)), .second, .val (.ref b14), .val (.int (if (nar .boolean st) = (0 : Int32) then (if (0 : Int32) < (cmpValue (FP.dcmp (FP.dsub (own_q hn) (own_q (own_md q1))) (13695778570484766357 : UInt64)) .l) then (1 : Int32) else 0) else (if (cmpValue (FP.dcmp (FP.dsub (own_q hn) (own_q (own_md q1))) (4472406533629990549 : UInt64)) .l) < (0 : Int32) then (0 : Int32) else 1))), .val (.long (hn - (own_md q1))), .second, .unset] [(.long (hn - (own_md q1)))])) rfl (hb hby at_138) _ ?_
            show Steps p.tables e below (T24.setTop (mkF m 141 #[.val (.long q1), .second, .val (.long q2), .second, .val (.int p5), .val (.long (1099511627776 : Int64)), .second, .val (.long (own_md q1)), .second, .val (.long hn), .second, .val (.int st), .val (.double (own_q (own_md q1))), .second, .val (.double (own_q hn)), .second, .val (.ref b14), .val (.int (if (nar .boolean st) = (0 : Int32) then (if (0 : Int32) < (cmpValue (FP.dcmp (FP.dsub (own_q hn) (own_q (own_md q1))) (13695778570484766357 : UInt64)) .l) then (1 : Int32) else 0) else (if (cmpValue (FP.dcmp (FP.dsub (own_q hn) (own_q (own_md q1))) (4472406533629990549 : UInt64)) .l) < (0 : Int32) then (0 : Int32) else 1))), .val (.long (hn - (own_md q1))), .second, .unset] [(.long (1100 : Int64)), (.long (hn - (own_md q1)))])) _
            refine XS.lcmp X24.here hx rfl (hb hby at_141) rfl ?_
            show Steps p.tables e below (T24.setTop (mkF m 142 #[.val (.long q1), .second, .val (.long q2), .second, .val (.int p5), .val (.long (1099511627776 : Int64)), .second, .val (.long (own_md q1)), .second, .val (.long hn), .second, .val (.int st), .val (.double (own_q (own_md q1))), .second, .val (.double (own_q hn)), .second, .val (.ref b14), .val (.int (if (nar .boolean st) = (0 : Int32) then (if (0 : Int32) < (cmpValue (FP.dcmp (FP.dsub (own_q hn) (own_q (own_md q1))) (13695778570484766357 : UInt64)) .l) then (1 : Int32) else 0) else (if (cmpValue (FP.dcmp (FP.dsub (own_q hn) (own_q (own_md q1))) (4472406533629990549 : UInt64)) .l) < (0 : Int32) then (0 : Int32) else 1))), .val (.long (hn - (own_md q1))), .second, .unset] [(.int (lcmpW (hn - (own_md q1)) (1100 : Int64)))])) _
            refine XS.ifYes X24.here hx rfl (pc0 := 142) (pc' := 149) rfl (hb hby at_142) rfl ((if0 _ _).trans (tlt (hj29_142 : (lcmpW (hn - (own_md q1)) (1100 : Int64)) < (0 : Int32))).1) (by decide) (by decide) ?_
            show Steps p.tables e below (T24.setTop (mkF m 149 #[.val (.long q1), .second, .val (.long q2), .second, .val (.int p5), .val (.long (1099511627776 : Int64)), .second, .val (.long (own_md q1)), .second, .val (.long hn), .second, .val (.int st), .val (.double (own_q (own_md q1))), .second, .val (.double (own_q hn)), .second, .val (.ref b14), .val (.int (if (nar .boolean st) = (0 : Int32) then (if (0 : Int32) < (cmpValue (FP.dcmp (FP.dsub (own_q hn) (own_q (own_md q1))) (13695778570484766357 : UInt64)) .l) then (1 : Int32) else 0) else (if (cmpValue (FP.dcmp (FP.dsub (own_q hn) (own_q (own_md q1))) (4472406533629990549 : UInt64)) .l) < (0 : Int32) then (0 : Int32) else 1))), .val (.long (hn - (own_md q1))), .second, .unset] [])) _
            refine XS.iconst X24.here hx rfl (hb hby at_149) ?_
            show Steps p.tables e below (T24.setTop (mkF m 150 #[.val (.long q1), .second, .val (.long q2), .second, .val (.int p5), .val (.long (1099511627776 : Int64)), .second, .val (.long (own_md q1)), .second, .val (.long hn), .second, .val (.int st), .val (.double (own_q (own_md q1))), .second, .val (.double (own_q hn)), .second, .val (.ref b14), .val (.int (if (nar .boolean st) = (0 : Int32) then (if (0 : Int32) < (cmpValue (FP.dcmp (FP.dsub (own_q hn) (own_q (own_md q1))) (13695778570484766357 : UInt64)) .l) then (1 : Int32) else 0) else (if (cmpValue (FP.dcmp (FP.dsub (own_q hn) (own_q (own_md q1))) (4472406533629990549 : UInt64)) .l) < (0 : Int32) then (0 : Int32) else 1))), .val (.long (hn - (own_md q1))), .second, .unset] [(.int (0 : Int32))])) _
            refine XS.goto X24.here hx rfl (pc0 := 150) (pc' := 167) rfl (hb hby at_150) (by decide) (by decide) ?_
            exact kt
          · rw [if_neg hj27_133, if_neg hj29_142] at q_jv
            rw [q_jv] at kt
            show Steps p.tables e below (T24.setTop (mkF m 133 #[.val (.long q1), .second, .val (.long q2), .second, .val (.int p5), .val (.long (1099511627776 : Int64)), .second, .val (.long (own_md q1)), .second, .val (.long hn), .second, .val (.int st), .val (.double (own_q (own_md q1))), .second, .val (.double (own_q hn)), .second, .val (.ref b14), .val (.int (if (nar .boolean st) = (0 : Int32) then (if (0 : Int32) < (cmpValue (FP.dcmp (FP.dsub (own_q hn) (own_q (own_md q1))) (13695778570484766357 : UInt64)) .l) then (1 : Int32) else 0) else (if (cmpValue (FP.dcmp (FP.dsub (own_q hn) (own_q (own_md q1))) (4472406533629990549 : UInt64)) .l) < (0 : Int32) then (0 : Int32) else 1))), .val (.long (hn - (own_md q1))), .second, .unset] [(.int st)])) _
            refine XS.ifNo X24.here hx rfl (hb hby at_133) rfl ((if0 _ _).trans (feq (hj27_133 : ¬ (st = (0 : Int32)))).1) ?_
            show Steps p.tables e below (T24.setTop (mkF m 136 #[.val (.long q1), .second, .val (.long q2), .second, .val (.int p5), .val (.long (1099511627776 : Int64)), .second, .val (.long (own_md q1)), .second, .val (.long hn), .second, .val (.int st), .val (.double (own_q (own_md q1))), .second, .val (.double (own_q hn)), .second, .val (.ref b14), .val (.int (if (nar .boolean st) = (0 : Int32) then (if (0 : Int32) < (cmpValue (FP.dcmp (FP.dsub (own_q hn) (own_q (own_md q1))) (13695778570484766357 : UInt64)) .l) then (1 : Int32) else 0) else (if (cmpValue (FP.dcmp (FP.dsub (own_q hn) (own_q (own_md q1))) (4472406533629990549 : UInt64)) .l) < (0 : Int32) then (0 : Int32) else 1))), .val (.long (hn - (own_md q1))), .second, .unset] [])) _
            refine XS.lload X24.here hx rfl (hb hby at_136) rfl ?_
            show Steps p.tables e below (T24.setTop (mkF m 138 #[.val (.long q1), .second, .val (.long q2), .second, .val (.int p5), .val (.long (1099511627776 : Int64)), .second, .val (.long (own_md q1)), .second, .val (.long hn), .second, .val (.int st), .val (.double (own_q (own_md q1))), .second, .val (.double (own_q hn)), .second, .val (.ref b14), .val (.int (if (nar .boolean st) = (0 : Int32) then (if (0 : Int32) < (cmpValue (FP.dcmp (FP.dsub (own_q hn) (own_q (own_md q1))) (13695778570484766357 : UInt64)) .l) then (1 : Int32) else 0) else (if (cmpValue (FP.dcmp (FP.dsub (own_q hn) (own_q (own_md q1))) (4472406533629990549 : UInt64)) .l) < (0 : Int32) then (0 : Int32) else 1))), .val (.long (hn - (own_md q1))), .second, .unset] [(.long (hn - (own_md q1)))])) _
            refine X24.ldc2Long hx hown (mvT hZ (hw _ (List.mem_of_getElem? (i := 29) rfl))) (g := (mkF m 138 #[.val (.long q1), .second, .val (.long q2), .second, .val (.int p5), .val (.long (1099511627776 : Int64)), .second, .val (.long (own_md q1)), .second, .val (.long hn), .second, .val (.int st), .val (.double (own_q (own_md q1))), .second, .val (.double (own_q hn)), .second, .val (.ref b14), .val (.int (if (nar .boolean st) = (0 : Int32) then (if (0 : Int32) < (cmpValue (FP.dcmp (FP.dsub (own_q hn) (own_q (own_md q1))) (13695778570484766357 : UInt64)) .l) then (1 : Int32) else 0) else (if (cmpValue (FP.dcmp (FP.dsub (own_q hn) (own_q (own_md q1))) (4472406533629990549 : UInt64)) .l) < (0 : Int32) then (0 : Int32) else 1))), .val (.long (hn - (own_md q1))), .second, .unset] [(.long (hn - (own_md q1)))])) rfl (hb hby at_138) _ ?_
            show Steps p.tables e below (T24.setTop (mkF m 141 #[.val (.long q1), .second, .val (.long q2), .second, .val (.int p5), .val (.long (1099511627776 : Int64)), .second, .val (.long (own_md q1)), .second, .val (.long hn), .second, .val (.int st), .val (.double (own_q (own_md q1))), .second, .val (.double (own_q hn)), .second, .val (.ref b14), .val (.int (if (nar .boolean st) = (0 : Int32) then (if (0 : Int32) < (cmpValue (FP.dcmp (FP.dsub (own_q hn) (own_q (own_md q1))) (13695778570484766357 : UInt64)) .l) then (1 : Int32) else 0) else (if (cmpValue (FP.dcmp (FP.dsub (own_q hn) (own_q (own_md q1))) (4472406533629990549 : UInt64)) .l) < (0 : Int32) then (0 : Int32) else 1))), .val (.long (hn - (own_md q1))), .second, .unset] [(.long (1100 : Int64)), (.long (hn - (own_md q1)))])) _
            refine XS.lcmp X24.here hx rfl (hb hby at_141) rfl ?_
            show Steps p.tables e below (T24.setTop (mkF m 142 #[.val (.long q1), .second, .val (.long q2), .second, .val (.int p5), .val (.long (1099511627776 : Int64)), .second, .val (.long (own_md q1)), .second, .val (.long hn), .second, .val (.int st), .val (.double (own_q (own_md q1))), .second, .val (.double (own_q hn)), .second, .val (.ref b14), .val (.int (if (nar .boolean st) = (0 : Int32) then (if (0 : Int32) < (cmpValue (FP.dcmp (FP.dsub (own_q hn) (own_q (own_md q1))) (13695778570484766357 : UInt64)) .l) then (1 : Int32) else 0) else (if (cmpValue (FP.dcmp (FP.dsub (own_q hn) (own_q (own_md q1))) (4472406533629990549 : UInt64)) .l) < (0 : Int32) then (0 : Int32) else 1))), .val (.long (hn - (own_md q1))), .second, .unset] [(.int (lcmpW (hn - (own_md q1)) (1100 : Int64)))])) _
            refine XS.ifNo X24.here hx rfl (hb hby at_142) rfl ((if0 _ _).trans (flt (hj29_142 : ¬ ((lcmpW (hn - (own_md q1)) (1100 : Int64)) < (0 : Int32)))).1) ?_
            show Steps p.tables e below (T24.setTop (mkF m 145 #[.val (.long q1), .second, .val (.long q2), .second, .val (.int p5), .val (.long (1099511627776 : Int64)), .second, .val (.long (own_md q1)), .second, .val (.long hn), .second, .val (.int st), .val (.double (own_q (own_md q1))), .second, .val (.double (own_q hn)), .second, .val (.ref b14), .val (.int (if (nar .boolean st) = (0 : Int32) then (if (0 : Int32) < (cmpValue (FP.dcmp (FP.dsub (own_q hn) (own_q (own_md q1))) (13695778570484766357 : UInt64)) .l) then (1 : Int32) else 0) else (if (cmpValue (FP.dcmp (FP.dsub (own_q hn) (own_q (own_md q1))) (4472406533629990549 : UInt64)) .l) < (0 : Int32) then (0 : Int32) else 1))), .val (.long (hn - (own_md q1))), .second, .unset] [])) _
            refine XS.iconst X24.here hx rfl (hb hby at_145) ?_
            show Steps p.tables e below (T24.setTop (mkF m 146 #[.val (.long q1), .second, .val (.long q2), .second, .val (.int p5), .val (.long (1099511627776 : Int64)), .second, .val (.long (own_md q1)), .second, .val (.long hn), .second, .val (.int st), .val (.double (own_q (own_md q1))), .second, .val (.double (own_q hn)), .second, .val (.ref b14), .val (.int (if (nar .boolean st) = (0 : Int32) then (if (0 : Int32) < (cmpValue (FP.dcmp (FP.dsub (own_q hn) (own_q (own_md q1))) (13695778570484766357 : UInt64)) .l) then (1 : Int32) else 0) else (if (cmpValue (FP.dcmp (FP.dsub (own_q hn) (own_q (own_md q1))) (4472406533629990549 : UInt64)) .l) < (0 : Int32) then (0 : Int32) else 1))), .val (.long (hn - (own_md q1))), .second, .unset] [(.int (1 : Int32))])) _
            refine XS.goto X24.here hx rfl (pc0 := 146) (pc' := 167) rfl (hb hby at_146) (by decide) (by decide) ?_
            exact kt
      have sg31 : ∀ target, Steps p.tables e below (T24.setTop (mkF m 181 #[.val (.long q1), .second, .val (.long q2), .second, .val (.int p5), .val (.long (1099511627776 : Int64)), .second, .val (.long (own_md q1)), .second, .val (.long hn), .second, .val (.int st), .val (.double (own_q (own_md q1))), .second, .val (.double (own_q hn)), .second, .val (.ref b14), .val (.int (if (nar .boolean st) = (0 : Int32) then (if (0 : Int32) < (cmpValue (FP.dcmp (FP.dsub (own_q hn) (own_q (own_md q1))) (13695778570484766357 : UInt64)) .l) then (1 : Int32) else 0) else (if (cmpValue (FP.dcmp (FP.dsub (own_q hn) (own_q (own_md q1))) (4472406533629990549 : UInt64)) .l) < (0 : Int32) then (0 : Int32) else 1))), .val (.long (hn - (own_md q1))), .second, .val (.int jv)] [(.int (1 : Int32))])) target → Steps p.tables e below (T24.setTop (mkF m 167 #[.val (.long q1), .second, .val (.long q2), .second, .val (.int p5), .val (.long (1099511627776 : Int64)), .second, .val (.long (own_md q1)), .second, .val (.long hn), .second, .val (.int st), .val (.double (own_q (own_md q1))), .second, .val (.double (own_q hn)), .second, .val (.ref b14), .val (.int (if (nar .boolean st) = (0 : Int32) then (if (0 : Int32) < (cmpValue (FP.dcmp (FP.dsub (own_q hn) (own_q (own_md q1))) (13695778570484766357 : UInt64)) .l) then (1 : Int32) else 0) else (if (cmpValue (FP.dcmp (FP.dsub (own_q hn) (own_q (own_md q1))) (4472406533629990549 : UInt64)) .l) < (0 : Int32) then (0 : Int32) else 1))), .val (.long (hn - (own_md q1))), .second, .unset] [(.int jv)])) target := by
        intro target kt
        show Steps p.tables e below (T24.setTop (mkF m 167 #[.val (.long q1), .second, .val (.long q2), .second, .val (.int p5), .val (.long (1099511627776 : Int64)), .second, .val (.long (own_md q1)), .second, .val (.long hn), .second, .val (.int st), .val (.double (own_q (own_md q1))), .second, .val (.double (own_q hn)), .second, .val (.ref b14), .val (.int (if (nar .boolean st) = (0 : Int32) then (if (0 : Int32) < (cmpValue (FP.dcmp (FP.dsub (own_q hn) (own_q (own_md q1))) (13695778570484766357 : UInt64)) .l) then (1 : Int32) else 0) else (if (cmpValue (FP.dcmp (FP.dsub (own_q hn) (own_q (own_md q1))) (4472406533629990549 : UInt64)) .l) < (0 : Int32) then (0 : Int32) else 1))), .val (.long (hn - (own_md q1))), .second, .unset] [(.int jv)])) _
        refine XS.istore X24.here hx rfl (hb hby at_167) rfl (l' := #[.val (.long q1), .second, .val (.long q2), .second, .val (.int p5), .val (.long (1099511627776 : Int64)), .second, .val (.long (own_md q1)), .second, .val (.long hn), .second, .val (.int st), .val (.double (own_q (own_md q1))), .second, .val (.double (own_q hn)), .second, .val (.ref b14), .val (.int (if (nar .boolean st) = (0 : Int32) then (if (0 : Int32) < (cmpValue (FP.dcmp (FP.dsub (own_q hn) (own_q (own_md q1))) (13695778570484766357 : UInt64)) .l) then (1 : Int32) else 0) else (if (cmpValue (FP.dcmp (FP.dsub (own_q hn) (own_q (own_md q1))) (4472406533629990549 : UInt64)) .l) < (0 : Int32) then (0 : Int32) else 1))), .val (.long (hn - (own_md q1))), .second, .val (.int jv)]) rfl ?_
        show Steps p.tables e below (T24.setTop (mkF m 169 #[.val (.long q1), .second, .val (.long q2), .second, .val (.int p5), .val (.long (1099511627776 : Int64)), .second, .val (.long (own_md q1)), .second, .val (.long hn), .second, .val (.int st), .val (.double (own_q (own_md q1))), .second, .val (.double (own_q hn)), .second, .val (.ref b14), .val (.int (if (nar .boolean st) = (0 : Int32) then (if (0 : Int32) < (cmpValue (FP.dcmp (FP.dsub (own_q hn) (own_q (own_md q1))) (13695778570484766357 : UInt64)) .l) then (1 : Int32) else 0) else (if (cmpValue (FP.dcmp (FP.dsub (own_q hn) (own_q (own_md q1))) (4472406533629990549 : UInt64)) .l) < (0 : Int32) then (0 : Int32) else 1))), .val (.long (hn - (own_md q1))), .second, .val (.int jv)] [])) _
        refine XS.iload X24.here hx rfl (hb hby at_169) rfl ?_
        show Steps p.tables e below (T24.setTop (mkF m 171 #[.val (.long q1), .second, .val (.long q2), .second, .val (.int p5), .val (.long (1099511627776 : Int64)), .second, .val (.long (own_md q1)), .second, .val (.long hn), .second, .val (.int st), .val (.double (own_q (own_md q1))), .second, .val (.double (own_q hn)), .second, .val (.ref b14), .val (.int (if (nar .boolean st) = (0 : Int32) then (if (0 : Int32) < (cmpValue (FP.dcmp (FP.dsub (own_q hn) (own_q (own_md q1))) (13695778570484766357 : UInt64)) .l) then (1 : Int32) else 0) else (if (cmpValue (FP.dcmp (FP.dsub (own_q hn) (own_q (own_md q1))) (4472406533629990549 : UInt64)) .l) < (0 : Int32) then (0 : Int32) else 1))), .val (.long (hn - (own_md q1))), .second, .val (.int jv)] [(.int (if (nar .boolean st) = (0 : Int32) then (if (0 : Int32) < (cmpValue (FP.dcmp (FP.dsub (own_q hn) (own_q (own_md q1))) (13695778570484766357 : UInt64)) .l) then (1 : Int32) else 0) else (if (cmpValue (FP.dcmp (FP.dsub (own_q hn) (own_q (own_md q1))) (4472406533629990549 : UInt64)) .l) < (0 : Int32) then (0 : Int32) else 1)))])) _
        refine XS.iload X24.here hx rfl (hb hby at_171) rfl ?_
        show Steps p.tables e below (T24.setTop (mkF m 173 #[.val (.long q1), .second, .val (.long q2), .second, .val (.int p5), .val (.long (1099511627776 : Int64)), .second, .val (.long (own_md q1)), .second, .val (.long hn), .second, .val (.int st), .val (.double (own_q (own_md q1))), .second, .val (.double (own_q hn)), .second, .val (.ref b14), .val (.int (if (nar .boolean st) = (0 : Int32) then (if (0 : Int32) < (cmpValue (FP.dcmp (FP.dsub (own_q hn) (own_q (own_md q1))) (13695778570484766357 : UInt64)) .l) then (1 : Int32) else 0) else (if (cmpValue (FP.dcmp (FP.dsub (own_q hn) (own_q (own_md q1))) (4472406533629990549 : UInt64)) .l) < (0 : Int32) then (0 : Int32) else 1))), .val (.long (hn - (own_md q1))), .second, .val (.int jv)] [(.int jv), (.int (if (nar .boolean st) = (0 : Int32) then (if (0 : Int32) < (cmpValue (FP.dcmp (FP.dsub (own_q hn) (own_q (own_md q1))) (13695778570484766357 : UInt64)) .l) then (1 : Int32) else 0) else (if (cmpValue (FP.dcmp (FP.dsub (own_q hn) (own_q (own_md q1))) (4472406533629990549 : UInt64)) .l) < (0 : Int32) then (0 : Int32) else 1)))])) _
        refine XS.icmpNo X24.here hx rfl (hb hby at_173) rfl (teq (by rw [q_jv]; exact own_final hp hh hst : (if (nar .boolean st) = (0 : Int32) then (if (0 : Int32) < (cmpValue (FP.dcmp (FP.dsub (own_q hn) (own_q (own_md q1))) (13695778570484766357 : UInt64)) .l) then (1 : Int32) else 0) else (if (cmpValue (FP.dcmp (FP.dsub (own_q hn) (own_q (own_md q1))) (4472406533629990549 : UInt64)) .l) < (0 : Int32) then (0 : Int32) else 1)) = jv)).2 ?_
        show Steps p.tables e below (T24.setTop (mkF m 176 #[.val (.long q1), .second, .val (.long q2), .second, .val (.int p5), .val (.long (1099511627776 : Int64)), .second, .val (.long (own_md q1)), .second, .val (.long hn), .second, .val (.int st), .val (.double (own_q (own_md q1))), .second, .val (.double (own_q hn)), .second, .val (.ref b14), .val (.int (if (nar .boolean st) = (0 : Int32) then (if (0 : Int32) < (cmpValue (FP.dcmp (FP.dsub (own_q hn) (own_q (own_md q1))) (13695778570484766357 : UInt64)) .l) then (1 : Int32) else 0) else (if (cmpValue (FP.dcmp (FP.dsub (own_q hn) (own_q (own_md q1))) (4472406533629990549 : UInt64)) .l) < (0 : Int32) then (0 : Int32) else 1))), .val (.long (hn - (own_md q1))), .second, .val (.int jv)] [])) _
        refine XS.iconst X24.here hx rfl (hb hby at_176) ?_
        show Steps p.tables e below (T24.setTop (mkF m 177 #[.val (.long q1), .second, .val (.long q2), .second, .val (.int p5), .val (.long (1099511627776 : Int64)), .second, .val (.long (own_md q1)), .second, .val (.long hn), .second, .val (.int st), .val (.double (own_q (own_md q1))), .second, .val (.double (own_q hn)), .second, .val (.ref b14), .val (.int (if (nar .boolean st) = (0 : Int32) then (if (0 : Int32) < (cmpValue (FP.dcmp (FP.dsub (own_q hn) (own_q (own_md q1))) (13695778570484766357 : UInt64)) .l) then (1 : Int32) else 0) else (if (cmpValue (FP.dcmp (FP.dsub (own_q hn) (own_q (own_md q1))) (4472406533629990549 : UInt64)) .l) < (0 : Int32) then (0 : Int32) else 1))), .val (.long (hn - (own_md q1))), .second, .val (.int jv)] [(.int (1 : Int32))])) _
        refine XS.goto X24.here hx rfl (pc0 := 177) (pc' := 181) rfl (hb hby at_177) (by decide) (by decide) ?_
        exact kt
      obtain ⟨fs, hr, hrun, hended, hW, hsame⟩ := X24.leave (v := some (.int (1 : Int32))) (fun h => by rw [Bd.returns] at h; cases h)
      refine ⟨_, _, pre0 _ ?_, hrun, hended, _, _, rfl, ?_, ⟨_, rfl⟩, hW, hsame.mono (by decide) (by decide)⟩
      · show Steps p.tables e below (s₁.setTop (mkF m 0 #[.val (.long q1), .second, .val (.long q2), .second, .val (.int p5), .unset, .unset, .unset, .unset, .unset, .unset, .unset, .unset, .unset, .unset, .unset, .unset, .unset, .unset, .unset, .unset] [])) _
        refine sg1 _ ?_
        refine sg4 _ ?_
        refine sg5 _ ?_
        refine sg7 _ ?_
        refine sg9 _ ?_
        refine sg12 _ ?_
        refine sg13 _ ?_
        refine st14 _ ?_
        refine sg18 _ ?_
        refine st19.trans ?_
        refine sg23 _ ?_
        refine st24.trans ?_
        refine sg25 _ ?_
        refine sg30 _ ?_
        refine sg31 _ ?_
        show Steps p.tables e below (T24.setTop (mkF m 181 #[.val (.long q1), .second, .val (.long q2), .second, .val (.int p5), .val (.long (1099511627776 : Int64)), .second, .val (.long (own_md q1)), .second, .val (.long hn), .second, .val (.int st), .val (.double (own_q (own_md q1))), .second, .val (.double (own_q hn)), .second, .val (.ref b14), .val (.int (if (nar .boolean st) = (0 : Int32) then (if (0 : Int32) < (cmpValue (FP.dcmp (FP.dsub (own_q hn) (own_q (own_md q1))) (13695778570484766357 : UInt64)) .l) then (1 : Int32) else 0) else (if (cmpValue (FP.dcmp (FP.dsub (own_q hn) (own_q (own_md q1))) (4472406533629990549 : UInt64)) .l) < (0 : Int32) then (0 : Int32) else 1))), .val (.long (hn - (own_md q1))), .second, .val (.int jv)] [(.int (1 : Int32))])) _
        exact retN X24 hx (t := .boolean) Bd.returns (by simp) (hb hby at_181) hr
      · show Q_rm0 Z q1 q2 p5 h0 n0 _ T24.heap _
        rw [c24_0]
        exact ⟨rfl, N24⟩
set_option maxRecDepth 65536 in
set_option maxHeartbeats 40000000 in
theorem comes_1 {Post : Tables → Env → Array Value → State → Outcome → State → Prop} (hpost : ∀ tb e args s v u, (limb_1_1.after args s (.returned v) u = true ∧ limb_1_2.after args s (.returned v) u = true ∧ True) → FrameEnd s (.returned v) u (Jvm.fieldLocs frame_1_writes args s ++ Jvm.arrayLocs frame_1_arrays args s ++ Jvm.staticLocs frame_1_statics s) 16 128 → Post tb e args s (.returned v) u) :
    ArmFor flags0 classFile x code maxLocals ret World_1 tables_1 room_1 Calls_1 rest_1 Pre_1 Post := by
  intro l hfl _ _ p e ha hc hk s m args below hf hA hF happ hP
  obtain ⟨hcalls, hrest, hpre⟩ := hP
  obtain ⟨-, -, -, hnamed, -, -, -, hat⟩ := (Spec.applies_iff hf).mp happ
  obtain ⟨hg, hn⟩ := and_e (Cond.before_iff.mp (show (Jvm.Cond.and given_1 narrow_1).before args s = true from hpre))
  obtain ⟨g1, g2⟩ := and_e hg
  obtain ⟨g3, g4⟩ := and_e g2
  obtain ⟨g5, g6⟩ := and_e g4
  obtain ⟨w0, w1, w2, rfl⟩ : ∃ w0 w1 w2 : Value, args = #[w0, w1, w2] := by
    have hs : args.size = 3 := by simpa [Cond.value, given_1] using g1
    obtain ⟨L⟩ := args
    match L, hs with
    | [w0, w1, w2], _ => exact ⟨w0, w1, w2, rfl⟩
  have hw := fun d (hd : d ∈ tables_1) => atoms_spec (ws := Jvm.Cond.code x code maxLocals ret :: tables_1) hat d (List.mem_cons_of_mem _ hd)
  have hfit : Fit s := fun {y c} hc i hi => by
    obtain ⟨ha, rfl⟩ := Array.getElem?_eq_some_iff.mp hc
    have q := List.all_eq_true.mp ((Array.all_eq_true_iff_forall_mem.mp hF) _ (Array.getElem_mem ha)) i (List.mem_range.mpr hi)
    simpa [Array.getElem?_eq_getElem hi] using q
  obtain ⟨i0, ei0⟩ := isL_v g3
  obtain rfl : w0 = (.long i0) := Option.some.inj ei0
  obtain ⟨i1, ei1⟩ := isL_v g5
  obtain rfl : w1 = (.long i1) := Option.some.inj ei1
  obtain ⟨i2, ei2⟩ := is_v g6
  obtain rfl : w2 = (.int i2) := Option.some.inj ei2
  obtain ⟨n, o, h1, h2, h3, _, L, rfl, ⟨rfl, N⟩, hq⟩ := rm0 l s _ hw tables_1 i0 i1 i2 s.heap s.heap.size (Nat.le_refl _)  p e ha hc hk s m _ below hf ((Spec.applies_iff_loose hf).mp happ).1 ⟨rfl, State.Warmed39.refl s, rfl⟩ trivial
  refine ⟨n, _, h1, h2, h3, hpost _ _ _ _ _ _ ⟨Cond.after_iff.mpr rfl, Cond.after_iff.mpr (eq_i res_at (Term.int_eval (1)) rfl), trivial⟩ ⟨hq.1, hq.2.1, (hq.2.2.sift fun y hy => Or.inr (N y hy)).mono (by decide) (by decide)⟩⟩
theorem main_1_1 : Claimed_1_1 := comes_1 fun _ _ _ _ _ _ h hF => ⟨h.1, hF⟩
theorem main_1_2 : Claimed_1_2 := comes_1 fun _ _ _ _ _ _ h hF => ⟨h.2.1, hF⟩
end Jvm.Pilot.@@N@@
namespace Jvm.Pilot.@@N@@
open Jvm Jvm.ClassFile Sem Op Lib Jvm.Free Jvm.Stand Jvm.Pilot.@@N@@.Jvm.D
/-! MADE BY PROGRAM (witnessworld.py) out of the Statement's table words and the real class files: 10 classes; the members and pool entries that the words name. The judged class is class 1, her method 1. -/
namespace start1
open Jvm.ClassFile
def u (s : String) : CpInfo := .utf8 (stringToUtf16 s)
/-- a pool by its gaps: so many unusable entries, then the entry; so many at the end -/
def gap : Nat → List CpInfo → List CpInfo
  | 0, r => r
  | n + 1, r => .unusable :: gap n r
def poolList (es : List (Nat × CpInfo)) (last : Nat) : List CpInfo := es.foldr (fun e r => gap e.1 (e.2 :: r)) (gap last [])
def pool (es : List (Nat × CpInfo)) (last : Nat) : Array CpInfo := ⟨poolList es last⟩
def fileOf (pool : Array CpInfo) (this : Nat) (attrs : Array Attribute := #[]) (ms : Array MethodInfo := #[]) (fl : Nat := 33) (sup : Nat := 0) (ifs : Array Nat := #[]) (fds : Array FieldInfo := #[]) : ClassFile where
  minorVersion := 0
  majorVersion := 65
  constantPool := pool
  accessFlags := fl
  thisClass := this
  superClass := sup
  interfaces := ifs
  fields := fds
  methods := ms
  attributes := attrs
def plain (name : String) (sup : Option ClassId) : Class where
  name := name
  kind := .ordinary
  loader := none
  accessFlags := 33
  super := sup
  interfaces := #[]
  cf := none
  fields := #[]
  methods := #[]
  instanceTypes := #[]
  staticTypes := #[]
  resolved := #[]
  callSites := []
  init := .initialized
  statics := none
  mirror := none

def pool0 : Array CpInfo := pool [(5, u "<init>"), (0, u "()V"), (1, .class_ 10), (1, u "java/lang/Object")] 113

def k0c0 : Code := { maxStack := 0, maxLocals := 1, code := object_method_1_code, exceptionTable := #[], attributes := #[] }
def k0m0 : Method := { name := "<init>", desc := "()V", sig := { parameters := [], returnType := none }, accessFlags := 1, code := some k0c0 }
/-- java/lang/Object -/
def k0 : Class := { plain "java/lang/Object" none with
  accessFlags := 33
  interfaces := #[]
  cf := some (fileOf pool0 8 #[] #[{ accessFlags := 1, nameIndex := 5, descriptorIndex := 6, attributes := #[] }] 33 0 #[] #[])
  fields := #[]
  methods := #[k0m0]
  instanceTypes := #[]
  staticTypes := #[]
  resolved := Array.replicate 124 none
  statics := none }

def pool1 : Array CpInfo := pool [(2, .class_ 4), (1, u "java/lang/Object"), (0, u "<init>"), (0, u "()V"), (0, .long 1099511627776), (3, .long 9223372036854775807), (1, .long 4095), (1, .long 2048), (1, .double 4787326403894837248), (1, .class_ 20), (0, u "com/example/runs_to_risk/runstorisk/anb/Threshold"), (0, .methodref 19 22), (0, .nameAndType 5 23), (0, u "(ZD)V"), (0, .methodref 19 25), (0, .nameAndType 26 27), (0, u "metBy"), (0, u "(D)Z"), (0, .long 1100), (1, .long 18446744073709550517), (1, .class_ 33), (0, u "com/example/runs_to_risk/runstorisk/anb/ThresholdMetByPinLaw"), (2, u "law"), (0, u "(JJI)Z")] 3

def k1m0 : Method := { name := "<init>", desc := "()V", sig := { parameters := [], returnType := none }, accessFlags := 1, code := none }
def k1c1 : Code := { maxStack := 6, maxLocals := 21, code := code, exceptionTable := #[], attributes := #[] }
def k1m1 : Method := { name := "law", desc := "(JJI)Z", sig := { parameters := [.long, .long, .int], returnType := some .boolean }, accessFlags := 9, code := some k1c1 }
/-- com/example/runs_to_risk/runstorisk/anb/ThresholdMetByPinLaw -/
def k1 : Class := { plain "com/example/runs_to_risk/runstorisk/anb/ThresholdMetByPinLaw" (some 0) with
  accessFlags := 49
  interfaces := #[]
  cf := some (fileOf pool1 32 #[] #[{ accessFlags := 1, nameIndex := 5, descriptorIndex := 6, attributes := #[] }, { accessFlags := 9, nameIndex := 36, descriptorIndex := 37, attributes := #[] }] 49 2 #[] #[])
  fields := #[]
  methods := #[k1m0, k1m1]
  instanceTypes := #[]
  staticTypes := #[]
  resolved := Array.replicate 41 none
  statics := none }

def pool2 : Array CpInfo := pool [(1, .methodref 2 3), (0, .class_ 4), (0, .nameAndType 5 6), (0, u "java/lang/Object"), (0, u "<init>"), (0, u "()V"), (0, .class_ 8), (0, u "java/lang/Record")] 13

def k2c0 : Code := { maxStack := 1, maxLocals := 1, code := jdk_30_method_1_code, exceptionTable := #[], attributes := #[] }
def k2m0 : Method := { name := "<init>", desc := "()V", sig := { parameters := [], returnType := none }, accessFlags := 4, code := some k2c0 }
/-- java/lang/Record -/
def k2 : Class := { plain "java/lang/Record" (some 0) with
  accessFlags := 1057
  interfaces := #[]
  cf := some (fileOf pool2 7 #[] #[{ accessFlags := 4, nameIndex := 5, descriptorIndex := 6, attributes := #[] }] 1057 2 #[] #[])
  fields := #[]
  methods := #[k2m0]
  instanceTypes := #[]
  staticTypes := #[]
  resolved := Array.replicate 22 none
  statics := none }

def pool3 : Array CpInfo := pool [(1, .methodref 2 3), (0, .class_ 4), (0, .nameAndType 5 6), (0, u "java/lang/Record"), (0, u "<init>"), (0, u "()V"), (0, .fieldref 8 9), (0, .class_ 10), (0, .nameAndType 11 12), (0, u "com/example/runs_to_risk/runstorisk/anb/Threshold"), (0, u "strict"), (0, u "Z"), (0, .fieldref 8 14), (0, .nameAndType 15 16), (0, u "probability"), (0, u "D"), (0, .double 4472406533629990549), (1, .double 13695778570484766357), (13, u "TOLERANCE"), (1, u "(ZD)V"), (3, u "metBy"), (0, u "(D)Z")] 27

def k3c0 : Code := { maxStack := 3, maxLocals := 4, code := prog_26_method_1_code, exceptionTable := #[], attributes := #[] }
def k3m0 : Method := { name := "<init>", desc := "(ZD)V", sig := { parameters := [.boolean, .double], returnType := none }, accessFlags := 1, code := some k3c0 }
def k3c1 : Code := { maxStack := 4, maxLocals := 5, code := prog_26_method_2_code, exceptionTable := #[], attributes := #[] }
def k3m1 : Method := { name := "metBy", desc := "(D)Z", sig := { parameters := [.double], returnType := some .boolean }, accessFlags := 1, code := some k3c1 }
/-- com/example/runs_to_risk/runstorisk/anb/Threshold -/
def k3 : Class := { plain "com/example/runs_to_risk/runstorisk/anb/Threshold" (some 2) with
  accessFlags := 49
  interfaces := #[]
  cf := some (fileOf pool3 8 #[] #[{ accessFlags := 1, nameIndex := 5, descriptorIndex := 35, attributes := #[] }, { accessFlags := 1, nameIndex := 39, descriptorIndex := 40, attributes := #[] }] 49 2 #[] #[{ accessFlags := 18, nameIndex := 11, descriptorIndex := 12, attributes := #[] }, { accessFlags := 18, nameIndex := 15, descriptorIndex := 16, attributes := #[] }, { accessFlags := 25, nameIndex := 33, descriptorIndex := 16, attributes := #[] }])
  fields := #[{ name := "strict", type := .boolean, accessFlags := 18, slot := 0, constantValue := 0 }, { name := "probability", type := .double, accessFlags := 18, slot := 1, constantValue := 0 }, { name := "TOLERANCE", type := .double, accessFlags := 25, slot := 0, constantValue := 0 }]
  methods := #[k3m0, k3m1]
  instanceTypes := #[.boolean, .double]
  staticTypes := #[.double]
  resolved := Array.replicate 68 none
  statics := none }

def pool4 : Array CpInfo := pool [(1, u "java/lang/Cloneable"), (0, .class_ 1), (0, u "java/lang/Object"), (0, .class_ 3)] 3

/-- java/lang/Cloneable -/
def k4 : Class := { plain "java/lang/Cloneable" (some 0) with
  accessFlags := 1537
  interfaces := #[]
  cf := some (fileOf pool4 2 #[] #[] 1537 4 #[] #[])
  fields := #[]
  methods := #[]
  instanceTypes := #[]
  staticTypes := #[]
  resolved := Array.replicate 8 none
  statics := none }

def pool5 : Array CpInfo := pool [(1, u "java/io/Serializable"), (0, .class_ 1), (0, u "java/lang/Object"), (0, .class_ 3)] 3

/-- java/io/Serializable -/
def k5 : Class := { plain "java/io/Serializable" (some 0) with
  accessFlags := 1537
  interfaces := #[]
  cf := some (fileOf pool5 2 #[] #[] 1537 4 #[] #[])
  fields := #[]
  methods := #[]
  instanceTypes := #[]
  staticTypes := #[]
  resolved := Array.replicate 8 none
  statics := none }

/-- the primitive byte -/
def k6 : Class := { plain "byte" none with kind := .primitive 'B', accessFlags := 0x411 }
/-- [B -/
def k7 : Class := { plain "[B" (some 0) with kind := .array 6 .byte, interfaces := #[4, 5], accessFlags := 1041 }

/-- the primitive int -/
def k8 : Class := { plain "int" none with kind := .primitive 'I', accessFlags := 0x411 }
/-- [I -/
def k9 : Class := { plain "[I" (some 0) with kind := .array 8 .int, interfaces := #[4, 5], accessFlags := 1041 }

def heap : Heap := #[]
def classes : Array Class := #[k0, k1, k2, k3, k4, k5, k6, k7, k8, k9]
def interned : List (Array UInt16 × Addr) := []
def slotsUsed : Nat := 0
def theMethod : MethodId := ⟨1, 1⟩
def args0 : Array Value := #[.long 7, .long 7, .int 5]
def aboutOver (below : List Frame) : State where
  vm := { classes := classes, interned := interned.toArray }
  heap := heap
  slotsUsed := slotsUsed
  threads := #[{ frames := .invoking theMethod args0 :: below }]
def below0 : List Frame := [.native { method := ⟨0, 0⟩, args := #[] }]
def about1 : State := aboutOver below0
def p0 : Program := .bare "" "" ""
def e0 : Env := launch0.env 0 0 0
theorem w_frames : about1.frames = Frame.invoking theMethod args0 :: below0 := rfl
set_option maxRecDepth 65536 in
theorem w_args : argsFit about1.vm theMethod args0 = true := by decide +kernel
set_option maxRecDepth 65536 in
theorem w_heap : heapFits about1 = true := by decide +kernel
set_option maxRecDepth 65536 in
theorem w_runnable : about1.curStatus? = some .runnable := by decide +kernel
set_option maxRecDepth 65536 in
theorem w_alone : about1.alone = true := by decide +kernel
set_option maxRecDepth 65536 in
theorem w_named : about1.methodNamed? x = some theMethod := by decide +kernel
set_option maxRecDepth 65536 in
theorem w_hears : about1.hears theMethod below0 = true := by decide +kernel
set_option maxRecDepth 65536 in
theorem w_ripe : about1.ripe theMethod args0 below0 = true := by decide +kernel
theorem w_running : about1.status = .running := rfl
set_option maxRecDepth 65536 in
theorem w_room : about1.hasRoom e0.platform room_1 = true :=
  launch0.hasRoom_least _ room_1 (by decide +kernel) (by decide +kernel) (by decide +kernel) (by decide +kernel) (by decide +kernel) (by decide +kernel)
theorem allAtoms_all (ts : List Jvm.Cond) (a : Array Jvm.Value) (st : Jvm.State) : (allAtoms ts).before a st = ts.all (fun c => c.before a st) := by
  induction ts with
  | nil => rfl
  | cons c t ih =>
    show (Jvm.Cond.and c (allAtoms t)).before a st = _
    rw [Jvm.Cond.before_and, ih, List.all_cons]
def words1 : List Jvm.Cond := Jvm.Cond.code x code maxLocals ret :: tables_1
/-- a 'code' word, met by the world's own term for the bytes: nothing is compared byte by byte -/
theorem code_word {y : MethodName} {bytes : ByteArray} {mx : Nat} {rt : Option FieldType} {a : Array Value} {s : State} {m : MethodId} {meth : Method} {c : Code} (h1 : s.methodNamed? y = some m) (h2 : s.vm.method? m = some meth) (h3 : meth.code = some c) (h4 : c.code = bytes)
    (h5 : (c.maxLocals == mx && c.exceptionTable.isEmpty && decide (c.maxStack ≤ mostOperands) && decide (meth.sig.returnType = rt) && !meth.locks && decide (parseMethodDescriptor y.desc = some meth.sig)) = true) : (Jvm.Cond.code y bytes mx rt).before a s = true := by
  simp only [Bool.and_eq_true, beq_iff_eq, Bool.not_eq_true', decide_eq_true_eq] at h5
  obtain ⟨⟨⟨⟨⟨g1, g2⟩, g3⟩, g4⟩, g5⟩, g6⟩ := h5
  simp [Cond.before, Cond.holds, Cond.value, h1, h2, h3, h4, g1, g2, g3, g4, g5, g6]
def isCode : Jvm.Cond → Bool
  | .code _ _ _ _ => true
  | _ => false
theorem all_split {L : List Jvm.Cond} {P : Jvm.Cond → Bool} (h1 : L.all (fun c => isCode c || P c) = true) (h2 : ∀ c ∈ L.filter isCode, P c = true) : L.all P = true := by
  refine List.all_eq_true.mpr fun c hc => ?_
  have h := List.all_eq_true.mp h1 c hc
  rcases Bool.eq_false_or_eq_true (isCode c) with hi | hi
  · exact h2 c (List.mem_filter.mpr ⟨hc, hi⟩)
  · simpa [hi] using h
set_option maxRecDepth 65536 in
theorem w_c0 : (Jvm.Cond.code x code maxLocals ret).before args0 about1 = true := code_word (m := ⟨1, 1⟩) (meth := k1m1) (c := k1c1) (by decide +kernel) rfl rfl rfl (by decide +kernel)
set_option maxRecDepth 65536 in
theorem w_c1 : (Jvm.Cond.code ({ cls := "com/example/runs_to_risk/runstorisk/anb/Threshold", name := "<init>", desc := "(ZD)V" } : Jvm.MethodName) prog_26_method_1_code (4 : Nat) (Option.none : Option Jvm.ClassFile.FieldType)).before args0 about1 = true := code_word (m := ⟨3, 0⟩) (meth := k3m0) (c := k3c0) (by decide +kernel) rfl rfl rfl (by decide +kernel)
set_option maxRecDepth 65536 in
theorem w_c2 : (Jvm.Cond.code ({ cls := "java/lang/Record", name := "<init>", desc := "()V" } : Jvm.MethodName) jdk_30_method_1_code (1 : Nat) (Option.none : Option Jvm.ClassFile.FieldType)).before args0 about1 = true := code_word (m := ⟨2, 0⟩) (meth := k2m0) (c := k2c0) (by decide +kernel) rfl rfl rfl (by decide +kernel)
set_option maxRecDepth 65536 in
theorem w_c3 : (Jvm.Cond.code ({ cls := "java/lang/Object", name := "<init>", desc := "()V" } : Jvm.MethodName) object_method_1_code (1 : Nat) (Option.none : Option Jvm.ClassFile.FieldType)).before args0 about1 = true := code_word (m := ⟨0, 0⟩) (meth := k0m0) (c := k0c0) (by decide +kernel) rfl rfl rfl (by decide +kernel)
set_option maxRecDepth 65536 in
theorem w_c4 : (Jvm.Cond.code ({ cls := "com/example/runs_to_risk/runstorisk/anb/Threshold", name := "metBy", desc := "(D)Z" } : Jvm.MethodName) prog_26_method_2_code (5 : Nat) (Option.some Jvm.ClassFile.FieldType.boolean)).before args0 about1 = true := code_word (m := ⟨3, 1⟩) (meth := k3m1) (c := k3c1) (by decide +kernel) rfl rfl rfl (by decide +kernel)
def codes1 : List Jvm.Cond := [Jvm.Cond.code x code maxLocals ret, Jvm.Cond.code ({ cls := "com/example/runs_to_risk/runstorisk/anb/Threshold", name := "<init>", desc := "(ZD)V" } : Jvm.MethodName) prog_26_method_1_code (4 : Nat) (Option.none : Option Jvm.ClassFile.FieldType), Jvm.Cond.code ({ cls := "java/lang/Record", name := "<init>", desc := "()V" } : Jvm.MethodName) jdk_30_method_1_code (1 : Nat) (Option.none : Option Jvm.ClassFile.FieldType), Jvm.Cond.code ({ cls := "java/lang/Object", name := "<init>", desc := "()V" } : Jvm.MethodName) object_method_1_code (1 : Nat) (Option.none : Option Jvm.ClassFile.FieldType), Jvm.Cond.code ({ cls := "com/example/runs_to_risk/runstorisk/anb/Threshold", name := "metBy", desc := "(D)Z" } : Jvm.MethodName) prog_26_method_2_code (5 : Nat) (Option.some Jvm.ClassFile.FieldType.boolean)]
set_option maxRecDepth 65536 in
theorem codes_eq : words1.filter isCode = codes1 := rfl
theorem w_codes : ∀ c ∈ words1.filter isCode, c.before args0 about1 = true := by
  rw [codes_eq]
  intro c hc
  simp only [codes1, List.mem_cons, List.not_mem_nil, or_false] at hc
  rcases hc with rfl | rfl | rfl | rfl | rfl
  · exact w_c0
  · exact w_c1
  · exact w_c2
  · exact w_c3
  · exact w_c4
set_option maxRecDepth 65536 in
theorem w_t1 : (words1.take 24).all (fun c => isCode c || c.before args0 about1) = true := by decide +kernel
set_option maxRecDepth 65536 in
theorem w_t2 : (words1.drop 24).all (fun c => isCode c || c.before args0 about1) = true := by decide +kernel
theorem w_tables : (allAtoms (Jvm.Cond.code x code maxLocals ret :: tables_1)).before args0 about1 = true := by
  rw [allAtoms_all]
  show words1.all (fun c => c.before args0 about1) = true
  refine all_split ?_ w_codes
  rw [← List.take_append_drop 24 words1, List.all_append, w_t1, w_t2]
  rfl
set_option maxRecDepth 65536 in
theorem w_case : (Jvm.Cond.and given_1 narrow_1).before args0 about1 = true := by decide +kernel
theorem w_applies : (headSpec (Jvm.Cond.code x code maxLocals ret :: tables_1) room_1).applies x e0.platform about1 = true :=
  (Spec.applies_iff w_frames).mpr ⟨w_running, w_runnable, w_alone, w_named, w_hears, w_ripe, w_room, w_tables⟩
theorem atStart : AtStart classFile x code maxLocals ret World_1 tables_1 room_1 Calls_1 rest_1 Pre_1 launch0 p0 e0 about1 theMethod args0 below0 :=
  ⟨lists_1, trivial, launch0.admits_env _ _ _, launch0.least_env, fairChoices_fair.cas, fairChoices_fair.clock, w_frames, w_args, w_heap, w_applies, trivial, trivial, w_case⟩
end start1
theorem witness_1 : WitnessClaimed_1 := ⟨start1.p0, start1.e0, start1.about1, start1.theMethod, start1.args0, start1.below0, start1.atStart⟩
end Jvm.Pilot.@@N@@
