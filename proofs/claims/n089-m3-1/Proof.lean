import JvmDerived
import JvmDerived.Pilot.@@N@@Statement
import JvmDerived.Pilot.@@N@@Code
set_option linter.unusedVariables false
set_option linter.unusedSimpArgs false
namespace Jvm.RoadKit
open Sem ClassFile Op Lib Jvm.Stand Jvm.Free Jvm.LawKit
section New
variable {p : Program} {l : Launch} {e : Env} {R : Room} {s : State} {m : MethodId} {args : Array Value} {below : List Frame} {meth : Method} {c : Code} {T : State} {locs : List Loc} {cells slots : Nat}
theorem retI (X : Stand p l e R s m args below meth c T locs cells slots) (hx : p.tables.exec = Jvm.exec) {pc : Nat} {Ls : Array Slot} {z : Int32} {rest : List Value} (hret : meth.sig.returnType = some .int) (hd : decode c.code pc = .ok (.ireturn, 1)) {fs : List Frame}
    (hl : ∀ (f : JFrame) (acts : List Action), f.method = m → f.locked = none → f.entered = [] → (doReturn e (T.setTop f) acts (some (.int z))).1 = T.setFrames fs) : Steps p.tables e below (T.setTop (mkF m pc Ls (.int z :: rest))) (T.setFrames fs) := by
  have hm' : T.vm.method? m = some meth := X.method'
  have hn : narrow .int (.int z) = .int z := rfl
  show Steps p.tables e below (T.setTop { method := m, pc := pc, locals := Ls, stack := _ :: rest, locked := none }) _
  jvm_step X.here [X.here.top, hx, hd, hm', hret, hn]
  first | (intro acts; rw [hl _ acts rfl rfl rfl]) | rw [hl _ _ rfl rfl rfl]
  exact Steps.refl _
end New
end Jvm.RoadKit
namespace Jvm.Pilot.@@N@@.FV
open Jvm.FP.Core
/-- the datum is `i * 2^e` (a zero of either sign is 0) -/
def Val (i e : Int) : Datum → Prop
  | .fin s c q => signed s c * ((2 ^ (q - e).toNat : Nat) : Int) = i * ((2 ^ (e - q).toNat : Nat) : Int)
  | _ => False
theorem p2 (n : Nat) : (0 : Int) < ((2 ^ n : Nat) : Int) := by have := Nat.two_pow_pos n; omega
theorem p2ne (n : Nat) : ((2 ^ n : Nat) : Int) ≠ 0 := by have := p2 n; omega
theorem p2add (a b : Nat) : ((2 ^ (a + b) : Nat) : Int) = ((2 ^ a : Nat) : Int) * ((2 ^ b : Nat) : Int) := by rw [Nat.pow_add, Int.natCast_mul]
theorem units_int (s : Bool) (c : Nat) (q m : Int) : signed s (inUnits c q m) = signed s c * ((2 ^ (q - m).toNat : Nat) : Int) := by
  unfold inUnits; rw [signed_mul]
theorem val_iff {i e m : Int} {s : Bool} {c : Nat} {q : Int} (h1 : m ≤ q) (h2 : m ≤ e) :
    Val i e (.fin s c q) ↔ signed s c * ((2 ^ (q - m).toNat : Nat) : Int) = i * ((2 ^ (e - m).toNat : Nat) : Int) := by
  show signed s c * ((2 ^ (q - e).toNat : Nat) : Int) = i * ((2 ^ (e - q).toNat : Nat) : Int) ↔ _
  by_cases h : e ≤ q
  · rw [show (e - q).toNat = 0 by omega, show (q - m).toNat = (q - e).toNat + (e - m).toNat by omega, p2add, ← Int.mul_assoc]
    constructor
    · intro h3; rw [h3]; simp
    · intro h3; have := Int.eq_of_mul_eq_mul_right (p2ne _) h3; rw [this]; simp
  · rw [show (q - e).toNat = 0 by omega, show (e - m).toNat = (e - q).toNat + (q - m).toNat by omega, p2add, ← Int.mul_assoc]
    constructor
    · intro h3; rw [← h3]; simp
    · intro h3; have := Int.eq_of_mul_eq_mul_right (p2ne _) h3; rw [← this]; simp
theorem val_fin {i e : Int} {d : Datum} (h : Val i e d) : ∃ s c q, d = .fin s c q := by
  cases d with
  | nan => exact h.elim
  | inf => exact h.elim
  | fin s c q => exact ⟨s, c, q, rfl⟩
theorem val_ne_nan {i e : Int} {d : Datum} (h : Val i e d) : d ≠ .nan := by
  obtain ⟨s, c, q, rfl⟩ := val_fin h; exact Datum.noConfusion
theorem val_abs {i e : Int} {s : Bool} {c : Nat} {q : Int} (h : Val i e (.fin s c q)) : c * 2 ^ (q - e).toNat = i.natAbs * 2 ^ (e - q).toNat := by
  have := congrArg Int.natAbs (show signed s c * ((2 ^ (q - e).toNat : Nat) : Int) = i * ((2 ^ (e - q).toNat : Nat) : Int) from h)
  rw [Int.natAbs_mul, Int.natAbs_mul, natAbs_signed, Int.natAbs_natCast, Int.natAbs_natCast] at this
  exact this
theorem val_zero {i e : Int} {s : Bool} {c : Nat} {q : Int} (h : Val i e (.fin s c q)) : c = 0 ↔ i = 0 := by
  have h1 := val_abs h
  have p1 := Nat.two_pow_pos (q - e).toNat
  have p2 := Nat.two_pow_pos (e - q).toNat
  constructor
  · rintro rfl
    rw [Nat.zero_mul] at h1
    have := Nat.mul_eq_zero.mp h1.symm
    omega
  · rintro rfl
    rw [show (0 : Int).natAbs = 0 from rfl, Nat.zero_mul] at h1
    have := Nat.mul_eq_zero.mp h1
    omega
theorem val_sign {i e : Int} {s : Bool} {c : Nat} {q : Int} (h : Val i e (.fin s c q)) (hi : i ≠ 0) : s = decide (i < 0) := by
  have h' : signed s c * ((2 ^ (q - e).toNat : Nat) : Int) = i * ((2 ^ (e - q).toNat : Nat) : Int) := h
  have hc : 0 < c := by have := val_zero h; omega
  have a1 := p2 (q - e).toNat
  have a2 := p2 (e - q).toNat
  have h1 : decide (signed s c < 0) = s := signed_lt_zero s hc
  rw [← h1, decide_eq_decide]
  constructor
  · intro hlt
    have := Int.mul_neg_of_neg_of_pos hlt a1
    rw [h'] at this
    exact Int.lt_of_not_ge fun hge => by have := Int.mul_nonneg hge (Int.le_of_lt a2); omega
  · intro hlt
    have := Int.mul_neg_of_neg_of_pos hlt a2
    rw [← h'] at this
    exact Int.lt_of_not_ge fun hge => by have := Int.mul_nonneg hge (Int.le_of_lt a1); omega
theorem val_signed {i e : Int} {s : Bool} {c : Nat} {q : Int} (h : Val i e (.fin s c q)) : signed s i.natAbs = i := by
  by_cases hi : i = 0
  · rw [hi]; exact signed_zero s
  · rw [val_sign h hi]; unfold signed
    by_cases h : i < 0 <;> simp [h] <;> omega
theorem val_whole {i : Int} {d : Datum} : Val i 0 d ↔ Whole i d := by
  cases d with
  | nan => exact Iff.rfl
  | inf => exact Iff.rfl
  | fin s c q =>
    show signed s c * ((2 ^ (q - 0).toNat : Nat) : Int) = i * ((2 ^ (0 - q).toNat : Nat) : Int) ↔ signed s (c * 2 ^ q.toNat) = i * ((2 ^ (-q).toNat : Nat) : Int)
    rw [signed_mul, show (q - 0).toNat = q.toNat by omega, show (0 - q).toNat = (-q).toNat by omega]
theorem val_shift {i e : Int} {d : Datum} (k : Nat) : Val i e d ↔ Val (i * ((2 ^ k : Nat) : Int)) (e - k) d := by
  cases d with
  | nan => exact Iff.rfl
  | inf => exact Iff.rfl
  | fin s c q =>
    rw [val_iff (m := min q (e - k)) (by omega) (by omega), val_iff (m := min q (e - k)) (by omega) (by omega),
      show (e - min q (e - k)).toNat = k + (e - k - min q (e - k)).toNat by omega, p2add, Int.mul_assoc]
theorem val_zero_any {e e' : Int} {d : Datum} (h : Val 0 e d) : Val 0 e' d := by
  obtain ⟨s, c, q, rfl⟩ := val_fin h
  have := (val_zero h).mpr rfl
  subst this
  show signed s 0 * _ = 0 * _
  rw [signed_zero]; simp
theorem val_ofInt (i : Int) : Val i 0 (ofInt i) := val_whole.mpr (whole_ofInt i)
theorem val_sum {i j e : Int} {x y : Datum} (hx : Val i e x) (hy : Val j e y) : Val (i + j) e (exactSum x y) := by
  obtain ⟨s, c, q, rfl⟩ := val_fin hx
  obtain ⟨t, d, r, rfl⟩ := val_fin hy
  rw [val_iff (m := min (min q r) e) (by omega) (by omega)] at hx hy
  show Val (i + j) e (.fin (sumSign s t (sumUnits s c q t d r (min q r))) (sumUnits s c q t d r (min q r)).natAbs (min q r))
  rw [val_iff (m := min (min q r) e) (by omega) (by omega), signed_sumSign]
  unfold sumUnits
  rw [units_int, units_int, Int.add_mul, Int.add_mul, Int.mul_assoc, Int.mul_assoc, ← p2add, ← p2add,
    show (q - min q r).toNat + (min q r - min (min q r) e).toNat = (q - min (min q r) e).toNat by omega,
    show (r - min q r).toNat + (min q r - min (min q r) e).toNat = (r - min (min q r) e).toNat by omega, hx, hy]
theorem val_neg {i e : Int} {x : Datum} (hx : Val i e x) : Val (-i) e (negate x) := by
  obtain ⟨s, c, q, rfl⟩ := val_fin hx
  have h : signed s c * ((2 ^ (q - e).toNat : Nat) : Int) = i * ((2 ^ (e - q).toNat : Nat) : Int) := hx
  show signed (!s) c * ((2 ^ (q - e).toNat : Nat) : Int) = -i * ((2 ^ (e - q).toNat : Nat) : Int)
  rw [signed_not, Int.neg_mul, Int.neg_mul, h]
theorem val_prod {i j e g : Int} {x y : Datum} (hx : Val i e x) (hy : Val j g y) : Val (i * j) (e + g) (exactProduct x y) := by
  obtain ⟨s, c, q, rfl⟩ := val_fin hx
  obtain ⟨t, d, r, rfl⟩ := val_fin hy
  rw [val_iff (m := min q e) (by omega) (by omega)] at hx
  rw [val_iff (m := min r g) (by omega) (by omega)] at hy
  show Val (i * j) (e + g) (.fin (s != t) (c * d) (q + r))
  rw [val_iff (m := min q e + min r g) (by omega) (by omega), signed_xor,
    show (q + r - (min q e + min r g)).toNat = (q - min q e).toNat + (r - min r g).toNat by omega,
    show (e + g - (min q e + min r g)).toNat = (e - min q e).toNat + (g - min r g).toNat by omega, p2add, p2add]
  calc signed s c * signed t d * (((2 ^ (q - min q e).toNat : Nat) : Int) * ((2 ^ (r - min r g).toNat : Nat) : Int))
      = (signed s c * ((2 ^ (q - min q e).toNat : Nat) : Int)) * (signed t d * ((2 ^ (r - min r g).toNat : Nat) : Int)) := by ac_rfl
    _ = _ := by rw [hx, hy]; ac_rfl
/-- a number of at most p digits, its exponent in range, rounds to itself -/
theorem val_round {f : Fmt} (hf : Good f) {i e : Int} {x : Datum} (hx : Val i e x) (hi : i.natAbs < 2 ^ f.p) (h1 : f.qmin ≤ e) (h2 : e ≤ f.qmax) : Val i e (round f x) := by
  obtain ⟨s, c, q, rfl⟩ := val_fin hx
  have ha := val_abs hx
  have hs := val_signed hx
  have e1 : round f (.fin s c q) = round f (.fin s i.natAbs e) := roundRatio_congr (by decide) (by decide) (by simpa using ha)
  obtain ⟨c', q', h3, h4⟩ := round_exact hf s hi h1 h2
  have hfit := round_fits hf (.fin s i.natAbs e)
  rw [e1]
  rw [h3] at hfit ⊢
  rw [val_iff (m := f.qmin) hfit.2.1 h1, ← units_int, h4, units_int, hs]
theorem val_order {i j e : Int} {x y : Datum} (hx : Val i e x) (hy : Val j e y) : order x y = some (compare i j) := by
  obtain ⟨s, c, q, rfl⟩ := val_fin hx
  obtain ⟨t, d, r, rfl⟩ := val_fin hy
  rw [val_iff (m := min (min q r) e) (by omega) (by omega)] at hx hy
  show some (compare (signed s (inUnits c q (min q r))) (signed t (inUnits d r (min q r)))) = _
  rw [← compare_mul_pos (signed s _) _ _ (p2 (min q r - min (min q r) e).toNat), units_int, units_int, Int.mul_assoc, Int.mul_assoc, ← p2add, ← p2add,
    show (q - min q r).toNat + (min q r - min (min q r) e).toNat = (q - min (min q r) e).toNat by omega,
    show (r - min q r).toNat + (min q r - min (min q r) e).toNat = (r - min (min q r) e).toNat by omega, hx, hy, compare_mul_pos _ _ _ (p2 _)]
theorem scale_eq {X Y P N t : Nat} (h : X * 2 ^ (P + t) = Y * 2 ^ (N + t)) : X * 2 ^ P = Y * 2 ^ N := by
  rw [Nat.pow_add, Nat.pow_add, ← Nat.mul_assoc, ← Nat.mul_assoc] at h
  exact Nat.eq_of_mul_eq_mul_right (Nat.two_pow_pos t) h
theorem ratio_cross {c d n m : Nat} {q r e g : Int} (hx : c * 2 ^ (q - e).toNat = n * 2 ^ (e - q).toNat) (hy : d * 2 ^ (r - g).toNat = m * 2 ^ (g - r).toNat) :
    c * m * 2 ^ ((q - r) - (e - g)).toNat = n * d * 2 ^ ((e - g) - (q - r)).toNat := by
  have e1 : c * m * 2 ^ ((q - e).toNat + (g - r).toNat) = n * d * 2 ^ ((e - q).toNat + (r - g).toNat) := by
    rw [Nat.pow_add, Nat.pow_add]
    calc c * m * (2 ^ (q - e).toNat * 2 ^ (g - r).toNat) = (c * 2 ^ (q - e).toNat) * (m * 2 ^ (g - r).toNat) := by ac_rfl
      _ = (n * 2 ^ (e - q).toNat) * (d * 2 ^ (r - g).toNat) := by rw [hx, hy]
      _ = _ := by ac_rfl
  have k : ((q - e).toNat : Int) + (g - r).toNat - ((e - q).toNat + (r - g).toNat) = (q - r) - (e - g) := by omega
  refine scale_eq (t := min ((q - e).toNat + (g - r).toNat) ((e - q).toNat + (r - g).toNat)) ?_
  rw [show ((q - r) - (e - g)).toNat + min ((q - e).toNat + (g - r).toNat) ((e - q).toNat + (r - g).toNat) = (q - e).toNat + (g - r).toNat by omega,
    show ((e - g) - (q - r)).toNat + min ((q - e).toNat + (g - r).toNat) ((e - q).toNat + (r - g).toNat) = (e - q).toNat + (r - g).toNat by omega]
  exact e1
/-- a quotient is the rounding of the ratio of the two values -/
theorem quot_ratio {f : Fmt} {s t : Bool} {c d : Nat} {q r i j e g : Int} (hx : Val i e (.fin s c q)) (hy : Val j g (.fin t d r)) (hj : j ≠ 0) :
    quotient f (.fin s c q) (.fin t d r) = roundRatio f (s != t) i.natAbs j.natAbs (e - g) := by
  have hd : d ≠ 0 := fun z => hj ((val_zero hy).mp z)
  show (if d = 0 then _ else roundRatio f (s != t) c d (q - r)) = _
  rw [if_neg hd]
  exact roundRatio_congr (by omega) (by omega) (ratio_cross (val_abs hx) (val_abs hy))
theorem val_quot {f : Fmt} (hf : Good f) {i j k e g : Int} {x y : Datum} (hx : Val i e x) (hy : Val j g y) (hj : j ≠ 0) (hk : i = k * j) (hb : k.natAbs < 2 ^ f.p) (h1 : f.qmin ≤ e - g) (h2 : e - g ≤ f.qmax) : Val k (e - g) (quotient f x y) := by
  obtain ⟨s, c, q, rfl⟩ := val_fin hx
  obtain ⟨t, d, r, rfl⟩ := val_fin hy
  rw [quot_ratio hx hy hj]
  have hv : Val k (e - g) (.fin (s != t) k.natAbs (e - g)) := by
    show signed (s != t) k.natAbs * _ = k * _
    congr 1
    by_cases h0 : k = 0
    · rw [h0]; exact signed_zero _
    · have hi : i ≠ 0 := by rw [hk]; exact Int.mul_ne_zero h0 hj
      rw [val_sign hx hi, val_sign hy hj, hk]
      have q : (decide (k * j < 0) != decide (j < 0)) = decide (k < 0) := by
        rcases Int.lt_or_gt_of_ne hj with hj | hj <;> rcases Int.lt_or_gt_of_ne h0 with h0 | h0
        · have := Int.mul_pos_of_neg_of_neg h0 hj
          rw [decide_eq_false (show ¬ k * j < 0 by omega), decide_eq_true hj, decide_eq_true h0]; rfl
        · have := Int.mul_neg_of_pos_of_neg h0 hj
          rw [decide_eq_true this, decide_eq_true hj, decide_eq_false (show ¬ k < 0 by omega)]; rfl
        · have := Int.mul_neg_of_neg_of_pos h0 hj
          rw [decide_eq_true this, decide_eq_false (show ¬ j < 0 by omega), decide_eq_true h0]; rfl
        · have := Int.mul_pos h0 hj
          rw [decide_eq_false (show ¬ k * j < 0 by omega), decide_eq_false (show ¬ j < 0 by omega), decide_eq_false (show ¬ k < 0 by omega)]; rfl
      rw [q]; unfold signed
      by_cases h : k < 0 <;> simp [h] <;> omega
  have e1 : roundRatio f (s != t) i.natAbs j.natAbs (e - g) = round f (.fin (s != t) k.natAbs (e - g)) := by
    refine roundRatio_congr (by omega) (by decide) ?_
    rw [hk, Int.natAbs_mul]; simp
  rw [e1]
  exact val_round hf hv hb h1 h2
/-! on the bits of a double -/
def DV (i e : Int) (a : UInt64) : Prop := Val i e (val64 a)
theorem DV.fin {i e : Int} {a : UInt64} (h : DV i e a) : DFin a := val_fin h
theorem DV.fin64 {i e : Int} {a : UInt64} (h : DV i e a) : Jvm.Free.Fl.Fin64 a := Jvm.Free.Fl.fin64_core.mpr h.fin
theorem DV.nn {i e : Int} {a : UInt64} (h : DV i e a) : Jvm.Free.Fl.NoNaN64 a := h.fin64.noNaN
theorem dv_lit {i e : Int} {a : UInt64} (s : Bool) (c : Nat) (q : Int) (h1 : val64 a = .fin s c q) (h2 : signed s c * ((2 ^ (q - e).toNat : Nat) : Int) = i * ((2 ^ (e - q).toNat : Nat) : Int)) : DV i e a := by
  unfold DV; rw [h1]; exact h2
theorem dv_int {i : Int} {a : UInt64} : DV i 0 a ↔ DInt i a := val_whole
theorem dv_shift {i e : Int} {a : UInt64} (k : Nat) : DV i e a ↔ DV (i * ((2 ^ k : Nat) : Int)) (e - k) a := val_shift k
theorem dv_add {i j e : Int} {a b : UInt64} (ha : DV i e a) (hb : DV j e b) (h : (i + j).natAbs < 2 ^ 53) (h1 : -1074 ≤ e) (h2 : e ≤ 971) : DV (i + j) e (FP.dadd a b) := by
  unfold DV; rw [show FP.dadd a b = dadd a b from rfl, val64_dadd]; exact val_round good_b64 (val_sum ha hb) h h1 h2
theorem dv_sub {i j e : Int} {a b : UInt64} (ha : DV i e a) (hb : DV j e b) (h : (i - j).natAbs < 2 ^ 53) (h1 : -1074 ≤ e) (h2 : e ≤ 971) : DV (i - j) e (FP.dsub a b) := by
  unfold DV; rw [show FP.dsub a b = dsub a b from rfl, val64_dsub]; exact val_round good_b64 (val_sum ha (val_neg hb)) h h1 h2
theorem dv_mul {i j e g : Int} {a b : UInt64} (ha : DV i e a) (hb : DV j g b) (h : (i * j).natAbs < 2 ^ 53) (h1 : -1074 ≤ e + g) (h2 : e + g ≤ 971) : DV (i * j) (e + g) (FP.dmul a b) := by
  unfold DV; rw [show FP.dmul a b = dmul a b from rfl, val64_dmul]; exact val_round good_b64 (val_prod ha hb) h h1 h2
theorem dv_div {i j k e g : Int} {a b : UInt64} (ha : DV i e a) (hb : DV j g b) (hj : j ≠ 0) (hk : i = k * j) (h : k.natAbs < 2 ^ 53) (h1 : -1074 ≤ e - g) (h2 : e - g ≤ 971) : DV k (e - g) (FP.ddiv a b) := by
  unfold DV; rw [show FP.ddiv a b = ddiv a b from rfl, val64_ddiv]; exact val_quot good_b64 ha hb hj hk h h1 h2
theorem dv_cmp {i j e : Int} {a b : UInt64} (ha : DV i e a) (hb : DV j e b) : FP.dcmp a b = some (compare i j) := val_order ha hb
theorem dv_i2d (n : Int32) : DV n.toInt 0 (FP.i2d n) := dv_int.mpr (i2d_int n)
theorem dv_l2d {n : Int64} (h : n.toInt.natAbs ≤ 2 ^ 53) : DV n.toInt 0 (FP.l2d n) := dv_int.mpr (l2d_int h)
/-- what dcmpl and dcmpg push -/
theorem cv_eq {i j e : Int} {a b : UInt64} (ha : DV i e a) (hb : DV j e b) (o : Jvm.ClassFile.CmpOp) (h : i = j) : Jvm.Op.cmpValue (FP.dcmp a b) o = 0 := by
  rw [dv_cmp ha hb, (compare_eq_iff i j).mpr h]; cases o <;> rfl
theorem cv_lt {i j e : Int} {a b : UInt64} (ha : DV i e a) (hb : DV j e b) (o : Jvm.ClassFile.CmpOp) (h : i < j) : Jvm.Op.cmpValue (FP.dcmp a b) o = -1 := by
  rw [dv_cmp ha hb, (compare_lt_iff i j).mpr h]; cases o <;> rfl
theorem cv_gt {i j e : Int} {a b : UInt64} (ha : DV i e a) (hb : DV j e b) (o : Jvm.ClassFile.CmpOp) (h : j < i) : Jvm.Op.cmpValue (FP.dcmp a b) o = 1 := by
  rw [dv_cmp ha hb, (compare_gt_iff i j).mpr h]; cases o <;> rfl
theorem cv_neg {i j e : Int} {a b : UInt64} (ha : DV i e a) (hb : DV j e b) (o : Jvm.ClassFile.CmpOp) : (Jvm.Op.cmpValue (FP.dcmp a b) o < (0 : Int32)) ↔ i < j := by
  rcases Int.lt_trichotomy i j with h | h | h
  · rw [cv_lt ha hb o h]; exact ⟨fun _ => h, fun _ => by decide⟩
  · rw [cv_eq ha hb o h]; exact ⟨fun z => absurd z (by decide), fun z => by omega⟩
  · rw [cv_gt ha hb o h]; exact ⟨fun z => absurd z (by decide), fun z => by omega⟩
theorem cv_pos {i j e : Int} {a b : UInt64} (ha : DV i e a) (hb : DV j e b) (o : Jvm.ClassFile.CmpOp) : ((0 : Int32) < Jvm.Op.cmpValue (FP.dcmp a b) o) ↔ j < i := by
  rcases Int.lt_trichotomy i j with h | h | h
  · rw [cv_lt ha hb o h]; exact ⟨fun z => absurd z (by decide), fun z => by omega⟩
  · rw [cv_eq ha hb o h]; exact ⟨fun z => absurd z (by decide), fun z => by omega⟩
  · rw [cv_gt ha hb o h]; exact ⟨fun _ => h, fun _ => by decide⟩
theorem dv_neg {i e : Int} {a : UInt64} (ha : DV i e a) : DV (-i) e (FP.dneg a) := by
  unfold DV; rw [Jvm.FP.val64_dneg]; exact val_neg ha
end Jvm.Pilot.@@N@@.FV
namespace Jvm.Pilot.@@N@@
open Jvm Jvm.ClassFile Sem Op Lib Jvm.Free Jvm.Stand Jvm.LawKit Jvm.RoadKit Bundle Jvm.Pilot.@@N@@.Jvm.D
theorem d2_0 : decode jdk_30_method_1_code 0 = .ok (.aload_n 0, 1) := by decide +kernel
theorem d2_1 : decode jdk_30_method_1_code 1 = .ok (.invokespecial 1, 3) := by decide +kernel
theorem d2_4 : decode jdk_30_method_1_code 4 = .ok (.return_, 1) := by decide +kernel
theorem pn_2 : plainName "java/lang/Record" = true := by first | (simp [plainName, overriddenIn]; done) | decide +kernel
theorem ef_rm2 (m : MethodId) (x0 : Addr) : entryFrame m #[(.ref x0)] 1 = mkF m 0 #[.val (.ref x0)] [] := by first | (simp [entryFrame, mkF, argsToLocals, Value.category]; done) | rfl
def Q_rm2 (Z : State) (a : Addr) (h0 : Heap) (n0 : Nat) (rv : Option Value) (h : Heap) (L : List Loc) : Prop := rv = none ∧ Fr n0 L ∧ h = h0
set_option maxRecDepth 65536 in
set_option maxHeartbeats 40000000 in
theorem rm2 (l : Launch) (Z : State) (a0 : Array Value) (hw : ∀ d ∈ tables_1, d.before a0 Z = true) (ws : List Jvm.Cond) (a : Addr) (h0 : Heap) (n0 : Nat) (Z0 : n0 ≤ h0.size) :
    MetFree l (⟨"java/lang/Record", "<init>", "()V"⟩ : MethodName) (head1 (Jvm.Cond.code (⟨"java/lang/Record", "<init>", "()V"⟩ : MethodName) jdk_30_method_1_code 1 none :: ws) ({ frames := 1, cells := 0, slots := 0, locals := 12 } : Room)) (fun av U => av = #[(.ref a)] ∧ Z.Warmed39 U.vm ∧ U.heap = h0) (fun _ _ _ _ _ => True) (fun _ U o U' => ∃ rv L, o = .returned rv ∧ Q_rm2 Z a h0 n0 rv U'.heap L ∧ FrameEnd U o U' L ({ frames := 1, cells := 0, slots := 0, locals := 12 } : Room).cells ({ frames := 1, cells := 0, slots := 0, locals := 12 } : Room).slots) := by
  refine MetFree.of_bodySF (plainFor_of_name pn_2) hisR ?_
  intro p e s m args below meth c s₁ Bd hml0 hP hK
  obtain ⟨rfl, hZ, hh⟩ := hP
  have hx := Bd.exec
  have hby := Bd.bytes
  have hml : c.maxLocals = 1 := hml0
  have hown : s.vm.findClass "java/lang/Record" = some m.cls := findClass_of_methodNamed Bd.named
  have hnm := (name_of_methodNamed Bd.named Bd.method).1
  have X0 : Stand p l e ({ frames := 1, cells := 0, slots := 0, locals := 12 } : Room) s m #[(.ref a)] below meth c s₁ [] 0 0 := Stand.of_body Bd
  have e0 : s₁.heap = h0 := by rw [← hh, Bd.state]; rfl
  have N0 := Fr.nil n0
  have pre0 : ∀ t, Steps p.tables e below (s₁.setTop (mkF m 0 #[.val (.ref a)] [])) t → Steps p.tables e below (s₁.setTop (entryFrame m #[(.ref a)] 1)) t := fun t k => castTop (ef_rm2 m a) k
  have sg1 : ∀ target, Steps p.tables e below (s₁.setTop (mkF m 1 #[.val (.ref a)] [(.ref a)])) target → Steps p.tables e below (s₁.setTop (mkF m 0 #[.val (.ref a)] [])) target := by
    intro target kt
    show Steps p.tables e below (s₁.setTop (mkF m 0 #[.val (.ref a)] [])) _
    refine XS.aloadN X0.here hx rfl (hb hby d2_0) rfl rfl ?_
    exact kt
  obtain ⟨T2, X2, e2, st2⟩ := initO X0 hx hZ hown (hw _ (List.mem_of_getElem? (i := 13) rfl)) (hw _ (List.mem_of_getElem? (i := 14) rfl)) (hw _ (List.mem_of_getElem? (i := 15) rfl)) e0 (g := (mkF m 1 #[.val (.ref a)] [(.ref a)])) rfl (by rw [hml]; rfl) rfl (hb hby d2_1) (by decide) (W := 0) (by show 2 * 0 + _ ≤ _; exact Nat.le_of_eq rfl) (by decide)
  obtain ⟨fs, hr, hrun, hended, hW, hsame⟩ := X2.leave (v := none) (fun _ => rfl)
  refine ⟨_, _, pre0 _ ?_, hrun, hended, _, _, rfl, ?_, ⟨_, rfl⟩, hW, hsame.mono (by decide) (by decide)⟩
  · show Steps p.tables e below (s₁.setTop (mkF m 0 #[.val (.ref a)] [])) _
    refine sg1 _ ?_
    refine st2 _ ?_
    show Steps p.tables e below (T2.setTop (mkF m 4 #[.val (.ref a)] [])) _
    exact X2.returnOut hx Bd.returns (hb hby d2_4) hr
  · show Q_rm2 Z a h0 n0 _ T2.heap _
    rw [e2]
    exact ⟨rfl, N0, rfl⟩
theorem d1_0 : decode prog_4_method_1_code 0 = .ok (.aload_n 0, 1) := by decide +kernel
theorem d1_1 : decode prog_4_method_1_code 1 = .ok (.invokespecial 1, 3) := by decide +kernel
theorem pd_2 : parseMethodDescriptor "()V" = some ⟨[], none⟩ := by decide +kernel
theorem d1_4 : decode prog_4_method_1_code 4 = .ok (.aload_n 0, 1) := by decide +kernel
theorem d1_5 : decode prog_4_method_1_code 5 = .ok (.dload_n 1, 1) := by decide +kernel
theorem d1_6 : decode prog_4_method_1_code 6 = .ok (.putfield 7, 3) := by decide +kernel
theorem d1_9 : decode prog_4_method_1_code 9 = .ok (.aload_n 0, 1) := by decide +kernel
theorem d1_10 : decode prog_4_method_1_code 10 = .ok (.dload_n 3, 1) := by decide +kernel
theorem d1_11 : decode prog_4_method_1_code 11 = .ok (.putfield 13, 3) := by decide +kernel
theorem d1_14 : decode prog_4_method_1_code 14 = .ok (.return_, 1) := by decide +kernel
theorem pn_1 : plainName "com/example/runs_to_risk/runstorisk/anb/Channel" = true := by first | (simp [plainName, overriddenIn]; done) | decide +kernel
theorem ef_rm1 (m : MethodId) (x0 : Addr) (x1 : UInt64) (x2 : UInt64) : entryFrame m #[(.ref x0), (.double x1), (.double x2)] 5 = mkF m 0 #[.val (.ref x0), .val (.double x1), .second, .val (.double x2), .second] [] := by first | (simp [entryFrame, mkF, argsToLocals, Value.category]; done) | rfl
def Q_rm1 (Z : State) (a : Addr) (u : UInt64) (v : UInt64) (h0 : Heap) (n0 : Nat) (rv : Option Value) (h : Heap) (L : List Loc) : Prop := rv = none ∧ Fr n0 L ∧ Keep h0 h [a] ∧ Exa Z h a "com/example/runs_to_risk/runstorisk/anb/Channel" ∧ Fld Z h a "com/example/runs_to_risk/runstorisk/anb/Channel" "unread" "D" (.double u) ∧ Fld Z h a "com/example/runs_to_risk/runstorisk/anb/Channel" "lost" "D" (.double v)
set_option maxRecDepth 65536 in
set_option maxHeartbeats 40000000 in
theorem rm1 (l : Launch) (Z : State) (a0 : Array Value) (hw : ∀ d ∈ tables_1, d.before a0 Z = true) (ws : List Jvm.Cond) (a : Addr) (u : UInt64) (v : UInt64) (h0 : Heap) (n0 : Nat) (Z0 : n0 ≤ h0.size) (E_a : Exa Z h0 a "com/example/runs_to_risk/runstorisk/anb/Channel") (F1 : Fld Z h0 a "com/example/runs_to_risk/runstorisk/anb/Channel" "unread" "D" (.double (0 : UInt64))) (F2 : Fld Z h0 a "com/example/runs_to_risk/runstorisk/anb/Channel" "lost" "D" (.double (0 : UInt64))) (g_a : n0 ≤ a) :
    MetFree l (⟨"com/example/runs_to_risk/runstorisk/anb/Channel", "<init>", "(DD)V"⟩ : MethodName) (head1 (Jvm.Cond.code (⟨"com/example/runs_to_risk/runstorisk/anb/Channel", "<init>", "(DD)V"⟩ : MethodName) prog_4_method_1_code 5 none :: ws) ({ frames := 2, cells := 0, slots := 0, locals := 24 } : Room)) (fun av U => av = #[(.ref a), (.double u), (.double v)] ∧ Z.Warmed39 U.vm ∧ U.heap = h0) (fun _ _ _ _ _ => True) (fun _ U o U' => ∃ rv L, o = .returned rv ∧ Q_rm1 Z a u v h0 n0 rv U'.heap L ∧ FrameEnd U o U' L ({ frames := 2, cells := 0, slots := 0, locals := 24 } : Room).cells ({ frames := 2, cells := 0, slots := 0, locals := 24 } : Room).slots) := by
  refine MetFree.of_bodySF (plainFor_of_name pn_1) hisR ?_
  intro p e s m args below meth c s₁ Bd hml0 hP hK
  obtain ⟨rfl, hZ, hh⟩ := hP
  have hx := Bd.exec
  have hby := Bd.bytes
  have hml : c.maxLocals = 5 := hml0
  have hown : s.vm.findClass "com/example/runs_to_risk/runstorisk/anb/Channel" = some m.cls := findClass_of_methodNamed Bd.named
  have hnm := (name_of_methodNamed Bd.named Bd.method).1
  have X0 : Stand p l e ({ frames := 2, cells := 0, slots := 0, locals := 24 } : Room) s m #[(.ref a), (.double u), (.double v)] below meth c s₁ [] 0 0 := Stand.of_body Bd
  have e0 : s₁.heap = h0 := by rw [← hh, Bd.state]; rfl
  have N0 := Fr.nil n0
  have pre0 : ∀ t, Steps p.tables e below (s₁.setTop (mkF m 0 #[.val (.ref a), .val (.double u), .second, .val (.double v), .second] [])) t → Steps p.tables e below (s₁.setTop (entryFrame m #[(.ref a), (.double u), (.double v)] 5)) t := fun t k => castTop (ef_rm1 m a u v) k
  have sg1 : ∀ target, Steps p.tables e below (s₁.setTop (mkF m 1 #[.val (.ref a), .val (.double u), .second, .val (.double v), .second] [(.ref a)])) target → Steps p.tables e below (s₁.setTop (mkF m 0 #[.val (.ref a), .val (.double u), .second, .val (.double v), .second] [])) target := by
    intro target kt
    show Steps p.tables e below (s₁.setTop (mkF m 0 #[.val (.ref a), .val (.double u), .second, .val (.double v), .second] [])) _
    refine XS.aloadN X0.here hx rfl (hb hby d1_0) rfl rfl ?_
    exact kt
  obtain ⟨_, _, ⟨T2, L2, k2, n2⟩, -, X2, ⟨Lc2, hQ2, l2, y2, z2⟩, st2⟩ := X0.specialBack hx (y := (⟨"java/lang/Record", "<init>", "()V"⟩ : MethodName)) rfl hown (mvT hZ (hw _ (List.mem_of_getElem? (i := 8) rfl))) (mvT hZ (hw _ (List.mem_of_getElem? (i := 9) rfl))) (mvT hZ (hw _ (List.mem_of_getElem? (i := 12) rfl))) (by decide) (backOf (W := 0) (rm2 l Z a0 hw [] a h0 n0 Z0 ) hZ (hw _ (List.mem_of_getElem? (i := 12) rfl)) (hw _ (List.mem_of_getElem? (i := 11) rfl)) (by decide) (by decide)) (g := (mkF m 1 #[.val (.ref a), .val (.double u), .second, .val (.double v), .second] [(.ref a)])) rfl (by rw [hml]; rfl) (Steps.refl _) (a := a) (argsL := []) (rest := []) (lenOf pd_2 rfl) rfl (by show 2 * 0 + _ ≤ _; exact Nat.le_of_eq rfl) (hb hby d1_1) (fun _ _ => ⟨rfl, e0, (by decide : 0 + 0 ≤ _), (by decide : 0 + 0 ≤ _)⟩)
  dsimp only [Pt.U, Pt.locs, Pt.cells, Pt.slots] at X2 l2 y2 z2 st2 hQ2
  subst l2 y2 z2
  obtain ⟨rfl, N2q, c2_0⟩ := hQ2
  have N2 := Fr.app N0 N2q
  have sg3 : ∀ target, Steps p.tables e below (T2.setTop (mkF m 6 #[.val (.ref a), .val (.double u), .second, .val (.double v), .second] [(.double u), (.ref a)])) target → Steps p.tables e below (T2.setTop (mkF m 4 #[.val (.ref a), .val (.double u), .second, .val (.double v), .second] [])) target := by
    intro target kt
    show Steps p.tables e below (T2.setTop (mkF m 4 #[.val (.ref a), .val (.double u), .second, .val (.double v), .second] [])) _
    refine XS.aloadN X2.here hx rfl (hb hby d1_4) rfl rfl ?_
    show Steps p.tables e below (T2.setTop (mkF m 5 #[.val (.ref a), .val (.double u), .second, .val (.double v), .second] [(.ref a)])) _
    refine XS.dloadN X2.here hx rfl (hb hby d1_5) rfl ?_
    exact kt
  obtain ⟨T4, h4, X4, e4, W4, st4⟩ := putF X2 hx hZ hown (host := "") (Or.inl (hw _ (List.mem_of_getElem? (i := 16) rfl))) Via.refl c2_0 F1 E_a (Or.inr ⟨(hw _ (List.mem_of_getElem? (i := 17) rfl)), rfl, hnm⟩) (hw _ (List.mem_of_getElem? (i := 3) rfl)) (ty := .double) (by decide) rfl rfl (g := (mkF m 6 #[.val (.ref a), .val (.double u), .second, .val (.double v), .second] [(.double u), (.ref a)])) rfl rfl (hb hby d1_6)
  have N4 := Fr.snoc X4 N2 g_a
  have Zs4 : n0 ≤ h4.size := by rw [W4.size]; exact Z0
  have K4 : Keep h0 h4 [a] := (Keep.refl h0 [a]).wr W4 (Or.inl (List.mem_of_getElem? (i := 0) rfl))
  have f5 : Exa Z h4 a "com/example/runs_to_risk/runstorisk/anb/Channel" := E_a.wr W4
  have f6 : Fld Z h4 a "com/example/runs_to_risk/runstorisk/anb/Channel" "lost" "D" (.double (0 : UInt64)) := F2.other W4 (Or.inr (slot_ne (Or.inr (hw _ (List.mem_of_getElem? (i := 19) rfl))) (Or.inr (hw _ (List.mem_of_getElem? (i := 17) rfl))) (by decide) (t := .double) (t' := .double) (by decide) (by decide)))
  have f7 : Fld Z h4 a "com/example/runs_to_risk/runstorisk/anb/Channel" "unread" "D" (.double u) := F1.same W4
  have sg8 : ∀ target, Steps p.tables e below (T4.setTop (mkF m 11 #[.val (.ref a), .val (.double u), .second, .val (.double v), .second] [(.double v), (.ref a)])) target → Steps p.tables e below (T4.setTop (mkF m 9 #[.val (.ref a), .val (.double u), .second, .val (.double v), .second] [])) target := by
    intro target kt
    show Steps p.tables e below (T4.setTop (mkF m 9 #[.val (.ref a), .val (.double u), .second, .val (.double v), .second] [])) _
    refine XS.aloadN X4.here hx rfl (hb hby d1_9) rfl rfl ?_
    show Steps p.tables e below (T4.setTop (mkF m 10 #[.val (.ref a), .val (.double u), .second, .val (.double v), .second] [(.ref a)])) _
    refine XS.dloadN X4.here hx rfl (hb hby d1_10) rfl ?_
    exact kt
  obtain ⟨T9, h9, X9, e9, W9, st9⟩ := putF X4 hx hZ hown (host := "") (Or.inl (hw _ (List.mem_of_getElem? (i := 18) rfl))) Via.refl e4 f6 f5 (Or.inr ⟨(hw _ (List.mem_of_getElem? (i := 19) rfl)), rfl, hnm⟩) (hw _ (List.mem_of_getElem? (i := 3) rfl)) (ty := .double) (by decide) rfl rfl (g := (mkF m 11 #[.val (.ref a), .val (.double u), .second, .val (.double v), .second] [(.double v), (.ref a)])) rfl rfl (hb hby d1_11)
  have N9 := Fr.snoc X9 N4 g_a
  have Zs9 : n0 ≤ h9.size := by rw [W9.size]; exact Zs4
  have K9 : Keep h0 h9 [a] := K4.wr W9 (Or.inl (List.mem_of_getElem? (i := 0) rfl))
  have f10 : Exa Z h9 a "com/example/runs_to_risk/runstorisk/anb/Channel" := f5.wr W9
  have f11 : Fld Z h9 a "com/example/runs_to_risk/runstorisk/anb/Channel" "unread" "D" (.double u) := f7.other W9 (Or.inr (slot_ne (Or.inr (hw _ (List.mem_of_getElem? (i := 17) rfl))) (Or.inr (hw _ (List.mem_of_getElem? (i := 19) rfl))) (by decide) (t := .double) (t' := .double) (by decide) (by decide)))
  have f12 : Fld Z h9 a "com/example/runs_to_risk/runstorisk/anb/Channel" "lost" "D" (.double v) := f6.same W9
  obtain ⟨fs, hr, hrun, hended, hW, hsame⟩ := X9.leave (v := none) (fun _ => rfl)
  refine ⟨_, _, pre0 _ ?_, hrun, hended, _, _, rfl, ?_, ⟨_, rfl⟩, hW, hsame.mono (by decide) (by decide)⟩
  · show Steps p.tables e below (s₁.setTop (mkF m 0 #[.val (.ref a), .val (.double u), .second, .val (.double v), .second] [])) _
    refine sg1 _ ?_
    refine st2.trans ?_
    refine sg3 _ ?_
    refine st4 _ ?_
    refine sg8 _ ?_
    refine st9 _ ?_
    show Steps p.tables e below (T9.setTop (mkF m 14 #[.val (.ref a), .val (.double u), .second, .val (.double v), .second] [])) _
    exact X9.returnOut hx Bd.returns (hb hby d1_14) hr
  · show Q_rm1 Z a u v h0 n0 _ T9.heap _
    rw [e9]
    exact ⟨rfl, N9, K9, f10, f11, f12⟩
theorem d5_0 : decode jdk_37_method_2_code 0 = .ok (.aload_n 0, 1) := by decide +kernel
theorem d5_1 : decode jdk_37_method_2_code 1 = .ok (.getfield 7, 3) := by decide +kernel
theorem d5_4 : decode jdk_37_method_2_code 4 = .ok (.ireturn, 1) := by decide +kernel
theorem pn_5 : plainName "java/lang/Enum" = true := by first | (simp [plainName, overriddenIn]; done) | decide +kernel
theorem ef_rm5 (m : MethodId) (x0 : Addr) : entryFrame m #[(.ref x0)] 1 = mkF m 0 #[.val (.ref x0)] [] := by first | (simp [entryFrame, mkF, argsToLocals, Value.category]; done) | rfl
def Q_rm5 (Z : State) (a : Addr) (k : Int32) (h0 : Heap) (n0 : Nat) (rv : Option Value) (h : Heap) (L : List Loc) : Prop := rv = some (.int k) ∧ Fr n0 L ∧ h = h0
set_option maxRecDepth 65536 in
set_option maxHeartbeats 40000000 in
theorem rm5 (l : Launch) (Z : State) (a0 : Array Value) (hw : ∀ d ∈ tables_1, d.before a0 Z = true) (ws : List Jvm.Cond) (a : Addr) (k : Int32) (h0 : Heap) (n0 : Nat) (Z0 : n0 ≤ h0.size) (F1 : Fld Z h0 a "java/lang/Enum" "ordinal" "I" (.int k)) :
    MetFree l (⟨"java/lang/Enum", "ordinal", "()I"⟩ : MethodName) (head1 (Jvm.Cond.code (⟨"java/lang/Enum", "ordinal", "()I"⟩ : MethodName) jdk_37_method_2_code 1 (some .int) :: ws) ({ frames := 0, cells := 0, slots := 0, locals := 0 } : Room)) (fun av U => av = #[(.ref a)] ∧ Z.Warmed39 U.vm ∧ U.heap = h0) (fun _ _ _ _ _ => True) (fun _ U o U' => ∃ rv L, o = .returned rv ∧ Q_rm5 Z a k h0 n0 rv U'.heap L ∧ FrameEnd U o U' L ({ frames := 0, cells := 0, slots := 0, locals := 0 } : Room).cells ({ frames := 0, cells := 0, slots := 0, locals := 0 } : Room).slots) := by
  refine MetFree.of_bodySF (plainFor_of_name pn_5) hisR ?_
  intro p e s m args below meth c s₁ Bd hml0 hP hK
  obtain ⟨rfl, hZ, hh⟩ := hP
  have hx := Bd.exec
  have hby := Bd.bytes
  have hml : c.maxLocals = 1 := hml0
  have hown : s.vm.findClass "java/lang/Enum" = some m.cls := findClass_of_methodNamed Bd.named
  have hnm := (name_of_methodNamed Bd.named Bd.method).1
  have X0 : Stand p l e ({ frames := 0, cells := 0, slots := 0, locals := 0 } : Room) s m #[(.ref a)] below meth c s₁ [] 0 0 := Stand.of_body Bd
  have e0 : s₁.heap = h0 := by rw [← hh, Bd.state]; rfl
  have N0 := Fr.nil n0
  have pre0 : ∀ t, Steps p.tables e below (s₁.setTop (mkF m 0 #[.val (.ref a)] [])) t → Steps p.tables e below (s₁.setTop (entryFrame m #[(.ref a)] 1)) t := fun t k => castTop (ef_rm5 m a) k
  have sg1 : ∀ target, Steps p.tables e below (s₁.setTop (mkF m 1 #[.val (.ref a)] [(.ref a)])) target → Steps p.tables e below (s₁.setTop (mkF m 0 #[.val (.ref a)] [])) target := by
    intro target kt
    show Steps p.tables e below (s₁.setTop (mkF m 0 #[.val (.ref a)] [])) _
    refine XS.aloadN X0.here hx rfl (hb hby d5_0) rfl rfl ?_
    exact kt
  obtain ⟨T2, X2, e2, st2⟩ := getF X0 hx hZ hown (host := "") (Or.inl (hw _ (List.mem_of_getElem? (i := 35) rfl))) Via.refl e0 F1 (g := (mkF m 1 #[.val (.ref a)] [(.ref a)])) rfl rfl (hb hby d5_1)
  obtain ⟨fs, hr, hrun, hended, hW, hsame⟩ := X2.leave (v := some (.int k)) (fun h => by rw [Bd.returns] at h; cases h)
  refine ⟨_, _, pre0 _ ?_, hrun, hended, _, _, rfl, ?_, ⟨_, rfl⟩, hW, hsame.mono (by decide) (by decide)⟩
  · show Steps p.tables e below (s₁.setTop (mkF m 0 #[.val (.ref a)] [])) _
    refine sg1 _ ?_
    refine st2 _ ?_
    show Steps p.tables e below (T2.setTop (mkF m 4 #[.val (.ref a)] [(.int k)])) _
    exact retI X2 hx Bd.returns (hb hby d5_4) hr
  · show Q_rm5 Z a k h0 n0 _ T2.heap _
    rw [e2]
    exact ⟨rfl, N0, rfl⟩
theorem d4_0 : decode prog_4_method_2_code 0 = .ok (.dconst 1, 1) := by decide +kernel
theorem d4_1 : decode prog_4_method_2_code 1 = .ok (.aload_n 0, 1) := by decide +kernel
theorem d4_2 : decode prog_4_method_2_code 2 = .ok (.getfield 13, 3) := by decide +kernel
theorem d4_5 : decode prog_4_method_2_code 5 = .ok (.dsub, 1) := by decide +kernel
theorem d4_6 : decode prog_4_method_2_code 6 = .ok (.dstore_n 2, 1) := by decide +kernel
theorem d4_7 : decode prog_4_method_2_code 7 = .ok (.aload_n 1, 1) := by decide +kernel
theorem d4_8 : decode prog_4_method_2_code 8 = .ok (.invokevirtual 16, 3) := by decide +kernel
theorem pd_1 : parseMethodDescriptor "()I" = some ⟨[], some .int⟩ := by decide +kernel
theorem d4_11 : decode prog_4_method_2_code 11 = .ok (.tableswitch 25 0 2 #[35, 42, 51], 25) := by decide +kernel
theorem d4_46 : decode prog_4_method_2_code 46 = .ok (.aload_n 0, 1) := by decide +kernel
theorem d4_47 : decode prog_4_method_2_code 47 = .ok (.getfield 13, 3) := by decide +kernel
theorem d4_50 : decode prog_4_method_2_code 50 = .ok (.goto 20, 3) := by decide +kernel
theorem d4_70 : decode prog_4_method_2_code 70 = .ok (.dreturn, 1) := by decide +kernel
theorem pn_4 : plainName "com/example/runs_to_risk/runstorisk/anb/Channel" = true := by first | (simp [plainName, overriddenIn]; done) | decide +kernel
theorem ef_rm4_0 (m : MethodId) (x0 : Addr) (x1 : Addr) : entryFrame m #[(.ref x0), (.ref x1)] 4 = mkF m 0 #[.val (.ref x0), .val (.ref x1), .unset, .unset] [] := by first | (simp [entryFrame, mkF, argsToLocals, Value.category]; done) | rfl
def Q_rm4_0 (Z : State) (a : Addr) (oc : Addr) (u : UInt64) (v : UInt64) (h0 : Heap) (n0 : Nat) (rv : Option Value) (h : Heap) (L : List Loc) : Prop := rv = some (.double v) ∧ Fr n0 L ∧ h = h0
set_option maxRecDepth 65536 in
set_option maxHeartbeats 40000000 in
theorem rm4_0 (l : Launch) (Z : State) (a0 : Array Value) (hw : ∀ d ∈ tables_1, d.before a0 Z = true) (ws : List Jvm.Cond) (a : Addr) (oc : Addr) (u : UInt64) (v : UInt64) (h0 : Heap) (n0 : Nat) (Z0 : n0 ≤ h0.size) (E_o : Exa Z h0 oc "com/example/runs_to_risk/runstorisk/anb/Channel$Outcome") (G : Fld Z h0 oc "java/lang/Enum" "ordinal" "I" (.int (0 : Int32))) (F1 : Fld Z h0 a "com/example/runs_to_risk/runstorisk/anb/Channel" "unread" "D" (.double u)) (F2 : Fld Z h0 a "com/example/runs_to_risk/runstorisk/anb/Channel" "lost" "D" (.double v)) (nn : Jvm.Free.Fl.NoNaN64 (FP.dsub (4607182418800017408 : UInt64) v)) :
    MetFree l (⟨"com/example/runs_to_risk/runstorisk/anb/Channel", "probability", "(Lcom/example/runs_to_risk/runstorisk/anb/Channel$Outcome;)D"⟩ : MethodName) (head1 (Jvm.Cond.code (⟨"com/example/runs_to_risk/runstorisk/anb/Channel", "probability", "(Lcom/example/runs_to_risk/runstorisk/anb/Channel$Outcome;)D"⟩ : MethodName) prog_4_method_2_code 4 (some .double) :: ws) ({ frames := 1, cells := 0, slots := 0, locals := 12 } : Room)) (fun av U => av = #[(.ref a), (.ref oc)] ∧ Z.Warmed39 U.vm ∧ U.heap = h0) (fun _ _ _ _ _ => True) (fun _ U o U' => ∃ rv L, o = .returned rv ∧ Q_rm4_0 Z a oc u v h0 n0 rv U'.heap L ∧ FrameEnd U o U' L ({ frames := 1, cells := 0, slots := 0, locals := 12 } : Room).cells ({ frames := 1, cells := 0, slots := 0, locals := 12 } : Room).slots) := by
  refine MetFree.of_bodySF (plainFor_of_name pn_4) hisR ?_
  intro p e s m args below meth c s₁ Bd hml0 hP hK
  obtain ⟨rfl, hZ, hh⟩ := hP
  have hx := Bd.exec
  have hby := Bd.bytes
  have hml : c.maxLocals = 4 := hml0
  have hown : s.vm.findClass "com/example/runs_to_risk/runstorisk/anb/Channel" = some m.cls := findClass_of_methodNamed Bd.named
  have hnm := (name_of_methodNamed Bd.named Bd.method).1
  have X0 : Stand p l e ({ frames := 1, cells := 0, slots := 0, locals := 12 } : Room) s m #[(.ref a), (.ref oc)] below meth c s₁ [] 0 0 := Stand.of_body Bd
  have e0 : s₁.heap = h0 := by rw [← hh, Bd.state]; rfl
  have N0 := Fr.nil n0
  have pre0 : ∀ t, Steps p.tables e below (s₁.setTop (mkF m 0 #[.val (.ref a), .val (.ref oc), .unset, .unset] [])) t → Steps p.tables e below (s₁.setTop (entryFrame m #[(.ref a), (.ref oc)] 4)) t := fun t k => castTop (ef_rm4_0 m a oc) k
  have sg1 : ∀ target, Steps p.tables e below (s₁.setTop (mkF m 2 #[.val (.ref a), .val (.ref oc), .unset, .unset] [(.ref a), (.double (4607182418800017408 : UInt64))])) target → Steps p.tables e below (s₁.setTop (mkF m 0 #[.val (.ref a), .val (.ref oc), .unset, .unset] [])) target := by
    intro target kt
    show Steps p.tables e below (s₁.setTop (mkF m 0 #[.val (.ref a), .val (.ref oc), .unset, .unset] [])) _
    refine XS.dconst1 X0.here hx rfl (v := (4607182418800017408 : UInt64)) (hb hby d4_0) rfl ?_
    show Steps p.tables e below (s₁.setTop (mkF m 1 #[.val (.ref a), .val (.ref oc), .unset, .unset] [(.double (4607182418800017408 : UInt64))])) _
    refine XS.aloadN X0.here hx rfl (hb hby d4_1) rfl rfl ?_
    exact kt
  obtain ⟨T2, X2, e2, st2⟩ := getF X0 hx hZ hown (host := "") (Or.inl (hw _ (List.mem_of_getElem? (i := 18) rfl))) Via.refl e0 F2 (g := (mkF m 2 #[.val (.ref a), .val (.ref oc), .unset, .unset] [(.ref a), (.double (4607182418800017408 : UInt64))])) rfl rfl (hb hby d4_2)
  have sg3 : ∀ target, Steps p.tables e below (T2.setTop (mkF m 8 #[.val (.ref a), .val (.ref oc), .val (.double (FP.dsub (4607182418800017408 : UInt64) v)), .second] [(.ref oc)])) target → Steps p.tables e below (T2.setTop (mkF m 5 #[.val (.ref a), .val (.ref oc), .unset, .unset] [(.double v), (.double (4607182418800017408 : UInt64))])) target := by
    intro target kt
    show Steps p.tables e below (T2.setTop (mkF m 5 #[.val (.ref a), .val (.ref oc), .unset, .unset] [(.double v), (.double (4607182418800017408 : UInt64))])) _
    refine XS.dsubS X2.here hx rfl (v := (FP.dsub (4607182418800017408 : UInt64) v)) (hb hby d4_5) rfl nn rfl ?_
    show Steps p.tables e below (T2.setTop (mkF m 6 #[.val (.ref a), .val (.ref oc), .unset, .unset] [(.double (FP.dsub (4607182418800017408 : UInt64) v))])) _
    refine XS.dstoreN X2.here hx rfl (hb hby d4_6) rfl (l' := #[.val (.ref a), .val (.ref oc), .val (.double (FP.dsub (4607182418800017408 : UInt64) v)), .second]) rfl ?_
    show Steps p.tables e below (T2.setTop (mkF m 7 #[.val (.ref a), .val (.ref oc), .val (.double (FP.dsub (4607182418800017408 : UInt64) v)), .second] [])) _
    refine XS.aloadN X2.here hx rfl (hb hby d4_7) rfl rfl ?_
    exact kt
  obtain ⟨cq4, kq4, q4a, q4b, q4c⟩ := isOf hZ e2 E_o
  obtain ⟨_, _, ⟨T4, L4, k4, n4⟩, -, X4, ⟨Lc4, hQ4, l4, y4, z4⟩, st4⟩ := X2.virtualBackUp hx (x := (⟨"com/example/runs_to_risk/runstorisk/anb/Channel$Outcome", "ordinal", "()I"⟩ : MethodName)) (y := (⟨"java/lang/Enum", "ordinal", "()I"⟩ : MethodName)) (owner := "java/lang/Enum") hown (mvT hZ (hw _ (List.mem_of_getElem? (i := 28) rfl))) (mvT hZ (hw _ (List.mem_of_getElem? (i := 29) rfl))) (mvT hZ (hw _ (List.mem_of_getElem? (i := 30) rfl))) (by decide) (mvT hZ (hw _ (List.mem_of_getElem? (i := 32) rfl))) (mvT hZ (hw _ (List.mem_of_getElem? (i := 31) rfl))) (backOf (W := 0) (rm5 l Z a0 hw [] oc (0 : Int32) h0 n0 Z0 G) hZ (hw _ (List.mem_of_getElem? (i := 34) rfl)) (hw _ (List.mem_of_getElem? (i := 33) rfl)) (by decide) (by decide)) q4a q4c (g := (mkF m 8 #[.val (.ref a), .val (.ref oc), .val (.double (FP.dsub (4607182418800017408 : UInt64) v)), .second] [(.ref oc)])) rfl (by rw [hml]; rfl) (Steps.refl _) (argsL := []) (rest := []) (lenOf pd_1 rfl) rfl (by show 2 * 0 + _ ≤ _; exact Nat.le_of_eq rfl) (hb hby d4_8) (fun _ _ => ⟨rfl, e2, (by decide : 0 + 0 ≤ _), (by decide : 0 + 0 ≤ _)⟩)
  dsimp only [Pt.U, Pt.locs, Pt.cells, Pt.slots] at X4 l4 y4 z4 st4 hQ4
  subst l4 y4 z4
  obtain ⟨rfl, N4q, c4_0⟩ := hQ4
  have N4 := Fr.app N0 N4q
  have sg5 : ∀ target, Steps p.tables e below (T4.setTop (mkF m 47 #[.val (.ref a), .val (.ref oc), .val (.double (FP.dsub (4607182418800017408 : UInt64) v)), .second] [(.ref a)])) target → Steps p.tables e below (T4.setTop (mkF m 11 #[.val (.ref a), .val (.ref oc), .val (.double (FP.dsub (4607182418800017408 : UInt64) v)), .second] [(.int (0 : Int32))])) target := by
    intro target kt
    show Steps p.tables e below (T4.setTop (mkF m 11 #[.val (.ref a), .val (.ref oc), .val (.double (FP.dsub (4607182418800017408 : UInt64) v)), .second] [(.int (0 : Int32))])) _
    refine XS.tswIn X4.here hx rfl (o := 35) (pc0 := 11) (pc' := 46) rfl (hb hby d4_11) rfl (by decide) rfl (by decide) (by decide) ?_
    show Steps p.tables e below (T4.setTop (mkF m 46 #[.val (.ref a), .val (.ref oc), .val (.double (FP.dsub (4607182418800017408 : UInt64) v)), .second] [])) _
    refine XS.aloadN X4.here hx rfl (hb hby d4_46) rfl rfl ?_
    exact kt
  obtain ⟨T6, X6, e6, st6⟩ := getF X4 hx hZ hown (host := "") (Or.inl (hw _ (List.mem_of_getElem? (i := 18) rfl))) Via.refl c4_0 F2 (g := (mkF m 47 #[.val (.ref a), .val (.ref oc), .val (.double (FP.dsub (4607182418800017408 : UInt64) v)), .second] [(.ref a)])) rfl rfl (hb hby d4_47)
  have sg7 : ∀ target, Steps p.tables e below (T6.setTop (mkF m 70 #[.val (.ref a), .val (.ref oc), .val (.double (FP.dsub (4607182418800017408 : UInt64) v)), .second] [(.double v)])) target → Steps p.tables e below (T6.setTop (mkF m 50 #[.val (.ref a), .val (.ref oc), .val (.double (FP.dsub (4607182418800017408 : UInt64) v)), .second] [(.double v)])) target := by
    intro target kt
    show Steps p.tables e below (T6.setTop (mkF m 50 #[.val (.ref a), .val (.ref oc), .val (.double (FP.dsub (4607182418800017408 : UInt64) v)), .second] [(.double v)])) _
    refine XS.goto X6.here hx rfl (pc0 := 50) (pc' := 70) rfl (hb hby d4_50) (by decide) (by decide) ?_
    exact kt
  obtain ⟨fs, hr, hrun, hended, hW, hsame⟩ := X6.leave (v := some (.double v)) (fun h => by rw [Bd.returns] at h; cases h)
  refine ⟨_, _, pre0 _ ?_, hrun, hended, _, _, rfl, ?_, ⟨_, rfl⟩, hW, hsame.mono (by decide) (by decide)⟩
  · show Steps p.tables e below (s₁.setTop (mkF m 0 #[.val (.ref a), .val (.ref oc), .unset, .unset] [])) _
    refine sg1 _ ?_
    refine st2 _ ?_
    refine sg3 _ ?_
    refine st4.trans ?_
    refine sg5 _ ?_
    refine st6 _ ?_
    refine sg7 _ ?_
    show Steps p.tables e below (T6.setTop (mkF m 70 #[.val (.ref a), .val (.ref oc), .val (.double (FP.dsub (4607182418800017408 : UInt64) v)), .second] [(.double v)])) _
    exact retOut X6 hx Bd.returns rfl (Or.inr (Or.inr (Or.inl ⟨rfl, rfl, _, rfl⟩))) (hb hby d4_70) hr
  · show Q_rm4_0 Z a oc u v h0 n0 _ T6.heap _
    rw [e6]
    exact ⟨rfl, N4, rfl⟩
theorem d4_53 : decode prog_4_method_2_code 53 = .ok (.dload_n 2, 1) := by decide +kernel
theorem d4_54 : decode prog_4_method_2_code 54 = .ok (.aload_n 0, 1) := by decide +kernel
theorem d4_55 : decode prog_4_method_2_code 55 = .ok (.getfield 7, 3) := by decide +kernel
theorem d4_58 : decode prog_4_method_2_code 58 = .ok (.dmul, 1) := by decide +kernel
theorem d4_59 : decode prog_4_method_2_code 59 = .ok (.goto 11, 3) := by decide +kernel
theorem ef_rm4_1 (m : MethodId) (x0 : Addr) (x1 : Addr) : entryFrame m #[(.ref x0), (.ref x1)] 4 = mkF m 0 #[.val (.ref x0), .val (.ref x1), .unset, .unset] [] := by first | (simp [entryFrame, mkF, argsToLocals, Value.category]; done) | rfl
def Q_rm4_1 (Z : State) (a : Addr) (oc : Addr) (u : UInt64) (v : UInt64) (h0 : Heap) (n0 : Nat) (rv : Option Value) (h : Heap) (L : List Loc) : Prop := rv = some (.double (FP.dmul (FP.dsub (4607182418800017408 : UInt64) v) u)) ∧ Fr n0 L ∧ h = h0
set_option maxRecDepth 65536 in
set_option maxHeartbeats 40000000 in
theorem rm4_1 (l : Launch) (Z : State) (a0 : Array Value) (hw : ∀ d ∈ tables_1, d.before a0 Z = true) (ws : List Jvm.Cond) (a : Addr) (oc : Addr) (u : UInt64) (v : UInt64) (h0 : Heap) (n0 : Nat) (Z0 : n0 ≤ h0.size) (E_o : Exa Z h0 oc "com/example/runs_to_risk/runstorisk/anb/Channel$Outcome") (G : Fld Z h0 oc "java/lang/Enum" "ordinal" "I" (.int (1 : Int32))) (F1 : Fld Z h0 a "com/example/runs_to_risk/runstorisk/anb/Channel" "unread" "D" (.double u)) (F2 : Fld Z h0 a "com/example/runs_to_risk/runstorisk/anb/Channel" "lost" "D" (.double v)) (nn : Jvm.Free.Fl.NoNaN64 (FP.dsub (4607182418800017408 : UInt64) v)) (nn2 : Jvm.Free.Fl.NoNaN64 (FP.dmul (FP.dsub (4607182418800017408 : UInt64) v) u)) :
    MetFree l (⟨"com/example/runs_to_risk/runstorisk/anb/Channel", "probability", "(Lcom/example/runs_to_risk/runstorisk/anb/Channel$Outcome;)D"⟩ : MethodName) (head1 (Jvm.Cond.code (⟨"com/example/runs_to_risk/runstorisk/anb/Channel", "probability", "(Lcom/example/runs_to_risk/runstorisk/anb/Channel$Outcome;)D"⟩ : MethodName) prog_4_method_2_code 4 (some .double) :: ws) ({ frames := 1, cells := 0, slots := 0, locals := 12 } : Room)) (fun av U => av = #[(.ref a), (.ref oc)] ∧ Z.Warmed39 U.vm ∧ U.heap = h0) (fun _ _ _ _ _ => True) (fun _ U o U' => ∃ rv L, o = .returned rv ∧ Q_rm4_1 Z a oc u v h0 n0 rv U'.heap L ∧ FrameEnd U o U' L ({ frames := 1, cells := 0, slots := 0, locals := 12 } : Room).cells ({ frames := 1, cells := 0, slots := 0, locals := 12 } : Room).slots) := by
  refine MetFree.of_bodySF (plainFor_of_name pn_4) hisR ?_
  intro p e s m args below meth c s₁ Bd hml0 hP hK
  obtain ⟨rfl, hZ, hh⟩ := hP
  have hx := Bd.exec
  have hby := Bd.bytes
  have hml : c.maxLocals = 4 := hml0
  have hown : s.vm.findClass "com/example/runs_to_risk/runstorisk/anb/Channel" = some m.cls := findClass_of_methodNamed Bd.named
  have hnm := (name_of_methodNamed Bd.named Bd.method).1
  have X0 : Stand p l e ({ frames := 1, cells := 0, slots := 0, locals := 12 } : Room) s m #[(.ref a), (.ref oc)] below meth c s₁ [] 0 0 := Stand.of_body Bd
  have e0 : s₁.heap = h0 := by rw [← hh, Bd.state]; rfl
  have N0 := Fr.nil n0
  have pre0 : ∀ t, Steps p.tables e below (s₁.setTop (mkF m 0 #[.val (.ref a), .val (.ref oc), .unset, .unset] [])) t → Steps p.tables e below (s₁.setTop (entryFrame m #[(.ref a), (.ref oc)] 4)) t := fun t k => castTop (ef_rm4_1 m a oc) k
  have sg1 : ∀ target, Steps p.tables e below (s₁.setTop (mkF m 2 #[.val (.ref a), .val (.ref oc), .unset, .unset] [(.ref a), (.double (4607182418800017408 : UInt64))])) target → Steps p.tables e below (s₁.setTop (mkF m 0 #[.val (.ref a), .val (.ref oc), .unset, .unset] [])) target := by
    intro target kt
    show Steps p.tables e below (s₁.setTop (mkF m 0 #[.val (.ref a), .val (.ref oc), .unset, .unset] [])) _
    refine XS.dconst1 X0.here hx rfl (v := (4607182418800017408 : UInt64)) (hb hby d4_0) rfl ?_
    show Steps p.tables e below (s₁.setTop (mkF m 1 #[.val (.ref a), .val (.ref oc), .unset, .unset] [(.double (4607182418800017408 : UInt64))])) _
    refine XS.aloadN X0.here hx rfl (hb hby d4_1) rfl rfl ?_
    exact kt
  obtain ⟨T2, X2, e2, st2⟩ := getF X0 hx hZ hown (host := "") (Or.inl (hw _ (List.mem_of_getElem? (i := 18) rfl))) Via.refl e0 F2 (g := (mkF m 2 #[.val (.ref a), .val (.ref oc), .unset, .unset] [(.ref a), (.double (4607182418800017408 : UInt64))])) rfl rfl (hb hby d4_2)
  have sg3 : ∀ target, Steps p.tables e below (T2.setTop (mkF m 8 #[.val (.ref a), .val (.ref oc), .val (.double (FP.dsub (4607182418800017408 : UInt64) v)), .second] [(.ref oc)])) target → Steps p.tables e below (T2.setTop (mkF m 5 #[.val (.ref a), .val (.ref oc), .unset, .unset] [(.double v), (.double (4607182418800017408 : UInt64))])) target := by
    intro target kt
    show Steps p.tables e below (T2.setTop (mkF m 5 #[.val (.ref a), .val (.ref oc), .unset, .unset] [(.double v), (.double (4607182418800017408 : UInt64))])) _
    refine XS.dsubS X2.here hx rfl (v := (FP.dsub (4607182418800017408 : UInt64) v)) (hb hby d4_5) rfl nn rfl ?_
    show Steps p.tables e below (T2.setTop (mkF m 6 #[.val (.ref a), .val (.ref oc), .unset, .unset] [(.double (FP.dsub (4607182418800017408 : UInt64) v))])) _
    refine XS.dstoreN X2.here hx rfl (hb hby d4_6) rfl (l' := #[.val (.ref a), .val (.ref oc), .val (.double (FP.dsub (4607182418800017408 : UInt64) v)), .second]) rfl ?_
    show Steps p.tables e below (T2.setTop (mkF m 7 #[.val (.ref a), .val (.ref oc), .val (.double (FP.dsub (4607182418800017408 : UInt64) v)), .second] [])) _
    refine XS.aloadN X2.here hx rfl (hb hby d4_7) rfl rfl ?_
    exact kt
  obtain ⟨cq4, kq4, q4a, q4b, q4c⟩ := isOf hZ e2 E_o
  obtain ⟨_, _, ⟨T4, L4, k4, n4⟩, -, X4, ⟨Lc4, hQ4, l4, y4, z4⟩, st4⟩ := X2.virtualBackUp hx (x := (⟨"com/example/runs_to_risk/runstorisk/anb/Channel$Outcome", "ordinal", "()I"⟩ : MethodName)) (y := (⟨"java/lang/Enum", "ordinal", "()I"⟩ : MethodName)) (owner := "java/lang/Enum") hown (mvT hZ (hw _ (List.mem_of_getElem? (i := 28) rfl))) (mvT hZ (hw _ (List.mem_of_getElem? (i := 29) rfl))) (mvT hZ (hw _ (List.mem_of_getElem? (i := 30) rfl))) (by decide) (mvT hZ (hw _ (List.mem_of_getElem? (i := 32) rfl))) (mvT hZ (hw _ (List.mem_of_getElem? (i := 31) rfl))) (backOf (W := 0) (rm5 l Z a0 hw [] oc (1 : Int32) h0 n0 Z0 G) hZ (hw _ (List.mem_of_getElem? (i := 34) rfl)) (hw _ (List.mem_of_getElem? (i := 33) rfl)) (by decide) (by decide)) q4a q4c (g := (mkF m 8 #[.val (.ref a), .val (.ref oc), .val (.double (FP.dsub (4607182418800017408 : UInt64) v)), .second] [(.ref oc)])) rfl (by rw [hml]; rfl) (Steps.refl _) (argsL := []) (rest := []) (lenOf pd_1 rfl) rfl (by show 2 * 0 + _ ≤ _; exact Nat.le_of_eq rfl) (hb hby d4_8) (fun _ _ => ⟨rfl, e2, (by decide : 0 + 0 ≤ _), (by decide : 0 + 0 ≤ _)⟩)
  dsimp only [Pt.U, Pt.locs, Pt.cells, Pt.slots] at X4 l4 y4 z4 st4 hQ4
  subst l4 y4 z4
  obtain ⟨rfl, N4q, c4_0⟩ := hQ4
  have N4 := Fr.app N0 N4q
  have sg5 : ∀ target, Steps p.tables e below (T4.setTop (mkF m 55 #[.val (.ref a), .val (.ref oc), .val (.double (FP.dsub (4607182418800017408 : UInt64) v)), .second] [(.ref a), (.double (FP.dsub (4607182418800017408 : UInt64) v))])) target → Steps p.tables e below (T4.setTop (mkF m 11 #[.val (.ref a), .val (.ref oc), .val (.double (FP.dsub (4607182418800017408 : UInt64) v)), .second] [(.int (1 : Int32))])) target := by
    intro target kt
    show Steps p.tables e below (T4.setTop (mkF m 11 #[.val (.ref a), .val (.ref oc), .val (.double (FP.dsub (4607182418800017408 : UInt64) v)), .second] [(.int (1 : Int32))])) _
    refine XS.tswIn X4.here hx rfl (o := 42) (pc0 := 11) (pc' := 53) rfl (hb hby d4_11) rfl (by decide) rfl (by decide) (by decide) ?_
    show Steps p.tables e below (T4.setTop (mkF m 53 #[.val (.ref a), .val (.ref oc), .val (.double (FP.dsub (4607182418800017408 : UInt64) v)), .second] [])) _
    refine XS.dloadN X4.here hx rfl (hb hby d4_53) rfl ?_
    show Steps p.tables e below (T4.setTop (mkF m 54 #[.val (.ref a), .val (.ref oc), .val (.double (FP.dsub (4607182418800017408 : UInt64) v)), .second] [(.double (FP.dsub (4607182418800017408 : UInt64) v))])) _
    refine XS.aloadN X4.here hx rfl (hb hby d4_54) rfl rfl ?_
    exact kt
  obtain ⟨T6, X6, e6, st6⟩ := getF X4 hx hZ hown (host := "") (Or.inl (hw _ (List.mem_of_getElem? (i := 16) rfl))) Via.refl c4_0 F1 (g := (mkF m 55 #[.val (.ref a), .val (.ref oc), .val (.double (FP.dsub (4607182418800017408 : UInt64) v)), .second] [(.ref a), (.double (FP.dsub (4607182418800017408 : UInt64) v))])) rfl rfl (hb hby d4_55)
  have sg7 : ∀ target, Steps p.tables e below (T6.setTop (mkF m 70 #[.val (.ref a), .val (.ref oc), .val (.double (FP.dsub (4607182418800017408 : UInt64) v)), .second] [(.double (FP.dmul (FP.dsub (4607182418800017408 : UInt64) v) u))])) target → Steps p.tables e below (T6.setTop (mkF m 58 #[.val (.ref a), .val (.ref oc), .val (.double (FP.dsub (4607182418800017408 : UInt64) v)), .second] [(.double u), (.double (FP.dsub (4607182418800017408 : UInt64) v))])) target := by
    intro target kt
    show Steps p.tables e below (T6.setTop (mkF m 58 #[.val (.ref a), .val (.ref oc), .val (.double (FP.dsub (4607182418800017408 : UInt64) v)), .second] [(.double u), (.double (FP.dsub (4607182418800017408 : UInt64) v))])) _
    refine XS.dmulS X6.here hx rfl (v := (FP.dmul (FP.dsub (4607182418800017408 : UInt64) v) u)) (hb hby d4_58) rfl nn2 rfl ?_
    show Steps p.tables e below (T6.setTop (mkF m 59 #[.val (.ref a), .val (.ref oc), .val (.double (FP.dsub (4607182418800017408 : UInt64) v)), .second] [(.double (FP.dmul (FP.dsub (4607182418800017408 : UInt64) v) u))])) _
    refine XS.goto X6.here hx rfl (pc0 := 59) (pc' := 70) rfl (hb hby d4_59) (by decide) (by decide) ?_
    exact kt
  obtain ⟨fs, hr, hrun, hended, hW, hsame⟩ := X6.leave (v := some (.double (FP.dmul (FP.dsub (4607182418800017408 : UInt64) v) u))) (fun h => by rw [Bd.returns] at h; cases h)
  refine ⟨_, _, pre0 _ ?_, hrun, hended, _, _, rfl, ?_, ⟨_, rfl⟩, hW, hsame.mono (by decide) (by decide)⟩
  · show Steps p.tables e below (s₁.setTop (mkF m 0 #[.val (.ref a), .val (.ref oc), .unset, .unset] [])) _
    refine sg1 _ ?_
    refine st2 _ ?_
    refine sg3 _ ?_
    refine st4.trans ?_
    refine sg5 _ ?_
    refine st6 _ ?_
    refine sg7 _ ?_
    show Steps p.tables e below (T6.setTop (mkF m 70 #[.val (.ref a), .val (.ref oc), .val (.double (FP.dsub (4607182418800017408 : UInt64) v)), .second] [(.double (FP.dmul (FP.dsub (4607182418800017408 : UInt64) v) u))])) _
    exact retOut X6 hx Bd.returns rfl (Or.inr (Or.inr (Or.inl ⟨rfl, rfl, _, rfl⟩))) (hb hby d4_70) hr
  · show Q_rm4_1 Z a oc u v h0 n0 _ T6.heap _
    rw [e6]
    exact ⟨rfl, N4, rfl⟩
theorem d4_62 : decode prog_4_method_2_code 62 = .ok (.dload_n 2, 1) := by decide +kernel
theorem d4_63 : decode prog_4_method_2_code 63 = .ok (.dconst 1, 1) := by decide +kernel
theorem d4_64 : decode prog_4_method_2_code 64 = .ok (.aload_n 0, 1) := by decide +kernel
theorem d4_65 : decode prog_4_method_2_code 65 = .ok (.getfield 7, 3) := by decide +kernel
theorem d4_68 : decode prog_4_method_2_code 68 = .ok (.dsub, 1) := by decide +kernel
theorem d4_69 : decode prog_4_method_2_code 69 = .ok (.dmul, 1) := by decide +kernel
theorem ef_rm4_2 (m : MethodId) (x0 : Addr) (x1 : Addr) : entryFrame m #[(.ref x0), (.ref x1)] 4 = mkF m 0 #[.val (.ref x0), .val (.ref x1), .unset, .unset] [] := by first | (simp [entryFrame, mkF, argsToLocals, Value.category]; done) | rfl
def Q_rm4_2 (Z : State) (a : Addr) (oc : Addr) (u : UInt64) (v : UInt64) (h0 : Heap) (n0 : Nat) (rv : Option Value) (h : Heap) (L : List Loc) : Prop := rv = some (.double (FP.dmul (FP.dsub (4607182418800017408 : UInt64) v) (FP.dsub (4607182418800017408 : UInt64) u))) ∧ Fr n0 L ∧ h = h0
set_option maxRecDepth 65536 in
set_option maxHeartbeats 40000000 in
theorem rm4_2 (l : Launch) (Z : State) (a0 : Array Value) (hw : ∀ d ∈ tables_1, d.before a0 Z = true) (ws : List Jvm.Cond) (a : Addr) (oc : Addr) (u : UInt64) (v : UInt64) (h0 : Heap) (n0 : Nat) (Z0 : n0 ≤ h0.size) (E_o : Exa Z h0 oc "com/example/runs_to_risk/runstorisk/anb/Channel$Outcome") (G : Fld Z h0 oc "java/lang/Enum" "ordinal" "I" (.int (2 : Int32))) (F1 : Fld Z h0 a "com/example/runs_to_risk/runstorisk/anb/Channel" "unread" "D" (.double u)) (F2 : Fld Z h0 a "com/example/runs_to_risk/runstorisk/anb/Channel" "lost" "D" (.double v)) (nn : Jvm.Free.Fl.NoNaN64 (FP.dsub (4607182418800017408 : UInt64) v)) (nn3 : Jvm.Free.Fl.NoNaN64 (FP.dsub (4607182418800017408 : UInt64) u)) (nn2 : Jvm.Free.Fl.NoNaN64 (FP.dmul (FP.dsub (4607182418800017408 : UInt64) v) (FP.dsub (4607182418800017408 : UInt64) u))) :
    MetFree l (⟨"com/example/runs_to_risk/runstorisk/anb/Channel", "probability", "(Lcom/example/runs_to_risk/runstorisk/anb/Channel$Outcome;)D"⟩ : MethodName) (head1 (Jvm.Cond.code (⟨"com/example/runs_to_risk/runstorisk/anb/Channel", "probability", "(Lcom/example/runs_to_risk/runstorisk/anb/Channel$Outcome;)D"⟩ : MethodName) prog_4_method_2_code 4 (some .double) :: ws) ({ frames := 1, cells := 0, slots := 0, locals := 12 } : Room)) (fun av U => av = #[(.ref a), (.ref oc)] ∧ Z.Warmed39 U.vm ∧ U.heap = h0) (fun _ _ _ _ _ => True) (fun _ U o U' => ∃ rv L, o = .returned rv ∧ Q_rm4_2 Z a oc u v h0 n0 rv U'.heap L ∧ FrameEnd U o U' L ({ frames := 1, cells := 0, slots := 0, locals := 12 } : Room).cells ({ frames := 1, cells := 0, slots := 0, locals := 12 } : Room).slots) := by
  refine MetFree.of_bodySF (plainFor_of_name pn_4) hisR ?_
  intro p e s m args below meth c s₁ Bd hml0 hP hK
  obtain ⟨rfl, hZ, hh⟩ := hP
  have hx := Bd.exec
  have hby := Bd.bytes
  have hml : c.maxLocals = 4 := hml0
  have hown : s.vm.findClass "com/example/runs_to_risk/runstorisk/anb/Channel" = some m.cls := findClass_of_methodNamed Bd.named
  have hnm := (name_of_methodNamed Bd.named Bd.method).1
  have X0 : Stand p l e ({ frames := 1, cells := 0, slots := 0, locals := 12 } : Room) s m #[(.ref a), (.ref oc)] below meth c s₁ [] 0 0 := Stand.of_body Bd
  have e0 : s₁.heap = h0 := by rw [← hh, Bd.state]; rfl
  have N0 := Fr.nil n0
  have pre0 : ∀ t, Steps p.tables e below (s₁.setTop (mkF m 0 #[.val (.ref a), .val (.ref oc), .unset, .unset] [])) t → Steps p.tables e below (s₁.setTop (entryFrame m #[(.ref a), (.ref oc)] 4)) t := fun t k => castTop (ef_rm4_2 m a oc) k
  have sg1 : ∀ target, Steps p.tables e below (s₁.setTop (mkF m 2 #[.val (.ref a), .val (.ref oc), .unset, .unset] [(.ref a), (.double (4607182418800017408 : UInt64))])) target → Steps p.tables e below (s₁.setTop (mkF m 0 #[.val (.ref a), .val (.ref oc), .unset, .unset] [])) target := by
    intro target kt
    show Steps p.tables e below (s₁.setTop (mkF m 0 #[.val (.ref a), .val (.ref oc), .unset, .unset] [])) _
    refine XS.dconst1 X0.here hx rfl (v := (4607182418800017408 : UInt64)) (hb hby d4_0) rfl ?_
    show Steps p.tables e below (s₁.setTop (mkF m 1 #[.val (.ref a), .val (.ref oc), .unset, .unset] [(.double (4607182418800017408 : UInt64))])) _
    refine XS.aloadN X0.here hx rfl (hb hby d4_1) rfl rfl ?_
    exact kt
  obtain ⟨T2, X2, e2, st2⟩ := getF X0 hx hZ hown (host := "") (Or.inl (hw _ (List.mem_of_getElem? (i := 18) rfl))) Via.refl e0 F2 (g := (mkF m 2 #[.val (.ref a), .val (.ref oc), .unset, .unset] [(.ref a), (.double (4607182418800017408 : UInt64))])) rfl rfl (hb hby d4_2)
  have sg3 : ∀ target, Steps p.tables e below (T2.setTop (mkF m 8 #[.val (.ref a), .val (.ref oc), .val (.double (FP.dsub (4607182418800017408 : UInt64) v)), .second] [(.ref oc)])) target → Steps p.tables e below (T2.setTop (mkF m 5 #[.val (.ref a), .val (.ref oc), .unset, .unset] [(.double v), (.double (4607182418800017408 : UInt64))])) target := by
    intro target kt
    show Steps p.tables e below (T2.setTop (mkF m 5 #[.val (.ref a), .val (.ref oc), .unset, .unset] [(.double v), (.double (4607182418800017408 : UInt64))])) _
    refine XS.dsubS X2.here hx rfl (v := (FP.dsub (4607182418800017408 : UInt64) v)) (hb hby d4_5) rfl nn rfl ?_
    show Steps p.tables e below (T2.setTop (mkF m 6 #[.val (.ref a), .val (.ref oc), .unset, .unset] [(.double (FP.dsub (4607182418800017408 : UInt64) v))])) _
    refine XS.dstoreN X2.here hx rfl (hb hby d4_6) rfl (l' := #[.val (.ref a), .val (.ref oc), .val (.double (FP.dsub (4607182418800017408 : UInt64) v)), .second]) rfl ?_
    show Steps p.tables e below (T2.setTop (mkF m 7 #[.val (.ref a), .val (.ref oc), .val (.double (FP.dsub (4607182418800017408 : UInt64) v)), .second] [])) _
    refine XS.aloadN X2.here hx rfl (hb hby d4_7) rfl rfl ?_
    exact kt
  obtain ⟨cq4, kq4, q4a, q4b, q4c⟩ := isOf hZ e2 E_o
  obtain ⟨_, _, ⟨T4, L4, k4, n4⟩, -, X4, ⟨Lc4, hQ4, l4, y4, z4⟩, st4⟩ := X2.virtualBackUp hx (x := (⟨"com/example/runs_to_risk/runstorisk/anb/Channel$Outcome", "ordinal", "()I"⟩ : MethodName)) (y := (⟨"java/lang/Enum", "ordinal", "()I"⟩ : MethodName)) (owner := "java/lang/Enum") hown (mvT hZ (hw _ (List.mem_of_getElem? (i := 28) rfl))) (mvT hZ (hw _ (List.mem_of_getElem? (i := 29) rfl))) (mvT hZ (hw _ (List.mem_of_getElem? (i := 30) rfl))) (by decide) (mvT hZ (hw _ (List.mem_of_getElem? (i := 32) rfl))) (mvT hZ (hw _ (List.mem_of_getElem? (i := 31) rfl))) (backOf (W := 0) (rm5 l Z a0 hw [] oc (2 : Int32) h0 n0 Z0 G) hZ (hw _ (List.mem_of_getElem? (i := 34) rfl)) (hw _ (List.mem_of_getElem? (i := 33) rfl)) (by decide) (by decide)) q4a q4c (g := (mkF m 8 #[.val (.ref a), .val (.ref oc), .val (.double (FP.dsub (4607182418800017408 : UInt64) v)), .second] [(.ref oc)])) rfl (by rw [hml]; rfl) (Steps.refl _) (argsL := []) (rest := []) (lenOf pd_1 rfl) rfl (by show 2 * 0 + _ ≤ _; exact Nat.le_of_eq rfl) (hb hby d4_8) (fun _ _ => ⟨rfl, e2, (by decide : 0 + 0 ≤ _), (by decide : 0 + 0 ≤ _)⟩)
  dsimp only [Pt.U, Pt.locs, Pt.cells, Pt.slots] at X4 l4 y4 z4 st4 hQ4
  subst l4 y4 z4
  obtain ⟨rfl, N4q, c4_0⟩ := hQ4
  have N4 := Fr.app N0 N4q
  have sg5 : ∀ target, Steps p.tables e below (T4.setTop (mkF m 65 #[.val (.ref a), .val (.ref oc), .val (.double (FP.dsub (4607182418800017408 : UInt64) v)), .second] [(.ref a), (.double (4607182418800017408 : UInt64)), (.double (FP.dsub (4607182418800017408 : UInt64) v))])) target → Steps p.tables e below (T4.setTop (mkF m 11 #[.val (.ref a), .val (.ref oc), .val (.double (FP.dsub (4607182418800017408 : UInt64) v)), .second] [(.int (2 : Int32))])) target := by
    intro target kt
    show Steps p.tables e below (T4.setTop (mkF m 11 #[.val (.ref a), .val (.ref oc), .val (.double (FP.dsub (4607182418800017408 : UInt64) v)), .second] [(.int (2 : Int32))])) _
    refine XS.tswIn X4.here hx rfl (o := 51) (pc0 := 11) (pc' := 62) rfl (hb hby d4_11) rfl (by decide) rfl (by decide) (by decide) ?_
    show Steps p.tables e below (T4.setTop (mkF m 62 #[.val (.ref a), .val (.ref oc), .val (.double (FP.dsub (4607182418800017408 : UInt64) v)), .second] [])) _
    refine XS.dloadN X4.here hx rfl (hb hby d4_62) rfl ?_
    show Steps p.tables e below (T4.setTop (mkF m 63 #[.val (.ref a), .val (.ref oc), .val (.double (FP.dsub (4607182418800017408 : UInt64) v)), .second] [(.double (FP.dsub (4607182418800017408 : UInt64) v))])) _
    refine XS.dconst1 X4.here hx rfl (v := (4607182418800017408 : UInt64)) (hb hby d4_63) rfl ?_
    show Steps p.tables e below (T4.setTop (mkF m 64 #[.val (.ref a), .val (.ref oc), .val (.double (FP.dsub (4607182418800017408 : UInt64) v)), .second] [(.double (4607182418800017408 : UInt64)), (.double (FP.dsub (4607182418800017408 : UInt64) v))])) _
    refine XS.aloadN X4.here hx rfl (hb hby d4_64) rfl rfl ?_
    exact kt
  obtain ⟨T6, X6, e6, st6⟩ := getF X4 hx hZ hown (host := "") (Or.inl (hw _ (List.mem_of_getElem? (i := 16) rfl))) Via.refl c4_0 F1 (g := (mkF m 65 #[.val (.ref a), .val (.ref oc), .val (.double (FP.dsub (4607182418800017408 : UInt64) v)), .second] [(.ref a), (.double (4607182418800017408 : UInt64)), (.double (FP.dsub (4607182418800017408 : UInt64) v))])) rfl rfl (hb hby d4_65)
  have sg7 : ∀ target, Steps p.tables e below (T6.setTop (mkF m 70 #[.val (.ref a), .val (.ref oc), .val (.double (FP.dsub (4607182418800017408 : UInt64) v)), .second] [(.double (FP.dmul (FP.dsub (4607182418800017408 : UInt64) v) (FP.dsub (4607182418800017408 : UInt64) u)))])) target → Steps p.tables e below (T6.setTop (mkF m 68 #[.val (.ref a), .val (.ref oc), .val (.double (FP.dsub (4607182418800017408 : UInt64) v)), .second] [(.double u), (.double (4607182418800017408 : UInt64)), (.double (FP.dsub (4607182418800017408 : UInt64) v))])) target := by
    intro target kt
    show Steps p.tables e below (T6.setTop (mkF m 68 #[.val (.ref a), .val (.ref oc), .val (.double (FP.dsub (4607182418800017408 : UInt64) v)), .second] [(.double u), (.double (4607182418800017408 : UInt64)), (.double (FP.dsub (4607182418800017408 : UInt64) v))])) _
    refine XS.dsubS X6.here hx rfl (v := (FP.dsub (4607182418800017408 : UInt64) u)) (hb hby d4_68) rfl nn3 rfl ?_
    show Steps p.tables e below (T6.setTop (mkF m 69 #[.val (.ref a), .val (.ref oc), .val (.double (FP.dsub (4607182418800017408 : UInt64) v)), .second] [(.double (FP.dsub (4607182418800017408 : UInt64) u)), (.double (FP.dsub (4607182418800017408 : UInt64) v))])) _
    refine XS.dmulS X6.here hx rfl (v := (FP.dmul (FP.dsub (4607182418800017408 : UInt64) v) (FP.dsub (4607182418800017408 : UInt64) u))) (hb hby d4_69) rfl nn2 rfl ?_
    exact kt
  obtain ⟨fs, hr, hrun, hended, hW, hsame⟩ := X6.leave (v := some (.double (FP.dmul (FP.dsub (4607182418800017408 : UInt64) v) (FP.dsub (4607182418800017408 : UInt64) u)))) (fun h => by rw [Bd.returns] at h; cases h)
  refine ⟨_, _, pre0 _ ?_, hrun, hended, _, _, rfl, ?_, ⟨_, rfl⟩, hW, hsame.mono (by decide) (by decide)⟩
  · show Steps p.tables e below (s₁.setTop (mkF m 0 #[.val (.ref a), .val (.ref oc), .unset, .unset] [])) _
    refine sg1 _ ?_
    refine st2 _ ?_
    refine sg3 _ ?_
    refine st4.trans ?_
    refine sg5 _ ?_
    refine st6 _ ?_
    refine sg7 _ ?_
    show Steps p.tables e below (T6.setTop (mkF m 70 #[.val (.ref a), .val (.ref oc), .val (.double (FP.dsub (4607182418800017408 : UInt64) v)), .second] [(.double (FP.dmul (FP.dsub (4607182418800017408 : UInt64) v) (FP.dsub (4607182418800017408 : UInt64) u)))])) _
    exact retOut X6 hx Bd.returns rfl (Or.inr (Or.inr (Or.inl ⟨rfl, rfl, _, rfl⟩))) (hb hby d4_70) hr
  · show Q_rm4_2 Z a oc u v h0 n0 _ T6.heap _
    rw [e6]
    exact ⟨rfl, N4, rfl⟩
def own_r (q : Int32) : Int32 := ((q &&& (2147483647 : Int32)) % (1025 : Int32))
def own_q (k : Int32) : UInt64 := FP.ddiv (FP.i2d k) (4652218415073722368 : UInt64)
theorem own_r_rng (q : Int32) : 0 ≤ (own_r q).toInt ∧ (own_r q).toInt ≤ 1024 := by
  have h1 := c_mask q (2147483647 : Int32) 31 (by decide) (by decide)
  have h2 : 0 ≤ (q &&& (2147483647 : Int32)).toInt := by rw [h1]; exact Int.emod_nonneg _ (by decide)
  unfold own_r
  rw [Int32.toInt_mod, show (1025 : Int32).toInt = 1025 by decide, Int.tmod_eq_emod_of_nonneg h2]
  have := Int.emod_nonneg (q &&& (2147483647 : Int32)).toInt (show (1025 : Int) ≠ 0 by decide)
  have := Int.emod_lt_of_pos (q &&& (2147483647 : Int32)).toInt (show (0 : Int) < 1025 by decide)
  omega
theorem own_c10 : FV.DV 1 10 (4652218415073722368 : UInt64) := FV.dv_lit false 4503599627370496 (-42) (by decide +kernel) (by decide)
theorem own_c20 : FV.DV 1 20 (4697254411347427328 : UInt64) := FV.dv_lit false 4503599627370496 (-32) (by decide +kernel) (by decide)
theorem own_one : FV.DV 1024 (-10) (4607182418800017408 : UInt64) := FV.dv_lit false 4503599627370496 (-52) (by decide +kernel) (by decide)
theorem own_qv {k : Int32} (h : 0 ≤ k.toInt ∧ k.toInt ≤ 1024) : FV.DV k.toInt (-10) (own_q k) :=
  FV.dv_div (k := k.toInt) (FV.dv_i2d k) own_c10 (by decide) (by omega) (by omega) (by decide) (by decide)
theorem own_sv {k : Int32} (h : 0 ≤ k.toInt ∧ k.toInt ≤ 1024) : FV.DV (1024 - k.toInt) (-10) (FP.dsub (4607182418800017408 : UInt64) (own_q k)) :=
  FV.dv_sub own_one (own_qv h) (by omega) (by decide) (by decide)
theorem own_prod {x y : Int} (hx : 0 ≤ x ∧ x ≤ 1024) (hy : 0 ≤ y ∧ y ≤ 1024) : 0 ≤ x * y ∧ x * y ≤ 1048576 := ⟨Int.mul_nonneg hx.1 hy.1, Int.mul_le_mul hx.2 hy.2 hy.1 (by decide)⟩
theorem own_pv {x y : Int} {a b : UInt64} (ha : FV.DV x (-10) a) (hb : FV.DV y (-10) b) (hx : 0 ≤ x ∧ x ≤ 1024) (hy : 0 ≤ y ∧ y ≤ 1024) : FV.DV (x * y) (-20) (FP.dmul a b) :=
  FV.dv_mul ha hb (by have := own_prod hx hy; omega) (by decide) (by decide)
theorem own_sub {k : Int32} (h : 0 ≤ k.toInt ∧ k.toInt ≤ 1024) : ((1024 : Int32) - k).toInt = 1024 - k.toInt := by
  rw [Int32.toInt_sub, show (1024 : Int32).toInt = 1024 by decide]; exact Int.bmod_eq_of_le (by omega) (by omega)
theorem own_mulv {x y : Int32} (hx : 0 ≤ x.toInt ∧ x.toInt ≤ 1024) (hy : 0 ≤ y.toInt ∧ y.toInt ≤ 1024) : FV.DV (x.toInt * y.toInt) (-20) (FP.ddiv (FP.i2d (x * y)) (4697254411347427328 : UInt64)) := by
  have hp := own_prod hx hy
  have e : (x * y).toInt = x.toInt * y.toInt := by rw [Int32.toInt_mul]; exact Int.bmod_eq_of_le (by omega) (by omega)
  have h := FV.dv_i2d (x * y)
  rw [e] at h
  exact FV.dv_div (k := x.toInt * y.toInt) h own_c20 (by decide) (by omega) (by omega) (by decide) (by decide)
theorem own_eqv {s : State} {args : Array Value} {t : Term} {k : Int32} (h : (Jvm.Cond.eq t (Jvm.Term.int k)).value args s none s [] = some true) : t.eval args s none [] s = some (.int k) := by
  cases ht : t.eval args s none [] s with
  | none => simp [Cond.value, ht] at h
  | some v =>
    cases v <;> simp [Cond.value, Term.eval, ht] at h
    rw [h]
theorem own_fld {s : State} {args : Array Value} {t : Term} {a : Addr} {C n d : String} {v : Value} (et : t.eval args s none [] s = some (.ref a)) (h : (Jvm.Term.field t C n d).eval args s none [] s = some v) : Fld s s.heap a C n d v :=
  Fld.start (by simpa [Term.eval, et] using h)
theorem pd_3 : parseMethodDescriptor "(DD)V" = some ⟨[.double, .double], none⟩ := by decide +kernel
theorem pd_4 : parseMethodDescriptor "(Lcom/example/runs_to_risk/runstorisk/anb/Channel$Outcome;)D" = some ⟨[(.object "com/example/runs_to_risk/runstorisk/anb/Channel$Outcome")], some .double⟩ := by decide +kernel
theorem pn_0 : plainName "com/example/runs_to_risk/runstorisk/anb/ChannelProbabilityPinLaw" = true := by first | (simp [plainName, overriddenIn]; done) | decide +kernel
theorem ef_rm0 (m : MethodId) (x0 : Int32) (x1 : Int32) : entryFrame m #[(.int x0), (.int x1)] maxLocals = mkF m 0 #[.val (.int x0), .val (.int x1), .unset, .unset, .unset, .unset, .unset, .unset, .unset, .unset, .unset, .unset, .unset, .unset, .unset, .unset, .unset, .unset, .unset, .unset, .unset] [] := by first | (simp [entryFrame, mkF, argsToLocals, Value.category, maxLocals]; done) | rfl
def Q_rm0 (Z : State) (i0 : Int32) (i1 : Int32) (o0 : Addr) (o1 : Addr) (o2 : Addr) (h0 : Heap) (n0 : Nat) (rv : Option Value) (h : Heap) (L : List Loc) : Prop := rv = some (.int 1) ∧ Fr n0 L
set_option maxRecDepth 65536 in
set_option maxHeartbeats 40000000 in
theorem rm0 (l : Launch) (Z : State) (a0 : Array Value) (hw : ∀ d ∈ tables_1, d.before a0 Z = true) (ws : List Jvm.Cond) (i0 : Int32) (i1 : Int32) (o0 : Addr) (o1 : Addr) (o2 : Addr) (h0 : Heap) (n0 : Nat) (Z0 : n0 ≤ h0.size) (O : Old Z n0 h0) (ST0 : Sta Z Z.heap "com/example/runs_to_risk/runstorisk/anb/Channel$Outcome" "LOST" "Lcom/example/runs_to_risk/runstorisk/anb/Channel$Outcome;" (.ref o0)) (X0_ : Exa Z Z.heap o0 "com/example/runs_to_risk/runstorisk/anb/Channel$Outcome") (G0 : Fld Z Z.heap o0 "java/lang/Enum" "ordinal" "I" (.int (0 : Int32))) (ST1 : Sta Z Z.heap "com/example/runs_to_risk/runstorisk/anb/Channel$Outcome" "UNREAD" "Lcom/example/runs_to_risk/runstorisk/anb/Channel$Outcome;" (.ref o1)) (X1_ : Exa Z Z.heap o1 "com/example/runs_to_risk/runstorisk/anb/Channel$Outcome") (G1 : Fld Z Z.heap o1 "java/lang/Enum" "ordinal" "I" (.int (1 : Int32))) (ST2 : Sta Z Z.heap "com/example/runs_to_risk/runstorisk/anb/Channel$Outcome" "READ" "Lcom/example/runs_to_risk/runstorisk/anb/Channel$Outcome;" (.ref o2)) (X2_ : Exa Z Z.heap o2 "com/example/runs_to_risk/runstorisk/anb/Channel$Outcome") (G2 : Fld Z Z.heap o2 "java/lang/Enum" "ordinal" "I" (.int (2 : Int32))) :
    MetFree l x (head1 (Jvm.Cond.code x code maxLocals ret :: ws) room_1) (fun av U => av = #[(.int i0), (.int i1)] ∧ Z.Warmed39 U.vm ∧ U.heap = h0) (fun _ _ _ _ _ => True) (fun _ U o U' => ∃ rv L, o = .returned rv ∧ Q_rm0 Z i0 i1 o0 o1 o2 h0 n0 rv U'.heap L ∧ FrameEnd U o U' L room_1.cells room_1.slots) := by
  refine MetFree.of_bodySF (plainFor_of_name pn_0) hisR ?_
  intro p e s m args below meth c s₁ Bd hml0 hP hK
  obtain ⟨rfl, hZ, hh⟩ := hP
  have hx := Bd.exec
  have hby := Bd.bytes
  have hml : c.maxLocals = 21 := hml0
  have hown : s.vm.findClass "com/example/runs_to_risk/runstorisk/anb/ChannelProbabilityPinLaw" = some m.cls := findClass_of_methodNamed Bd.named
  have hnm := (name_of_methodNamed Bd.named Bd.method).1
  have X0 : Stand p l e room_1 s m #[(.int i0), (.int i1)] below meth c s₁ [] 0 0 := Stand.of_body Bd
  have e0 : s₁.heap = h0 := by rw [← hh, Bd.state]; rfl
  have N0 := Fr.nil n0
  have pre0 : ∀ t, Steps p.tables e below (s₁.setTop (mkF m 0 #[.val (.int i0), .val (.int i1), .unset, .unset, .unset, .unset, .unset, .unset, .unset, .unset, .unset, .unset, .unset, .unset, .unset, .unset, .unset, .unset, .unset, .unset, .unset] [])) t → Steps p.tables e below (s₁.setTop (entryFrame m #[(.int i0), (.int i1)] maxLocals)) t := fun t k => castTop (ef_rm0 m i0 i1) k
  have ha1 := own_r_rng i0
  have hb1 := own_r_rng i1
  have sa1 : 0 ≤ 1024 - (own_r i0).toInt ∧ 1024 - (own_r i0).toInt ≤ 1024 := by omega
  have sb1 : 0 ≤ 1024 - (own_r i1).toInt ∧ 1024 - (own_r i1).toInt ≤ 1024 := by omega
  have ea1 : 0 ≤ ((1024 : Int32) - (own_r i0)).toInt ∧ ((1024 : Int32) - (own_r i0)).toInt ≤ 1024 := by rw [own_sub ha1]; exact sa1
  have eb1 : 0 ≤ ((1024 : Int32) - (own_r i1)).toInt ∧ ((1024 : Int32) - (own_r i1)).toInt ≤ 1024 := by rw [own_sub hb1]; exact sb1
  have sg1 : ∀ target, Steps p.tables e below (s₁.setTop (mkF m 34 #[.val (.int i0), .val (.int i1), .val (.int (own_r i0)), .val (.int (own_r i1)), .val (.double (own_q (own_r i0))), .second, .val (.double (own_q (own_r i1))), .second, .unset, .unset, .unset, .unset, .unset, .unset, .unset, .unset, .unset, .unset, .unset, .unset, .unset] [])) target → Steps p.tables e below (s₁.setTop (mkF m 0 #[.val (.int i0), .val (.int i1), .unset, .unset, .unset, .unset, .unset, .unset, .unset, .unset, .unset, .unset, .unset, .unset, .unset, .unset, .unset, .unset, .unset, .unset, .unset] [])) target := by
    intro target kt
    show Steps p.tables e below (s₁.setTop (mkF m 0 #[.val (.int i0), .val (.int i1), .unset, .unset, .unset, .unset, .unset, .unset, .unset, .unset, .unset, .unset, .unset, .unset, .unset, .unset, .unset, .unset, .unset, .unset, .unset] [])) _
    refine XS.iloadN X0.here hx rfl (hb hby at_0) rfl ?_
    show Steps p.tables e below (s₁.setTop (mkF m 1 #[.val (.int i0), .val (.int i1), .unset, .unset, .unset, .unset, .unset, .unset, .unset, .unset, .unset, .unset, .unset, .unset, .unset, .unset, .unset, .unset, .unset, .unset, .unset] [(.int i0)])) _
    refine X0.ldcInt hx hown (mvT hZ (hw _ (List.mem_of_getElem? (i := 0) rfl))) (g := (mkF m 1 #[.val (.int i0), .val (.int i1), .unset, .unset, .unset, .unset, .unset, .unset, .unset, .unset, .unset, .unset, .unset, .unset, .unset, .unset, .unset, .unset, .unset, .unset, .unset] [(.int i0)])) rfl (hb hby at_1) _ ?_
    show Steps p.tables e below (s₁.setTop (mkF m 3 #[.val (.int i0), .val (.int i1), .unset, .unset, .unset, .unset, .unset, .unset, .unset, .unset, .unset, .unset, .unset, .unset, .unset, .unset, .unset, .unset, .unset, .unset, .unset] [(.int (2147483647 : Int32)), (.int i0)])) _
    refine XS.iand X0.here hx rfl (hb hby at_3) rfl ?_
    show Steps p.tables e below (s₁.setTop (mkF m 4 #[.val (.int i0), .val (.int i1), .unset, .unset, .unset, .unset, .unset, .unset, .unset, .unset, .unset, .unset, .unset, .unset, .unset, .unset, .unset, .unset, .unset, .unset, .unset] [(.int (i0 &&& (2147483647 : Int32)))])) _
    refine XS.sipush X0.here hx rfl (hb hby at_4) ?_
    show Steps p.tables e below (s₁.setTop (mkF m 7 #[.val (.int i0), .val (.int i1), .unset, .unset, .unset, .unset, .unset, .unset, .unset, .unset, .unset, .unset, .unset, .unset, .unset, .unset, .unset, .unset, .unset, .unset, .unset] [(.int (1025 : Int32)), (.int (i0 &&& (2147483647 : Int32)))])) _
    refine iremM X0 hx rfl (hb hby at_7) rfl (by decide) ?_
    show Steps p.tables e below (s₁.setTop (mkF m 8 #[.val (.int i0), .val (.int i1), .unset, .unset, .unset, .unset, .unset, .unset, .unset, .unset, .unset, .unset, .unset, .unset, .unset, .unset, .unset, .unset, .unset, .unset, .unset] [(.int (own_r i0))])) _
    refine XS.istoreN X0.here hx rfl (hb hby at_8) rfl (l' := #[.val (.int i0), .val (.int i1), .val (.int (own_r i0)), .unset, .unset, .unset, .unset, .unset, .unset, .unset, .unset, .unset, .unset, .unset, .unset, .unset, .unset, .unset, .unset, .unset, .unset]) rfl ?_
    show Steps p.tables e below (s₁.setTop (mkF m 9 #[.val (.int i0), .val (.int i1), .val (.int (own_r i0)), .unset, .unset, .unset, .unset, .unset, .unset, .unset, .unset, .unset, .unset, .unset, .unset, .unset, .unset, .unset, .unset, .unset, .unset] [])) _
    refine XS.iloadN X0.here hx rfl (hb hby at_9) rfl ?_
    show Steps p.tables e below (s₁.setTop (mkF m 10 #[.val (.int i0), .val (.int i1), .val (.int (own_r i0)), .unset, .unset, .unset, .unset, .unset, .unset, .unset, .unset, .unset, .unset, .unset, .unset, .unset, .unset, .unset, .unset, .unset, .unset] [(.int i1)])) _
    refine X0.ldcInt hx hown (mvT hZ (hw _ (List.mem_of_getElem? (i := 0) rfl))) (g := (mkF m 10 #[.val (.int i0), .val (.int i1), .val (.int (own_r i0)), .unset, .unset, .unset, .unset, .unset, .unset, .unset, .unset, .unset, .unset, .unset, .unset, .unset, .unset, .unset, .unset, .unset, .unset] [(.int i1)])) rfl (hb hby at_10) _ ?_
    show Steps p.tables e below (s₁.setTop (mkF m 12 #[.val (.int i0), .val (.int i1), .val (.int (own_r i0)), .unset, .unset, .unset, .unset, .unset, .unset, .unset, .unset, .unset, .unset, .unset, .unset, .unset, .unset, .unset, .unset, .unset, .unset] [(.int (2147483647 : Int32)), (.int i1)])) _
    refine XS.iand X0.here hx rfl (hb hby at_12) rfl ?_
    show Steps p.tables e below (s₁.setTop (mkF m 13 #[.val (.int i0), .val (.int i1), .val (.int (own_r i0)), .unset, .unset, .unset, .unset, .unset, .unset, .unset, .unset, .unset, .unset, .unset, .unset, .unset, .unset, .unset, .unset, .unset, .unset] [(.int (i1 &&& (2147483647 : Int32)))])) _
    refine XS.sipush X0.here hx rfl (hb hby at_13) ?_
    show Steps p.tables e below (s₁.setTop (mkF m 16 #[.val (.int i0), .val (.int i1), .val (.int (own_r i0)), .unset, .unset, .unset, .unset, .unset, .unset, .unset, .unset, .unset, .unset, .unset, .unset, .unset, .unset, .unset, .unset, .unset, .unset] [(.int (1025 : Int32)), (.int (i1 &&& (2147483647 : Int32)))])) _
    refine iremM X0 hx rfl (hb hby at_16) rfl (by decide) ?_
    show Steps p.tables e below (s₁.setTop (mkF m 17 #[.val (.int i0), .val (.int i1), .val (.int (own_r i0)), .unset, .unset, .unset, .unset, .unset, .unset, .unset, .unset, .unset, .unset, .unset, .unset, .unset, .unset, .unset, .unset, .unset, .unset] [(.int (own_r i1))])) _
    refine XS.istoreN X0.here hx rfl (hb hby at_17) rfl (l' := #[.val (.int i0), .val (.int i1), .val (.int (own_r i0)), .val (.int (own_r i1)), .unset, .unset, .unset, .unset, .unset, .unset, .unset, .unset, .unset, .unset, .unset, .unset, .unset, .unset, .unset, .unset, .unset]) rfl ?_
    show Steps p.tables e below (s₁.setTop (mkF m 18 #[.val (.int i0), .val (.int i1), .val (.int (own_r i0)), .val (.int (own_r i1)), .unset, .unset, .unset, .unset, .unset, .unset, .unset, .unset, .unset, .unset, .unset, .unset, .unset, .unset, .unset, .unset, .unset] [])) _
    refine XS.iloadN X0.here hx rfl (hb hby at_18) rfl ?_
    show Steps p.tables e below (s₁.setTop (mkF m 19 #[.val (.int i0), .val (.int i1), .val (.int (own_r i0)), .val (.int (own_r i1)), .unset, .unset, .unset, .unset, .unset, .unset, .unset, .unset, .unset, .unset, .unset, .unset, .unset, .unset, .unset, .unset, .unset] [(.int (own_r i0))])) _
    refine XS.i2dS X0.here hx rfl (v := (FP.i2d (own_r i0))) (hb hby at_19) rfl rfl ?_
    show Steps p.tables e below (s₁.setTop (mkF m 20 #[.val (.int i0), .val (.int i1), .val (.int (own_r i0)), .val (.int (own_r i1)), .unset, .unset, .unset, .unset, .unset, .unset, .unset, .unset, .unset, .unset, .unset, .unset, .unset, .unset, .unset, .unset, .unset] [(.double (FP.i2d (own_r i0)))])) _
    refine X0.ldc2DoubleC hx hown (mvT hZ (hw _ (List.mem_of_getElem? (i := 1) rfl))) (g := (mkF m 20 #[.val (.int i0), .val (.int i1), .val (.int (own_r i0)), .val (.int (own_r i1)), .unset, .unset, .unset, .unset, .unset, .unset, .unset, .unset, .unset, .unset, .unset, .unset, .unset, .unset, .unset, .unset, .unset] [(.double (FP.i2d (own_r i0)))])) rfl (hb hby at_20) _ ?_
    show Steps p.tables e below (s₁.setTop (mkF m 23 #[.val (.int i0), .val (.int i1), .val (.int (own_r i0)), .val (.int (own_r i1)), .unset, .unset, .unset, .unset, .unset, .unset, .unset, .unset, .unset, .unset, .unset, .unset, .unset, .unset, .unset, .unset, .unset] [(.double (4652218415073722368 : UInt64)), (.double (FP.i2d (own_r i0)))])) _
    refine XS.ddivS X0.here hx rfl (v := (own_q (own_r i0))) (hb hby at_23) rfl (own_qv ha1).nn rfl ?_
    show Steps p.tables e below (s₁.setTop (mkF m 24 #[.val (.int i0), .val (.int i1), .val (.int (own_r i0)), .val (.int (own_r i1)), .unset, .unset, .unset, .unset, .unset, .unset, .unset, .unset, .unset, .unset, .unset, .unset, .unset, .unset, .unset, .unset, .unset] [(.double (own_q (own_r i0)))])) _
    refine XS.dstore X0.here hx rfl (hb hby at_24) rfl (l' := #[.val (.int i0), .val (.int i1), .val (.int (own_r i0)), .val (.int (own_r i1)), .val (.double (own_q (own_r i0))), .second, .unset, .unset, .unset, .unset, .unset, .unset, .unset, .unset, .unset, .unset, .unset, .unset, .unset, .unset, .unset]) rfl ?_
    show Steps p.tables e below (s₁.setTop (mkF m 26 #[.val (.int i0), .val (.int i1), .val (.int (own_r i0)), .val (.int (own_r i1)), .val (.double (own_q (own_r i0))), .second, .unset, .unset, .unset, .unset, .unset, .unset, .unset, .unset, .unset, .unset, .unset, .unset, .unset, .unset, .unset] [])) _
    refine XS.iloadN X0.here hx rfl (hb hby at_26) rfl ?_
    show Steps p.tables e below (s₁.setTop (mkF m 27 #[.val (.int i0), .val (.int i1), .val (.int (own_r i0)), .val (.int (own_r i1)), .val (.double (own_q (own_r i0))), .second, .unset, .unset, .unset, .unset, .unset, .unset, .unset, .unset, .unset, .unset, .unset, .unset, .unset, .unset, .unset] [(.int (own_r i1))])) _
    refine XS.i2dS X0.here hx rfl (v := (FP.i2d (own_r i1))) (hb hby at_27) rfl rfl ?_
    show Steps p.tables e below (s₁.setTop (mkF m 28 #[.val (.int i0), .val (.int i1), .val (.int (own_r i0)), .val (.int (own_r i1)), .val (.double (own_q (own_r i0))), .second, .unset, .unset, .unset, .unset, .unset, .unset, .unset, .unset, .unset, .unset, .unset, .unset, .unset, .unset, .unset] [(.double (FP.i2d (own_r i1)))])) _
    refine X0.ldc2DoubleC hx hown (mvT hZ (hw _ (List.mem_of_getElem? (i := 1) rfl))) (g := (mkF m 28 #[.val (.int i0), .val (.int i1), .val (.int (own_r i0)), .val (.int (own_r i1)), .val (.double (own_q (own_r i0))), .second, .unset, .unset, .unset, .unset, .unset, .unset, .unset, .unset, .unset, .unset, .unset, .unset, .unset, .unset, .unset] [(.double (FP.i2d (own_r i1)))])) rfl (hb hby at_28) _ ?_
    show Steps p.tables e below (s₁.setTop (mkF m 31 #[.val (.int i0), .val (.int i1), .val (.int (own_r i0)), .val (.int (own_r i1)), .val (.double (own_q (own_r i0))), .second, .unset, .unset, .unset, .unset, .unset, .unset, .unset, .unset, .unset, .unset, .unset, .unset, .unset, .unset, .unset] [(.double (4652218415073722368 : UInt64)), (.double (FP.i2d (own_r i1)))])) _
    refine XS.ddivS X0.here hx rfl (v := (own_q (own_r i1))) (hb hby at_31) rfl (own_qv hb1).nn rfl ?_
    show Steps p.tables e below (s₁.setTop (mkF m 32 #[.val (.int i0), .val (.int i1), .val (.int (own_r i0)), .val (.int (own_r i1)), .val (.double (own_q (own_r i0))), .second, .unset, .unset, .unset, .unset, .unset, .unset, .unset, .unset, .unset, .unset, .unset, .unset, .unset, .unset, .unset] [(.double (own_q (own_r i1)))])) _
    refine XS.dstore X0.here hx rfl (hb hby at_32) rfl (l' := #[.val (.int i0), .val (.int i1), .val (.int (own_r i0)), .val (.int (own_r i1)), .val (.double (own_q (own_r i0))), .second, .val (.double (own_q (own_r i1))), .second, .unset, .unset, .unset, .unset, .unset, .unset, .unset, .unset, .unset, .unset, .unset, .unset, .unset]) rfl ?_
    exact kt
  obtain ⟨T2, h2, X2, e2, E2, A2, D2, -, st2⟩ := newO X0 hx hZ hown (hw _ (List.mem_of_getElem? (i := 2) rfl)) (hw _ (List.mem_of_getElem? (i := 3) rfl)) (hw _ (List.mem_of_getElem? (i := 4) rfl)) e0 (g := (mkF m 34 #[.val (.int i0), .val (.int i1), .val (.int (own_r i0)), .val (.int (own_r i1)), .val (.double (own_q (own_r i0))), .second, .val (.double (own_q (own_r i1))), .second, .unset, .unset, .unset, .unset, .unset, .unset, .unset, .unset, .unset, .unset, .unset, .unset, .unset] [])) rfl (hb hby at_34) (by decide) (by decide)
  obtain ⟨b2, g2⟩ : ∃ z, z = h0.size := ⟨_, rfl⟩
  rw [← g2] at A2 D2 st2
  have g_b2 : n0 ≤ b2 := Nat.le_trans Z0 (Nat.le_of_eq g2.symm)
  have Zs2 : n0 ≤ h2.size := Nat.le_trans Z0 E2.1
  have f3 : Old Z n0 h2 := O.ext E2
  have f4 : Exa Z h2 b2 "com/example/runs_to_risk/runstorisk/anb/Channel" := A2
  have f5 : Fld Z h2 b2 "com/example/runs_to_risk/runstorisk/anb/Channel" "unread" "D" (.double (0 : UInt64)) := D2 (Or.inr (hw _ (List.mem_of_getElem? (i := 17) rfl))) (ty := .double) (by decide)
  have f6 : Fld Z h2 b2 "com/example/runs_to_risk/runstorisk/anb/Channel" "lost" "D" (.double (0 : UInt64)) := D2 (Or.inr (hw _ (List.mem_of_getElem? (i := 19) rfl))) (ty := .double) (by decide)
  have sg7 : ∀ target, Steps p.tables e below (T2.setTop (mkF m 42 #[.val (.int i0), .val (.int i1), .val (.int (own_r i0)), .val (.int (own_r i1)), .val (.double (own_q (own_r i0))), .second, .val (.double (own_q (own_r i1))), .second, .unset, .unset, .unset, .unset, .unset, .unset, .unset, .unset, .unset, .unset, .unset, .unset, .unset] [(.double (own_q (own_r i1))), (.double (own_q (own_r i0))), (.ref b2), (.ref b2)])) target → Steps p.tables e below (T2.setTop (mkF m 37 #[.val (.int i0), .val (.int i1), .val (.int (own_r i0)), .val (.int (own_r i1)), .val (.double (own_q (own_r i0))), .second, .val (.double (own_q (own_r i1))), .second, .unset, .unset, .unset, .unset, .unset, .unset, .unset, .unset, .unset, .unset, .unset, .unset, .unset] [(.ref b2)])) target := by
    intro target kt
    show Steps p.tables e below (T2.setTop (mkF m 37 #[.val (.int i0), .val (.int i1), .val (.int (own_r i0)), .val (.int (own_r i1)), .val (.double (own_q (own_r i0))), .second, .val (.double (own_q (own_r i1))), .second, .unset, .unset, .unset, .unset, .unset, .unset, .unset, .unset, .unset, .unset, .unset, .unset, .unset] [(.ref b2)])) _
    refine XS.dup X2.here hx rfl (hb hby at_37) rfl rfl ?_
    show Steps p.tables e below (T2.setTop (mkF m 38 #[.val (.int i0), .val (.int i1), .val (.int (own_r i0)), .val (.int (own_r i1)), .val (.double (own_q (own_r i0))), .second, .val (.double (own_q (own_r i1))), .second, .unset, .unset, .unset, .unset, .unset, .unset, .unset, .unset, .unset, .unset, .unset, .unset, .unset] [(.ref b2), (.ref b2)])) _
    refine XS.dload X2.here hx rfl (hb hby at_38) rfl ?_
    show Steps p.tables e below (T2.setTop (mkF m 40 #[.val (.int i0), .val (.int i1), .val (.int (own_r i0)), .val (.int (own_r i1)), .val (.double (own_q (own_r i0))), .second, .val (.double (own_q (own_r i1))), .second, .unset, .unset, .unset, .unset, .unset, .unset, .unset, .unset, .unset, .unset, .unset, .unset, .unset] [(.double (own_q (own_r i0))), (.ref b2), (.ref b2)])) _
    refine XS.dload X2.here hx rfl (hb hby at_40) rfl ?_
    exact kt
  obtain ⟨_, _, ⟨T8, L8, k8, n8⟩, -, X8, ⟨Lc8, hQ8, l8, y8, z8⟩, st8⟩ := X2.specialBack hx (y := (⟨"com/example/runs_to_risk/runstorisk/anb/Channel", "<init>", "(DD)V"⟩ : MethodName)) rfl hown (mvT hZ (hw _ (List.mem_of_getElem? (i := 5) rfl))) (mvT hZ (hw _ (List.mem_of_getElem? (i := 6) rfl))) (mvT hZ (hw _ (List.mem_of_getElem? (i := 7) rfl))) (by decide) (backOf (W := 1) (rm1 l Z a0 hw [] b2 (own_q (own_r i0)) (own_q (own_r i1)) h2 n0 Zs2 f4 f5 f6 g_b2) hZ (hw _ (List.mem_of_getElem? (i := 7) rfl)) (hw _ (List.mem_of_getElem? (i := 4) rfl)) (by decide) (by decide)) (g := (mkF m 42 #[.val (.int i0), .val (.int i1), .val (.int (own_r i0)), .val (.int (own_r i1)), .val (.double (own_q (own_r i0))), .second, .val (.double (own_q (own_r i1))), .second, .unset, .unset, .unset, .unset, .unset, .unset, .unset, .unset, .unset, .unset, .unset, .unset, .unset] [(.double (own_q (own_r i1))), (.double (own_q (own_r i0))), (.ref b2), (.ref b2)])) rfl (by rw [hml]; rfl) (Steps.refl _) (a := b2) (argsL := [(.double (own_q (own_r i0))), (.double (own_q (own_r i1)))]) (rest := [(.ref b2)]) (lenOf pd_3 rfl) rfl (by show 2 * 0 + _ ≤ _; exact Nat.le_of_eq rfl) (hb hby at_42) (fun _ _ => ⟨rfl, e2, (by decide : 1 + 0 ≤ _), (by decide : 2 + 0 ≤ _)⟩)
  dsimp only [Pt.U, Pt.locs, Pt.cells, Pt.slots] at X8 l8 y8 z8 st8 hQ8
  subst l8 y8 z8
  obtain ⟨rfl, N8q, c8_0, c8_1, c8_2, c8_3⟩ := hQ8
  have N8 := Fr.app N0 N8q
  have Zs8 : n0 ≤ T8.heap.size := Nat.le_trans Zs2 c8_0.1
  have f9 : Old Z n0 T8.heap := f3.keep c8_0 (allS g_b2 all0)
  have f10 : Exa Z T8.heap b2 "com/example/runs_to_risk/runstorisk/anb/Channel" := c8_1
  have f11 : Fld Z T8.heap b2 "com/example/runs_to_risk/runstorisk/anb/Channel" "unread" "D" (.double (own_q (own_r i0))) := c8_2
  have f12 : Fld Z T8.heap b2 "com/example/runs_to_risk/runstorisk/anb/Channel" "lost" "D" (.double (own_q (own_r i1))) := c8_3
  have sg13 : ∀ target, Steps p.tables e below (T8.setTop (mkF m 49 #[.val (.int i0), .val (.int i1), .val (.int (own_r i0)), .val (.int (own_r i1)), .val (.double (own_q (own_r i0))), .second, .val (.double (own_q (own_r i1))), .second, .val (.ref b2), .unset, .unset, .unset, .unset, .unset, .unset, .unset, .unset, .unset, .unset, .unset, .unset] [(.ref b2)])) target → Steps p.tables e below (T8.setTop (mkF m 45 #[.val (.int i0), .val (.int i1), .val (.int (own_r i0)), .val (.int (own_r i1)), .val (.double (own_q (own_r i0))), .second, .val (.double (own_q (own_r i1))), .second, .unset, .unset, .unset, .unset, .unset, .unset, .unset, .unset, .unset, .unset, .unset, .unset, .unset] [(.ref b2)])) target := by
    intro target kt
    show Steps p.tables e below (T8.setTop (mkF m 45 #[.val (.int i0), .val (.int i1), .val (.int (own_r i0)), .val (.int (own_r i1)), .val (.double (own_q (own_r i0))), .second, .val (.double (own_q (own_r i1))), .second, .unset, .unset, .unset, .unset, .unset, .unset, .unset, .unset, .unset, .unset, .unset, .unset, .unset] [(.ref b2)])) _
    refine XS.astore X8.here hx rfl (hb hby at_45) rfl rfl (l' := #[.val (.int i0), .val (.int i1), .val (.int (own_r i0)), .val (.int (own_r i1)), .val (.double (own_q (own_r i0))), .second, .val (.double (own_q (own_r i1))), .second, .val (.ref b2), .unset, .unset, .unset, .unset, .unset, .unset, .unset, .unset, .unset, .unset, .unset, .unset]) rfl ?_
    show Steps p.tables e below (T8.setTop (mkF m 47 #[.val (.int i0), .val (.int i1), .val (.int (own_r i0)), .val (.int (own_r i1)), .val (.double (own_q (own_r i0))), .second, .val (.double (own_q (own_r i1))), .second, .val (.ref b2), .unset, .unset, .unset, .unset, .unset, .unset, .unset, .unset, .unset, .unset, .unset, .unset] [])) _
    refine XS.aload X8.here hx rfl (hb hby at_47) rfl rfl ?_
    exact kt
  obtain ⟨T14, X14, e14, st14⟩ := getS2 X8 hx hZ hown (host := "") (Or.inl (hw _ (List.mem_of_getElem? (i := 20) rfl))) Via.refl rfl (ST0.ext f9.2) (g := (mkF m 49 #[.val (.int i0), .val (.int i1), .val (.int (own_r i0)), .val (.int (own_r i1)), .val (.double (own_q (own_r i0))), .second, .val (.double (own_q (own_r i1))), .second, .val (.ref b2), .unset, .unset, .unset, .unset, .unset, .unset, .unset, .unset, .unset, .unset, .unset, .unset] [(.ref b2)])) rfl (hb hby at_49)
  obtain ⟨cq15, kq15, q15a, q15b, q15c⟩ := isOf hZ e14 f10
  obtain ⟨_, _, ⟨T15, L15, k15, n15⟩, -, X15, ⟨Lc15, hQ15, l15, y15, z15⟩, st15⟩ := X14.virtualBack hx (y := (⟨"com/example/runs_to_risk/runstorisk/anb/Channel", "probability", "(Lcom/example/runs_to_risk/runstorisk/anb/Channel$Outcome;)D"⟩ : MethodName)) (z := (⟨"com/example/runs_to_risk/runstorisk/anb/Channel", "probability", "(Lcom/example/runs_to_risk/runstorisk/anb/Channel$Outcome;)D"⟩ : MethodName)) hown (mvT hZ (hw _ (List.mem_of_getElem? (i := 23) rfl))) (mvT hZ (hw _ (List.mem_of_getElem? (i := 24) rfl))) (notFace_of_selects (args := #[]) (mvT hZ (hw _ (List.mem_of_getElem? (i := 26) rfl)))) (mvT hZ (hw _ (List.mem_of_getElem? (i := 26) rfl))) (mvT hZ (hw _ (List.mem_of_getElem? (i := 25) rfl))) (by decide) (backOf (W := 0) (rm4_0 l Z a0 hw [] b2 o0 (own_q (own_r i0)) (own_q (own_r i1)) T8.heap n0 Zs8 (X0_.ext f9.2) (G0.ext f9.2) f11 f12 ((own_sv hb1).nn)) hZ (hw _ (List.mem_of_getElem? (i := 27) rfl)) (hw _ (List.mem_of_getElem? (i := 4) rfl)) (by decide) (by decide)) q15a q15c (g := (mkF m 52 #[.val (.int i0), .val (.int i1), .val (.int (own_r i0)), .val (.int (own_r i1)), .val (.double (own_q (own_r i0))), .second, .val (.double (own_q (own_r i1))), .second, .val (.ref b2), .unset, .unset, .unset, .unset, .unset, .unset, .unset, .unset, .unset, .unset, .unset, .unset] [(.ref o0), (.ref b2)])) rfl (by rw [hml]; rfl) (Steps.refl _) (argsL := [(.ref o0)]) (rest := []) (lenOf pd_4 rfl) rfl (by show 2 * 0 + _ ≤ _; exact Nat.le_of_eq rfl) (hb hby at_52) (fun _ _ => ⟨rfl, e14, (by decide : 1 + 0 ≤ _), (by decide : 2 + 0 ≤ _)⟩)
  dsimp only [Pt.U, Pt.locs, Pt.cells, Pt.slots] at X15 l15 y15 z15 st15 hQ15
  subst l15 y15 z15
  obtain ⟨rfl, N15q, c15_0⟩ := hQ15
  have N15 := Fr.app N8 N15q
  have sg16 : ∀ target, Steps p.tables e below (T15.setTop (mkF m 59 #[.val (.int i0), .val (.int i1), .val (.int (own_r i0)), .val (.int (own_r i1)), .val (.double (own_q (own_r i0))), .second, .val (.double (own_q (own_r i1))), .second, .val (.ref b2), .val (.double (own_q (own_r i1))), .second, .unset, .unset, .unset, .unset, .unset, .unset, .unset, .unset, .unset, .unset] [(.ref b2)])) target → Steps p.tables e below (T15.setTop (mkF m 55 #[.val (.int i0), .val (.int i1), .val (.int (own_r i0)), .val (.int (own_r i1)), .val (.double (own_q (own_r i0))), .second, .val (.double (own_q (own_r i1))), .second, .val (.ref b2), .unset, .unset, .unset, .unset, .unset, .unset, .unset, .unset, .unset, .unset, .unset, .unset] [(.double (own_q (own_r i1)))])) target := by
    intro target kt
    show Steps p.tables e below (T15.setTop (mkF m 55 #[.val (.int i0), .val (.int i1), .val (.int (own_r i0)), .val (.int (own_r i1)), .val (.double (own_q (own_r i0))), .second, .val (.double (own_q (own_r i1))), .second, .val (.ref b2), .unset, .unset, .unset, .unset, .unset, .unset, .unset, .unset, .unset, .unset, .unset, .unset] [(.double (own_q (own_r i1)))])) _
    refine XS.dstore X15.here hx rfl (hb hby at_55) rfl (l' := #[.val (.int i0), .val (.int i1), .val (.int (own_r i0)), .val (.int (own_r i1)), .val (.double (own_q (own_r i0))), .second, .val (.double (own_q (own_r i1))), .second, .val (.ref b2), .val (.double (own_q (own_r i1))), .second, .unset, .unset, .unset, .unset, .unset, .unset, .unset, .unset, .unset, .unset]) rfl ?_
    show Steps p.tables e below (T15.setTop (mkF m 57 #[.val (.int i0), .val (.int i1), .val (.int (own_r i0)), .val (.int (own_r i1)), .val (.double (own_q (own_r i0))), .second, .val (.double (own_q (own_r i1))), .second, .val (.ref b2), .val (.double (own_q (own_r i1))), .second, .unset, .unset, .unset, .unset, .unset, .unset, .unset, .unset, .unset, .unset] [])) _
    refine XS.aload X15.here hx rfl (hb hby at_57) rfl rfl ?_
    exact kt
  obtain ⟨T17, X17, e17, st17⟩ := getS2 X15 hx hZ hown (host := "") (Or.inl (hw _ (List.mem_of_getElem? (i := 37) rfl))) Via.refl c15_0 (ST1.ext f9.2) (g := (mkF m 59 #[.val (.int i0), .val (.int i1), .val (.int (own_r i0)), .val (.int (own_r i1)), .val (.double (own_q (own_r i0))), .second, .val (.double (own_q (own_r i1))), .second, .val (.ref b2), .val (.double (own_q (own_r i1))), .second, .unset, .unset, .unset, .unset, .unset, .unset, .unset, .unset, .unset, .unset] [(.ref b2)])) rfl (hb hby at_59)
  obtain ⟨cq18, kq18, q18a, q18b, q18c⟩ := isOf hZ e17 f10
  obtain ⟨_, _, ⟨T18, L18, k18, n18⟩, -, X18, ⟨Lc18, hQ18, l18, y18, z18⟩, st18⟩ := X17.virtualBack hx (y := (⟨"com/example/runs_to_risk/runstorisk/anb/Channel", "probability", "(Lcom/example/runs_to_risk/runstorisk/anb/Channel$Outcome;)D"⟩ : MethodName)) (z := (⟨"com/example/runs_to_risk/runstorisk/anb/Channel", "probability", "(Lcom/example/runs_to_risk/runstorisk/anb/Channel$Outcome;)D"⟩ : MethodName)) hown (mvT hZ (hw _ (List.mem_of_getElem? (i := 23) rfl))) (mvT hZ (hw _ (List.mem_of_getElem? (i := 24) rfl))) (notFace_of_selects (args := #[]) (mvT hZ (hw _ (List.mem_of_getElem? (i := 26) rfl)))) (mvT hZ (hw _ (List.mem_of_getElem? (i := 26) rfl))) (mvT hZ (hw _ (List.mem_of_getElem? (i := 25) rfl))) (by decide) (backOf (W := 0) (rm4_1 l Z a0 hw [] b2 o1 (own_q (own_r i0)) (own_q (own_r i1)) T8.heap n0 Zs8 (X1_.ext f9.2) (G1.ext f9.2) f11 f12 ((own_sv hb1).nn) ((own_pv (own_sv hb1) (own_qv ha1) sb1 ha1).nn)) hZ (hw _ (List.mem_of_getElem? (i := 27) rfl)) (hw _ (List.mem_of_getElem? (i := 4) rfl)) (by decide) (by decide)) q18a q18c (g := (mkF m 62 #[.val (.int i0), .val (.int i1), .val (.int (own_r i0)), .val (.int (own_r i1)), .val (.double (own_q (own_r i0))), .second, .val (.double (own_q (own_r i1))), .second, .val (.ref b2), .val (.double (own_q (own_r i1))), .second, .unset, .unset, .unset, .unset, .unset, .unset, .unset, .unset, .unset, .unset] [(.ref o1), (.ref b2)])) rfl (by rw [hml]; rfl) (Steps.refl _) (argsL := [(.ref o1)]) (rest := []) (lenOf pd_4 rfl) rfl (by show 2 * 0 + _ ≤ _; exact Nat.le_of_eq rfl) (hb hby at_62) (fun _ _ => ⟨rfl, e17, (by decide : 1 + 0 ≤ _), (by decide : 2 + 0 ≤ _)⟩)
  dsimp only [Pt.U, Pt.locs, Pt.cells, Pt.slots] at X18 l18 y18 z18 st18 hQ18
  subst l18 y18 z18
  obtain ⟨rfl, N18q, c18_0⟩ := hQ18
  have N18 := Fr.app N15 N18q
  have sg19 : ∀ target, Steps p.tables e below (T18.setTop (mkF m 69 #[.val (.int i0), .val (.int i1), .val (.int (own_r i0)), .val (.int (own_r i1)), .val (.double (own_q (own_r i0))), .second, .val (.double (own_q (own_r i1))), .second, .val (.ref b2), .val (.double (own_q (own_r i1))), .second, .val (.double (FP.dmul (FP.dsub (4607182418800017408 : UInt64) (own_q (own_r i1))) (own_q (own_r i0)))), .second, .unset, .unset, .unset, .unset, .unset, .unset, .unset, .unset] [(.ref b2)])) target → Steps p.tables e below (T18.setTop (mkF m 65 #[.val (.int i0), .val (.int i1), .val (.int (own_r i0)), .val (.int (own_r i1)), .val (.double (own_q (own_r i0))), .second, .val (.double (own_q (own_r i1))), .second, .val (.ref b2), .val (.double (own_q (own_r i1))), .second, .unset, .unset, .unset, .unset, .unset, .unset, .unset, .unset, .unset, .unset] [(.double (FP.dmul (FP.dsub (4607182418800017408 : UInt64) (own_q (own_r i1))) (own_q (own_r i0))))])) target := by
    intro target kt
    show Steps p.tables e below (T18.setTop (mkF m 65 #[.val (.int i0), .val (.int i1), .val (.int (own_r i0)), .val (.int (own_r i1)), .val (.double (own_q (own_r i0))), .second, .val (.double (own_q (own_r i1))), .second, .val (.ref b2), .val (.double (own_q (own_r i1))), .second, .unset, .unset, .unset, .unset, .unset, .unset, .unset, .unset, .unset, .unset] [(.double (FP.dmul (FP.dsub (4607182418800017408 : UInt64) (own_q (own_r i1))) (own_q (own_r i0))))])) _
    refine XS.dstore X18.here hx rfl (hb hby at_65) rfl (l' := #[.val (.int i0), .val (.int i1), .val (.int (own_r i0)), .val (.int (own_r i1)), .val (.double (own_q (own_r i0))), .second, .val (.double (own_q (own_r i1))), .second, .val (.ref b2), .val (.double (own_q (own_r i1))), .second, .val (.double (FP.dmul (FP.dsub (4607182418800017408 : UInt64) (own_q (own_r i1))) (own_q (own_r i0)))), .second, .unset, .unset, .unset, .unset, .unset, .unset, .unset, .unset]) rfl ?_
    show Steps p.tables e below (T18.setTop (mkF m 67 #[.val (.int i0), .val (.int i1), .val (.int (own_r i0)), .val (.int (own_r i1)), .val (.double (own_q (own_r i0))), .second, .val (.double (own_q (own_r i1))), .second, .val (.ref b2), .val (.double (own_q (own_r i1))), .second, .val (.double (FP.dmul (FP.dsub (4607182418800017408 : UInt64) (own_q (own_r i1))) (own_q (own_r i0)))), .second, .unset, .unset, .unset, .unset, .unset, .unset, .unset, .unset] [])) _
    refine XS.aload X18.here hx rfl (hb hby at_67) rfl rfl ?_
    exact kt
  obtain ⟨T20, X20, e20, st20⟩ := getS2 X18 hx hZ hown (host := "") (Or.inl (hw _ (List.mem_of_getElem? (i := 39) rfl))) Via.refl c18_0 (ST2.ext f9.2) (g := (mkF m 69 #[.val (.int i0), .val (.int i1), .val (.int (own_r i0)), .val (.int (own_r i1)), .val (.double (own_q (own_r i0))), .second, .val (.double (own_q (own_r i1))), .second, .val (.ref b2), .val (.double (own_q (own_r i1))), .second, .val (.double (FP.dmul (FP.dsub (4607182418800017408 : UInt64) (own_q (own_r i1))) (own_q (own_r i0)))), .second, .unset, .unset, .unset, .unset, .unset, .unset, .unset, .unset] [(.ref b2)])) rfl (hb hby at_69)
  obtain ⟨cq21, kq21, q21a, q21b, q21c⟩ := isOf hZ e20 f10
  obtain ⟨_, _, ⟨T21, L21, k21, n21⟩, -, X21, ⟨Lc21, hQ21, l21, y21, z21⟩, st21⟩ := X20.virtualBack hx (y := (⟨"com/example/runs_to_risk/runstorisk/anb/Channel", "probability", "(Lcom/example/runs_to_risk/runstorisk/anb/Channel$Outcome;)D"⟩ : MethodName)) (z := (⟨"com/example/runs_to_risk/runstorisk/anb/Channel", "probability", "(Lcom/example/runs_to_risk/runstorisk/anb/Channel$Outcome;)D"⟩ : MethodName)) hown (mvT hZ (hw _ (List.mem_of_getElem? (i := 23) rfl))) (mvT hZ (hw _ (List.mem_of_getElem? (i := 24) rfl))) (notFace_of_selects (args := #[]) (mvT hZ (hw _ (List.mem_of_getElem? (i := 26) rfl)))) (mvT hZ (hw _ (List.mem_of_getElem? (i := 26) rfl))) (mvT hZ (hw _ (List.mem_of_getElem? (i := 25) rfl))) (by decide) (backOf (W := 0) (rm4_2 l Z a0 hw [] b2 o2 (own_q (own_r i0)) (own_q (own_r i1)) T8.heap n0 Zs8 (X2_.ext f9.2) (G2.ext f9.2) f11 f12 ((own_sv hb1).nn) ((own_sv ha1).nn) ((own_pv (own_sv hb1) (own_sv ha1) sb1 sa1).nn)) hZ (hw _ (List.mem_of_getElem? (i := 27) rfl)) (hw _ (List.mem_of_getElem? (i := 4) rfl)) (by decide) (by decide)) q21a q21c (g := (mkF m 72 #[.val (.int i0), .val (.int i1), .val (.int (own_r i0)), .val (.int (own_r i1)), .val (.double (own_q (own_r i0))), .second, .val (.double (own_q (own_r i1))), .second, .val (.ref b2), .val (.double (own_q (own_r i1))), .second, .val (.double (FP.dmul (FP.dsub (4607182418800017408 : UInt64) (own_q (own_r i1))) (own_q (own_r i0)))), .second, .unset, .unset, .unset, .unset, .unset, .unset, .unset, .unset] [(.ref o2), (.ref b2)])) rfl (by rw [hml]; rfl) (Steps.refl _) (argsL := [(.ref o2)]) (rest := []) (lenOf pd_4 rfl) rfl (by show 2 * 0 + _ ≤ _; exact Nat.le_of_eq rfl) (hb hby at_72) (fun _ _ => ⟨rfl, e20, (by decide : 1 + 0 ≤ _), (by decide : 2 + 0 ≤ _)⟩)
  dsimp only [Pt.U, Pt.locs, Pt.cells, Pt.slots] at X21 l21 y21 z21 st21 hQ21
  subst l21 y21 z21
  obtain ⟨rfl, N21q, c21_0⟩ := hQ21
  have N21 := Fr.app N18 N21q
  have sg22 : ∀ target, Steps p.tables e below (T21.setTop (mkF m 146 #[.val (.int i0), .val (.int i1), .val (.int (own_r i0)), .val (.int (own_r i1)), .val (.double (own_q (own_r i0))), .second, .val (.double (own_q (own_r i1))), .second, .val (.ref b2), .val (.double (own_q (own_r i1))), .second, .val (.double (FP.dmul (FP.dsub (4607182418800017408 : UInt64) (own_q (own_r i1))) (own_q (own_r i0)))), .second, .val (.double (FP.dmul (FP.dsub (4607182418800017408 : UInt64) (own_q (own_r i1))) (FP.dsub (4607182418800017408 : UInt64) (own_q (own_r i0))))), .second, .val (.double (own_q (own_r i1))), .second, .val (.double (FP.ddiv (FP.i2d (((1024 : Int32) - (own_r i1)) * (own_r i0))) (4697254411347427328 : UInt64))), .second, .val (.double (FP.ddiv (FP.i2d (((1024 : Int32) - (own_r i1)) * ((1024 : Int32) - (own_r i0)))) (4697254411347427328 : UInt64))), .second] [(.int (1 : Int32))])) target → Steps p.tables e below (T21.setTop (mkF m 75 #[.val (.int i0), .val (.int i1), .val (.int (own_r i0)), .val (.int (own_r i1)), .val (.double (own_q (own_r i0))), .second, .val (.double (own_q (own_r i1))), .second, .val (.ref b2), .val (.double (own_q (own_r i1))), .second, .val (.double (FP.dmul (FP.dsub (4607182418800017408 : UInt64) (own_q (own_r i1))) (own_q (own_r i0)))), .second, .unset, .unset, .unset, .unset, .unset, .unset, .unset, .unset] [(.double (FP.dmul (FP.dsub (4607182418800017408 : UInt64) (own_q (own_r i1))) (FP.dsub (4607182418800017408 : UInt64) (own_q (own_r i0)))))])) target := by
    intro target kt
    show Steps p.tables e below (T21.setTop (mkF m 75 #[.val (.int i0), .val (.int i1), .val (.int (own_r i0)), .val (.int (own_r i1)), .val (.double (own_q (own_r i0))), .second, .val (.double (own_q (own_r i1))), .second, .val (.ref b2), .val (.double (own_q (own_r i1))), .second, .val (.double (FP.dmul (FP.dsub (4607182418800017408 : UInt64) (own_q (own_r i1))) (own_q (own_r i0)))), .second, .unset, .unset, .unset, .unset, .unset, .unset, .unset, .unset] [(.double (FP.dmul (FP.dsub (4607182418800017408 : UInt64) (own_q (own_r i1))) (FP.dsub (4607182418800017408 : UInt64) (own_q (own_r i0)))))])) _
    refine XS.dstore X21.here hx rfl (hb hby at_75) rfl (l' := #[.val (.int i0), .val (.int i1), .val (.int (own_r i0)), .val (.int (own_r i1)), .val (.double (own_q (own_r i0))), .second, .val (.double (own_q (own_r i1))), .second, .val (.ref b2), .val (.double (own_q (own_r i1))), .second, .val (.double (FP.dmul (FP.dsub (4607182418800017408 : UInt64) (own_q (own_r i1))) (own_q (own_r i0)))), .second, .val (.double (FP.dmul (FP.dsub (4607182418800017408 : UInt64) (own_q (own_r i1))) (FP.dsub (4607182418800017408 : UInt64) (own_q (own_r i0))))), .second, .unset, .unset, .unset, .unset, .unset, .unset]) rfl ?_
    show Steps p.tables e below (T21.setTop (mkF m 77 #[.val (.int i0), .val (.int i1), .val (.int (own_r i0)), .val (.int (own_r i1)), .val (.double (own_q (own_r i0))), .second, .val (.double (own_q (own_r i1))), .second, .val (.ref b2), .val (.double (own_q (own_r i1))), .second, .val (.double (FP.dmul (FP.dsub (4607182418800017408 : UInt64) (own_q (own_r i1))) (own_q (own_r i0)))), .second, .val (.double (FP.dmul (FP.dsub (4607182418800017408 : UInt64) (own_q (own_r i1))) (FP.dsub (4607182418800017408 : UInt64) (own_q (own_r i0))))), .second, .unset, .unset, .unset, .unset, .unset, .unset] [])) _
    refine XS.iloadN X21.here hx rfl (hb hby at_77) rfl ?_
    show Steps p.tables e below (T21.setTop (mkF m 78 #[.val (.int i0), .val (.int i1), .val (.int (own_r i0)), .val (.int (own_r i1)), .val (.double (own_q (own_r i0))), .second, .val (.double (own_q (own_r i1))), .second, .val (.ref b2), .val (.double (own_q (own_r i1))), .second, .val (.double (FP.dmul (FP.dsub (4607182418800017408 : UInt64) (own_q (own_r i1))) (own_q (own_r i0)))), .second, .val (.double (FP.dmul (FP.dsub (4607182418800017408 : UInt64) (own_q (own_r i1))) (FP.dsub (4607182418800017408 : UInt64) (own_q (own_r i0))))), .second, .unset, .unset, .unset, .unset, .unset, .unset] [(.int (own_r i1))])) _
    refine XS.i2dS X21.here hx rfl (v := (FP.i2d (own_r i1))) (hb hby at_78) rfl rfl ?_
    show Steps p.tables e below (T21.setTop (mkF m 79 #[.val (.int i0), .val (.int i1), .val (.int (own_r i0)), .val (.int (own_r i1)), .val (.double (own_q (own_r i0))), .second, .val (.double (own_q (own_r i1))), .second, .val (.ref b2), .val (.double (own_q (own_r i1))), .second, .val (.double (FP.dmul (FP.dsub (4607182418800017408 : UInt64) (own_q (own_r i1))) (own_q (own_r i0)))), .second, .val (.double (FP.dmul (FP.dsub (4607182418800017408 : UInt64) (own_q (own_r i1))) (FP.dsub (4607182418800017408 : UInt64) (own_q (own_r i0))))), .second, .unset, .unset, .unset, .unset, .unset, .unset] [(.double (FP.i2d (own_r i1)))])) _
    refine X21.ldc2DoubleC hx hown (mvT hZ (hw _ (List.mem_of_getElem? (i := 1) rfl))) (g := (mkF m 79 #[.val (.int i0), .val (.int i1), .val (.int (own_r i0)), .val (.int (own_r i1)), .val (.double (own_q (own_r i0))), .second, .val (.double (own_q (own_r i1))), .second, .val (.ref b2), .val (.double (own_q (own_r i1))), .second, .val (.double (FP.dmul (FP.dsub (4607182418800017408 : UInt64) (own_q (own_r i1))) (own_q (own_r i0)))), .second, .val (.double (FP.dmul (FP.dsub (4607182418800017408 : UInt64) (own_q (own_r i1))) (FP.dsub (4607182418800017408 : UInt64) (own_q (own_r i0))))), .second, .unset, .unset, .unset, .unset, .unset, .unset] [(.double (FP.i2d (own_r i1)))])) rfl (hb hby at_79) _ ?_
    show Steps p.tables e below (T21.setTop (mkF m 82 #[.val (.int i0), .val (.int i1), .val (.int (own_r i0)), .val (.int (own_r i1)), .val (.double (own_q (own_r i0))), .second, .val (.double (own_q (own_r i1))), .second, .val (.ref b2), .val (.double (own_q (own_r i1))), .second, .val (.double (FP.dmul (FP.dsub (4607182418800017408 : UInt64) (own_q (own_r i1))) (own_q (own_r i0)))), .second, .val (.double (FP.dmul (FP.dsub (4607182418800017408 : UInt64) (own_q (own_r i1))) (FP.dsub (4607182418800017408 : UInt64) (own_q (own_r i0))))), .second, .unset, .unset, .unset, .unset, .unset, .unset] [(.double (4652218415073722368 : UInt64)), (.double (FP.i2d (own_r i1)))])) _
    refine XS.ddivS X21.here hx rfl (v := (own_q (own_r i1))) (hb hby at_82) rfl (own_qv hb1).nn rfl ?_
    show Steps p.tables e below (T21.setTop (mkF m 83 #[.val (.int i0), .val (.int i1), .val (.int (own_r i0)), .val (.int (own_r i1)), .val (.double (own_q (own_r i0))), .second, .val (.double (own_q (own_r i1))), .second, .val (.ref b2), .val (.double (own_q (own_r i1))), .second, .val (.double (FP.dmul (FP.dsub (4607182418800017408 : UInt64) (own_q (own_r i1))) (own_q (own_r i0)))), .second, .val (.double (FP.dmul (FP.dsub (4607182418800017408 : UInt64) (own_q (own_r i1))) (FP.dsub (4607182418800017408 : UInt64) (own_q (own_r i0))))), .second, .unset, .unset, .unset, .unset, .unset, .unset] [(.double (own_q (own_r i1)))])) _
    refine XS.dstore X21.here hx rfl (hb hby at_83) rfl (l' := #[.val (.int i0), .val (.int i1), .val (.int (own_r i0)), .val (.int (own_r i1)), .val (.double (own_q (own_r i0))), .second, .val (.double (own_q (own_r i1))), .second, .val (.ref b2), .val (.double (own_q (own_r i1))), .second, .val (.double (FP.dmul (FP.dsub (4607182418800017408 : UInt64) (own_q (own_r i1))) (own_q (own_r i0)))), .second, .val (.double (FP.dmul (FP.dsub (4607182418800017408 : UInt64) (own_q (own_r i1))) (FP.dsub (4607182418800017408 : UInt64) (own_q (own_r i0))))), .second, .val (.double (own_q (own_r i1))), .second, .unset, .unset, .unset, .unset]) rfl ?_
    show Steps p.tables e below (T21.setTop (mkF m 85 #[.val (.int i0), .val (.int i1), .val (.int (own_r i0)), .val (.int (own_r i1)), .val (.double (own_q (own_r i0))), .second, .val (.double (own_q (own_r i1))), .second, .val (.ref b2), .val (.double (own_q (own_r i1))), .second, .val (.double (FP.dmul (FP.dsub (4607182418800017408 : UInt64) (own_q (own_r i1))) (own_q (own_r i0)))), .second, .val (.double (FP.dmul (FP.dsub (4607182418800017408 : UInt64) (own_q (own_r i1))) (FP.dsub (4607182418800017408 : UInt64) (own_q (own_r i0))))), .second, .val (.double (own_q (own_r i1))), .second, .unset, .unset, .unset, .unset] [])) _
    refine XS.sipush X21.here hx rfl (hb hby at_85) ?_
    show Steps p.tables e below (T21.setTop (mkF m 88 #[.val (.int i0), .val (.int i1), .val (.int (own_r i0)), .val (.int (own_r i1)), .val (.double (own_q (own_r i0))), .second, .val (.double (own_q (own_r i1))), .second, .val (.ref b2), .val (.double (own_q (own_r i1))), .second, .val (.double (FP.dmul (FP.dsub (4607182418800017408 : UInt64) (own_q (own_r i1))) (own_q (own_r i0)))), .second, .val (.double (FP.dmul (FP.dsub (4607182418800017408 : UInt64) (own_q (own_r i1))) (FP.dsub (4607182418800017408 : UInt64) (own_q (own_r i0))))), .second, .val (.double (own_q (own_r i1))), .second, .unset, .unset, .unset, .unset] [(.int (1024 : Int32))])) _
    refine XS.iloadN X21.here hx rfl (hb hby at_88) rfl ?_
    show Steps p.tables e below (T21.setTop (mkF m 89 #[.val (.int i0), .val (.int i1), .val (.int (own_r i0)), .val (.int (own_r i1)), .val (.double (own_q (own_r i0))), .second, .val (.double (own_q (own_r i1))), .second, .val (.ref b2), .val (.double (own_q (own_r i1))), .second, .val (.double (FP.dmul (FP.dsub (4607182418800017408 : UInt64) (own_q (own_r i1))) (own_q (own_r i0)))), .second, .val (.double (FP.dmul (FP.dsub (4607182418800017408 : UInt64) (own_q (own_r i1))) (FP.dsub (4607182418800017408 : UInt64) (own_q (own_r i0))))), .second, .val (.double (own_q (own_r i1))), .second, .unset, .unset, .unset, .unset] [(.int (own_r i1)), (.int (1024 : Int32))])) _
    refine XS.isub X21.here hx rfl (hb hby at_89) rfl ?_
    show Steps p.tables e below (T21.setTop (mkF m 90 #[.val (.int i0), .val (.int i1), .val (.int (own_r i0)), .val (.int (own_r i1)), .val (.double (own_q (own_r i0))), .second, .val (.double (own_q (own_r i1))), .second, .val (.ref b2), .val (.double (own_q (own_r i1))), .second, .val (.double (FP.dmul (FP.dsub (4607182418800017408 : UInt64) (own_q (own_r i1))) (own_q (own_r i0)))), .second, .val (.double (FP.dmul (FP.dsub (4607182418800017408 : UInt64) (own_q (own_r i1))) (FP.dsub (4607182418800017408 : UInt64) (own_q (own_r i0))))), .second, .val (.double (own_q (own_r i1))), .second, .unset, .unset, .unset, .unset] [(.int ((1024 : Int32) - (own_r i1)))])) _
    refine XS.iloadN X21.here hx rfl (hb hby at_90) rfl ?_
    show Steps p.tables e below (T21.setTop (mkF m 91 #[.val (.int i0), .val (.int i1), .val (.int (own_r i0)), .val (.int (own_r i1)), .val (.double (own_q (own_r i0))), .second, .val (.double (own_q (own_r i1))), .second, .val (.ref b2), .val (.double (own_q (own_r i1))), .second, .val (.double (FP.dmul (FP.dsub (4607182418800017408 : UInt64) (own_q (own_r i1))) (own_q (own_r i0)))), .second, .val (.double (FP.dmul (FP.dsub (4607182418800017408 : UInt64) (own_q (own_r i1))) (FP.dsub (4607182418800017408 : UInt64) (own_q (own_r i0))))), .second, .val (.double (own_q (own_r i1))), .second, .unset, .unset, .unset, .unset] [(.int (own_r i0)), (.int ((1024 : Int32) - (own_r i1)))])) _
    refine XS.imul X21.here hx rfl (hb hby at_91) rfl ?_
    show Steps p.tables e below (T21.setTop (mkF m 92 #[.val (.int i0), .val (.int i1), .val (.int (own_r i0)), .val (.int (own_r i1)), .val (.double (own_q (own_r i0))), .second, .val (.double (own_q (own_r i1))), .second, .val (.ref b2), .val (.double (own_q (own_r i1))), .second, .val (.double (FP.dmul (FP.dsub (4607182418800017408 : UInt64) (own_q (own_r i1))) (own_q (own_r i0)))), .second, .val (.double (FP.dmul (FP.dsub (4607182418800017408 : UInt64) (own_q (own_r i1))) (FP.dsub (4607182418800017408 : UInt64) (own_q (own_r i0))))), .second, .val (.double (own_q (own_r i1))), .second, .unset, .unset, .unset, .unset] [(.int (((1024 : Int32) - (own_r i1)) * (own_r i0)))])) _
    refine XS.i2dS X21.here hx rfl (v := (FP.i2d (((1024 : Int32) - (own_r i1)) * (own_r i0)))) (hb hby at_92) rfl rfl ?_
    show Steps p.tables e below (T21.setTop (mkF m 93 #[.val (.int i0), .val (.int i1), .val (.int (own_r i0)), .val (.int (own_r i1)), .val (.double (own_q (own_r i0))), .second, .val (.double (own_q (own_r i1))), .second, .val (.ref b2), .val (.double (own_q (own_r i1))), .second, .val (.double (FP.dmul (FP.dsub (4607182418800017408 : UInt64) (own_q (own_r i1))) (own_q (own_r i0)))), .second, .val (.double (FP.dmul (FP.dsub (4607182418800017408 : UInt64) (own_q (own_r i1))) (FP.dsub (4607182418800017408 : UInt64) (own_q (own_r i0))))), .second, .val (.double (own_q (own_r i1))), .second, .unset, .unset, .unset, .unset] [(.double (FP.i2d (((1024 : Int32) - (own_r i1)) * (own_r i0))))])) _
    refine X21.ldc2DoubleC hx hown (mvT hZ (hw _ (List.mem_of_getElem? (i := 41) rfl))) (g := (mkF m 93 #[.val (.int i0), .val (.int i1), .val (.int (own_r i0)), .val (.int (own_r i1)), .val (.double (own_q (own_r i0))), .second, .val (.double (own_q (own_r i1))), .second, .val (.ref b2), .val (.double (own_q (own_r i1))), .second, .val (.double (FP.dmul (FP.dsub (4607182418800017408 : UInt64) (own_q (own_r i1))) (own_q (own_r i0)))), .second, .val (.double (FP.dmul (FP.dsub (4607182418800017408 : UInt64) (own_q (own_r i1))) (FP.dsub (4607182418800017408 : UInt64) (own_q (own_r i0))))), .second, .val (.double (own_q (own_r i1))), .second, .unset, .unset, .unset, .unset] [(.double (FP.i2d (((1024 : Int32) - (own_r i1)) * (own_r i0))))])) rfl (hb hby at_93) _ ?_
    show Steps p.tables e below (T21.setTop (mkF m 96 #[.val (.int i0), .val (.int i1), .val (.int (own_r i0)), .val (.int (own_r i1)), .val (.double (own_q (own_r i0))), .second, .val (.double (own_q (own_r i1))), .second, .val (.ref b2), .val (.double (own_q (own_r i1))), .second, .val (.double (FP.dmul (FP.dsub (4607182418800017408 : UInt64) (own_q (own_r i1))) (own_q (own_r i0)))), .second, .val (.double (FP.dmul (FP.dsub (4607182418800017408 : UInt64) (own_q (own_r i1))) (FP.dsub (4607182418800017408 : UInt64) (own_q (own_r i0))))), .second, .val (.double (own_q (own_r i1))), .second, .unset, .unset, .unset, .unset] [(.double (4697254411347427328 : UInt64)), (.double (FP.i2d (((1024 : Int32) - (own_r i1)) * (own_r i0))))])) _
    refine XS.ddivS X21.here hx rfl (v := (FP.ddiv (FP.i2d (((1024 : Int32) - (own_r i1)) * (own_r i0))) (4697254411347427328 : UInt64))) (hb hby at_96) rfl (own_mulv eb1 ha1).nn rfl ?_
    show Steps p.tables e below (T21.setTop (mkF m 97 #[.val (.int i0), .val (.int i1), .val (.int (own_r i0)), .val (.int (own_r i1)), .val (.double (own_q (own_r i0))), .second, .val (.double (own_q (own_r i1))), .second, .val (.ref b2), .val (.double (own_q (own_r i1))), .second, .val (.double (FP.dmul (FP.dsub (4607182418800017408 : UInt64) (own_q (own_r i1))) (own_q (own_r i0)))), .second, .val (.double (FP.dmul (FP.dsub (4607182418800017408 : UInt64) (own_q (own_r i1))) (FP.dsub (4607182418800017408 : UInt64) (own_q (own_r i0))))), .second, .val (.double (own_q (own_r i1))), .second, .unset, .unset, .unset, .unset] [(.double (FP.ddiv (FP.i2d (((1024 : Int32) - (own_r i1)) * (own_r i0))) (4697254411347427328 : UInt64)))])) _
    refine XS.dstore X21.here hx rfl (hb hby at_97) rfl (l' := #[.val (.int i0), .val (.int i1), .val (.int (own_r i0)), .val (.int (own_r i1)), .val (.double (own_q (own_r i0))), .second, .val (.double (own_q (own_r i1))), .second, .val (.ref b2), .val (.double (own_q (own_r i1))), .second, .val (.double (FP.dmul (FP.dsub (4607182418800017408 : UInt64) (own_q (own_r i1))) (own_q (own_r i0)))), .second, .val (.double (FP.dmul (FP.dsub (4607182418800017408 : UInt64) (own_q (own_r i1))) (FP.dsub (4607182418800017408 : UInt64) (own_q (own_r i0))))), .second, .val (.double (own_q (own_r i1))), .second, .val (.double (FP.ddiv (FP.i2d (((1024 : Int32) - (own_r i1)) * (own_r i0))) (4697254411347427328 : UInt64))), .second, .unset, .unset]) rfl ?_
    show Steps p.tables e below (T21.setTop (mkF m 99 #[.val (.int i0), .val (.int i1), .val (.int (own_r i0)), .val (.int (own_r i1)), .val (.double (own_q (own_r i0))), .second, .val (.double (own_q (own_r i1))), .second, .val (.ref b2), .val (.double (own_q (own_r i1))), .second, .val (.double (FP.dmul (FP.dsub (4607182418800017408 : UInt64) (own_q (own_r i1))) (own_q (own_r i0)))), .second, .val (.double (FP.dmul (FP.dsub (4607182418800017408 : UInt64) (own_q (own_r i1))) (FP.dsub (4607182418800017408 : UInt64) (own_q (own_r i0))))), .second, .val (.double (own_q (own_r i1))), .second, .val (.double (FP.ddiv (FP.i2d (((1024 : Int32) - (own_r i1)) * (own_r i0))) (4697254411347427328 : UInt64))), .second, .unset, .unset] [])) _
    refine XS.sipush X21.here hx rfl (hb hby at_99) ?_
    show Steps p.tables e below (T21.setTop (mkF m 102 #[.val (.int i0), .val (.int i1), .val (.int (own_r i0)), .val (.int (own_r i1)), .val (.double (own_q (own_r i0))), .second, .val (.double (own_q (own_r i1))), .second, .val (.ref b2), .val (.double (own_q (own_r i1))), .second, .val (.double (FP.dmul (FP.dsub (4607182418800017408 : UInt64) (own_q (own_r i1))) (own_q (own_r i0)))), .second, .val (.double (FP.dmul (FP.dsub (4607182418800017408 : UInt64) (own_q (own_r i1))) (FP.dsub (4607182418800017408 : UInt64) (own_q (own_r i0))))), .second, .val (.double (own_q (own_r i1))), .second, .val (.double (FP.ddiv (FP.i2d (((1024 : Int32) - (own_r i1)) * (own_r i0))) (4697254411347427328 : UInt64))), .second, .unset, .unset] [(.int (1024 : Int32))])) _
    refine XS.iloadN X21.here hx rfl (hb hby at_102) rfl ?_
    show Steps p.tables e below (T21.setTop (mkF m 103 #[.val (.int i0), .val (.int i1), .val (.int (own_r i0)), .val (.int (own_r i1)), .val (.double (own_q (own_r i0))), .second, .val (.double (own_q (own_r i1))), .second, .val (.ref b2), .val (.double (own_q (own_r i1))), .second, .val (.double (FP.dmul (FP.dsub (4607182418800017408 : UInt64) (own_q (own_r i1))) (own_q (own_r i0)))), .second, .val (.double (FP.dmul (FP.dsub (4607182418800017408 : UInt64) (own_q (own_r i1))) (FP.dsub (4607182418800017408 : UInt64) (own_q (own_r i0))))), .second, .val (.double (own_q (own_r i1))), .second, .val (.double (FP.ddiv (FP.i2d (((1024 : Int32) - (own_r i1)) * (own_r i0))) (4697254411347427328 : UInt64))), .second, .unset, .unset] [(.int (own_r i1)), (.int (1024 : Int32))])) _
    refine XS.isub X21.here hx rfl (hb hby at_103) rfl ?_
    show Steps p.tables e below (T21.setTop (mkF m 104 #[.val (.int i0), .val (.int i1), .val (.int (own_r i0)), .val (.int (own_r i1)), .val (.double (own_q (own_r i0))), .second, .val (.double (own_q (own_r i1))), .second, .val (.ref b2), .val (.double (own_q (own_r i1))), .second, .val (.double (FP.dmul (FP.dsub (4607182418800017408 : UInt64) (own_q (own_r i1))) (own_q (own_r i0)))), .second, .val (.double (FP.dmul (FP.dsub (4607182418800017408 : UInt64) (own_q (own_r i1))) (FP.dsub (4607182418800017408 : UInt64) (own_q (own_r i0))))), .second, .val (.double (own_q (own_r i1))), .second, .val (.double (FP.ddiv (FP.i2d (((1024 : Int32) - (own_r i1)) * (own_r i0))) (4697254411347427328 : UInt64))), .second, .unset, .unset] [(.int ((1024 : Int32) - (own_r i1)))])) _
    refine XS.sipush X21.here hx rfl (hb hby at_104) ?_
    show Steps p.tables e below (T21.setTop (mkF m 107 #[.val (.int i0), .val (.int i1), .val (.int (own_r i0)), .val (.int (own_r i1)), .val (.double (own_q (own_r i0))), .second, .val (.double (own_q (own_r i1))), .second, .val (.ref b2), .val (.double (own_q (own_r i1))), .second, .val (.double (FP.dmul (FP.dsub (4607182418800017408 : UInt64) (own_q (own_r i1))) (own_q (own_r i0)))), .second, .val (.double (FP.dmul (FP.dsub (4607182418800017408 : UInt64) (own_q (own_r i1))) (FP.dsub (4607182418800017408 : UInt64) (own_q (own_r i0))))), .second, .val (.double (own_q (own_r i1))), .second, .val (.double (FP.ddiv (FP.i2d (((1024 : Int32) - (own_r i1)) * (own_r i0))) (4697254411347427328 : UInt64))), .second, .unset, .unset] [(.int (1024 : Int32)), (.int ((1024 : Int32) - (own_r i1)))])) _
    refine XS.iloadN X21.here hx rfl (hb hby at_107) rfl ?_
    show Steps p.tables e below (T21.setTop (mkF m 108 #[.val (.int i0), .val (.int i1), .val (.int (own_r i0)), .val (.int (own_r i1)), .val (.double (own_q (own_r i0))), .second, .val (.double (own_q (own_r i1))), .second, .val (.ref b2), .val (.double (own_q (own_r i1))), .second, .val (.double (FP.dmul (FP.dsub (4607182418800017408 : UInt64) (own_q (own_r i1))) (own_q (own_r i0)))), .second, .val (.double (FP.dmul (FP.dsub (4607182418800017408 : UInt64) (own_q (own_r i1))) (FP.dsub (4607182418800017408 : UInt64) (own_q (own_r i0))))), .second, .val (.double (own_q (own_r i1))), .second, .val (.double (FP.ddiv (FP.i2d (((1024 : Int32) - (own_r i1)) * (own_r i0))) (4697254411347427328 : UInt64))), .second, .unset, .unset] [(.int (own_r i0)), (.int (1024 : Int32)), (.int ((1024 : Int32) - (own_r i1)))])) _
    refine XS.isub X21.here hx rfl (hb hby at_108) rfl ?_
    show Steps p.tables e below (T21.setTop (mkF m 109 #[.val (.int i0), .val (.int i1), .val (.int (own_r i0)), .val (.int (own_r i1)), .val (.double (own_q (own_r i0))), .second, .val (.double (own_q (own_r i1))), .second, .val (.ref b2), .val (.double (own_q (own_r i1))), .second, .val (.double (FP.dmul (FP.dsub (4607182418800017408 : UInt64) (own_q (own_r i1))) (own_q (own_r i0)))), .second, .val (.double (FP.dmul (FP.dsub (4607182418800017408 : UInt64) (own_q (own_r i1))) (FP.dsub (4607182418800017408 : UInt64) (own_q (own_r i0))))), .second, .val (.double (own_q (own_r i1))), .second, .val (.double (FP.ddiv (FP.i2d (((1024 : Int32) - (own_r i1)) * (own_r i0))) (4697254411347427328 : UInt64))), .second, .unset, .unset] [(.int ((1024 : Int32) - (own_r i0))), (.int ((1024 : Int32) - (own_r i1)))])) _
    refine XS.imul X21.here hx rfl (hb hby at_109) rfl ?_
    show Steps p.tables e below (T21.setTop (mkF m 110 #[.val (.int i0), .val (.int i1), .val (.int (own_r i0)), .val (.int (own_r i1)), .val (.double (own_q (own_r i0))), .second, .val (.double (own_q (own_r i1))), .second, .val (.ref b2), .val (.double (own_q (own_r i1))), .second, .val (.double (FP.dmul (FP.dsub (4607182418800017408 : UInt64) (own_q (own_r i1))) (own_q (own_r i0)))), .second, .val (.double (FP.dmul (FP.dsub (4607182418800017408 : UInt64) (own_q (own_r i1))) (FP.dsub (4607182418800017408 : UInt64) (own_q (own_r i0))))), .second, .val (.double (own_q (own_r i1))), .second, .val (.double (FP.ddiv (FP.i2d (((1024 : Int32) - (own_r i1)) * (own_r i0))) (4697254411347427328 : UInt64))), .second, .unset, .unset] [(.int (((1024 : Int32) - (own_r i1)) * ((1024 : Int32) - (own_r i0))))])) _
    refine XS.i2dS X21.here hx rfl (v := (FP.i2d (((1024 : Int32) - (own_r i1)) * ((1024 : Int32) - (own_r i0))))) (hb hby at_110) rfl rfl ?_
    show Steps p.tables e below (T21.setTop (mkF m 111 #[.val (.int i0), .val (.int i1), .val (.int (own_r i0)), .val (.int (own_r i1)), .val (.double (own_q (own_r i0))), .second, .val (.double (own_q (own_r i1))), .second, .val (.ref b2), .val (.double (own_q (own_r i1))), .second, .val (.double (FP.dmul (FP.dsub (4607182418800017408 : UInt64) (own_q (own_r i1))) (own_q (own_r i0)))), .second, .val (.double (FP.dmul (FP.dsub (4607182418800017408 : UInt64) (own_q (own_r i1))) (FP.dsub (4607182418800017408 : UInt64) (own_q (own_r i0))))), .second, .val (.double (own_q (own_r i1))), .second, .val (.double (FP.ddiv (FP.i2d (((1024 : Int32) - (own_r i1)) * (own_r i0))) (4697254411347427328 : UInt64))), .second, .unset, .unset] [(.double (FP.i2d (((1024 : Int32) - (own_r i1)) * ((1024 : Int32) - (own_r i0)))))])) _
    refine X21.ldc2DoubleC hx hown (mvT hZ (hw _ (List.mem_of_getElem? (i := 41) rfl))) (g := (mkF m 111 #[.val (.int i0), .val (.int i1), .val (.int (own_r i0)), .val (.int (own_r i1)), .val (.double (own_q (own_r i0))), .second, .val (.double (own_q (own_r i1))), .second, .val (.ref b2), .val (.double (own_q (own_r i1))), .second, .val (.double (FP.dmul (FP.dsub (4607182418800017408 : UInt64) (own_q (own_r i1))) (own_q (own_r i0)))), .second, .val (.double (FP.dmul (FP.dsub (4607182418800017408 : UInt64) (own_q (own_r i1))) (FP.dsub (4607182418800017408 : UInt64) (own_q (own_r i0))))), .second, .val (.double (own_q (own_r i1))), .second, .val (.double (FP.ddiv (FP.i2d (((1024 : Int32) - (own_r i1)) * (own_r i0))) (4697254411347427328 : UInt64))), .second, .unset, .unset] [(.double (FP.i2d (((1024 : Int32) - (own_r i1)) * ((1024 : Int32) - (own_r i0)))))])) rfl (hb hby at_111) _ ?_
    show Steps p.tables e below (T21.setTop (mkF m 114 #[.val (.int i0), .val (.int i1), .val (.int (own_r i0)), .val (.int (own_r i1)), .val (.double (own_q (own_r i0))), .second, .val (.double (own_q (own_r i1))), .second, .val (.ref b2), .val (.double (own_q (own_r i1))), .second, .val (.double (FP.dmul (FP.dsub (4607182418800017408 : UInt64) (own_q (own_r i1))) (own_q (own_r i0)))), .second, .val (.double (FP.dmul (FP.dsub (4607182418800017408 : UInt64) (own_q (own_r i1))) (FP.dsub (4607182418800017408 : UInt64) (own_q (own_r i0))))), .second, .val (.double (own_q (own_r i1))), .second, .val (.double (FP.ddiv (FP.i2d (((1024 : Int32) - (own_r i1)) * (own_r i0))) (4697254411347427328 : UInt64))), .second, .unset, .unset] [(.double (4697254411347427328 : UInt64)), (.double (FP.i2d (((1024 : Int32) - (own_r i1)) * ((1024 : Int32) - (own_r i0)))))])) _
    refine XS.ddivS X21.here hx rfl (v := (FP.ddiv (FP.i2d (((1024 : Int32) - (own_r i1)) * ((1024 : Int32) - (own_r i0)))) (4697254411347427328 : UInt64))) (hb hby at_114) rfl (own_mulv eb1 ea1).nn rfl ?_
    show Steps p.tables e below (T21.setTop (mkF m 115 #[.val (.int i0), .val (.int i1), .val (.int (own_r i0)), .val (.int (own_r i1)), .val (.double (own_q (own_r i0))), .second, .val (.double (own_q (own_r i1))), .second, .val (.ref b2), .val (.double (own_q (own_r i1))), .second, .val (.double (FP.dmul (FP.dsub (4607182418800017408 : UInt64) (own_q (own_r i1))) (own_q (own_r i0)))), .second, .val (.double (FP.dmul (FP.dsub (4607182418800017408 : UInt64) (own_q (own_r i1))) (FP.dsub (4607182418800017408 : UInt64) (own_q (own_r i0))))), .second, .val (.double (own_q (own_r i1))), .second, .val (.double (FP.ddiv (FP.i2d (((1024 : Int32) - (own_r i1)) * (own_r i0))) (4697254411347427328 : UInt64))), .second, .unset, .unset] [(.double (FP.ddiv (FP.i2d (((1024 : Int32) - (own_r i1)) * ((1024 : Int32) - (own_r i0)))) (4697254411347427328 : UInt64)))])) _
    refine XS.dstore X21.here hx rfl (hb hby at_115) rfl (l' := #[.val (.int i0), .val (.int i1), .val (.int (own_r i0)), .val (.int (own_r i1)), .val (.double (own_q (own_r i0))), .second, .val (.double (own_q (own_r i1))), .second, .val (.ref b2), .val (.double (own_q (own_r i1))), .second, .val (.double (FP.dmul (FP.dsub (4607182418800017408 : UInt64) (own_q (own_r i1))) (own_q (own_r i0)))), .second, .val (.double (FP.dmul (FP.dsub (4607182418800017408 : UInt64) (own_q (own_r i1))) (FP.dsub (4607182418800017408 : UInt64) (own_q (own_r i0))))), .second, .val (.double (own_q (own_r i1))), .second, .val (.double (FP.ddiv (FP.i2d (((1024 : Int32) - (own_r i1)) * (own_r i0))) (4697254411347427328 : UInt64))), .second, .val (.double (FP.ddiv (FP.i2d (((1024 : Int32) - (own_r i1)) * ((1024 : Int32) - (own_r i0)))) (4697254411347427328 : UInt64))), .second]) rfl ?_
    show Steps p.tables e below (T21.setTop (mkF m 117 #[.val (.int i0), .val (.int i1), .val (.int (own_r i0)), .val (.int (own_r i1)), .val (.double (own_q (own_r i0))), .second, .val (.double (own_q (own_r i1))), .second, .val (.ref b2), .val (.double (own_q (own_r i1))), .second, .val (.double (FP.dmul (FP.dsub (4607182418800017408 : UInt64) (own_q (own_r i1))) (own_q (own_r i0)))), .second, .val (.double (FP.dmul (FP.dsub (4607182418800017408 : UInt64) (own_q (own_r i1))) (FP.dsub (4607182418800017408 : UInt64) (own_q (own_r i0))))), .second, .val (.double (own_q (own_r i1))), .second, .val (.double (FP.ddiv (FP.i2d (((1024 : Int32) - (own_r i1)) * (own_r i0))) (4697254411347427328 : UInt64))), .second, .val (.double (FP.ddiv (FP.i2d (((1024 : Int32) - (own_r i1)) * ((1024 : Int32) - (own_r i0)))) (4697254411347427328 : UInt64))), .second] [])) _
    refine XS.dload X21.here hx rfl (hb hby at_117) rfl ?_
    show Steps p.tables e below (T21.setTop (mkF m 119 #[.val (.int i0), .val (.int i1), .val (.int (own_r i0)), .val (.int (own_r i1)), .val (.double (own_q (own_r i0))), .second, .val (.double (own_q (own_r i1))), .second, .val (.ref b2), .val (.double (own_q (own_r i1))), .second, .val (.double (FP.dmul (FP.dsub (4607182418800017408 : UInt64) (own_q (own_r i1))) (own_q (own_r i0)))), .second, .val (.double (FP.dmul (FP.dsub (4607182418800017408 : UInt64) (own_q (own_r i1))) (FP.dsub (4607182418800017408 : UInt64) (own_q (own_r i0))))), .second, .val (.double (own_q (own_r i1))), .second, .val (.double (FP.ddiv (FP.i2d (((1024 : Int32) - (own_r i1)) * (own_r i0))) (4697254411347427328 : UInt64))), .second, .val (.double (FP.ddiv (FP.i2d (((1024 : Int32) - (own_r i1)) * ((1024 : Int32) - (own_r i0)))) (4697254411347427328 : UInt64))), .second] [(.double (own_q (own_r i1)))])) _
    refine XS.dload X21.here hx rfl (hb hby at_119) rfl ?_
    show Steps p.tables e below (T21.setTop (mkF m 121 #[.val (.int i0), .val (.int i1), .val (.int (own_r i0)), .val (.int (own_r i1)), .val (.double (own_q (own_r i0))), .second, .val (.double (own_q (own_r i1))), .second, .val (.ref b2), .val (.double (own_q (own_r i1))), .second, .val (.double (FP.dmul (FP.dsub (4607182418800017408 : UInt64) (own_q (own_r i1))) (own_q (own_r i0)))), .second, .val (.double (FP.dmul (FP.dsub (4607182418800017408 : UInt64) (own_q (own_r i1))) (FP.dsub (4607182418800017408 : UInt64) (own_q (own_r i0))))), .second, .val (.double (own_q (own_r i1))), .second, .val (.double (FP.ddiv (FP.i2d (((1024 : Int32) - (own_r i1)) * (own_r i0))) (4697254411347427328 : UInt64))), .second, .val (.double (FP.ddiv (FP.i2d (((1024 : Int32) - (own_r i1)) * ((1024 : Int32) - (own_r i0)))) (4697254411347427328 : UInt64))), .second] [(.double (own_q (own_r i1))), (.double (own_q (own_r i1)))])) _
    refine XS.dcmpS X21.here hx rfl (v := (0 : Int32)) (hb hby at_121) rfl (FV.cv_eq (own_qv hb1) (own_qv hb1) .l rfl) ?_
    show Steps p.tables e below (T21.setTop (mkF m 122 #[.val (.int i0), .val (.int i1), .val (.int (own_r i0)), .val (.int (own_r i1)), .val (.double (own_q (own_r i0))), .second, .val (.double (own_q (own_r i1))), .second, .val (.ref b2), .val (.double (own_q (own_r i1))), .second, .val (.double (FP.dmul (FP.dsub (4607182418800017408 : UInt64) (own_q (own_r i1))) (own_q (own_r i0)))), .second, .val (.double (FP.dmul (FP.dsub (4607182418800017408 : UInt64) (own_q (own_r i1))) (FP.dsub (4607182418800017408 : UInt64) (own_q (own_r i0))))), .second, .val (.double (own_q (own_r i1))), .second, .val (.double (FP.ddiv (FP.i2d (((1024 : Int32) - (own_r i1)) * (own_r i0))) (4697254411347427328 : UInt64))), .second, .val (.double (FP.ddiv (FP.i2d (((1024 : Int32) - (own_r i1)) * ((1024 : Int32) - (own_r i0)))) (4697254411347427328 : UInt64))), .second] [(.int (0 : Int32))])) _
    refine XS.ifNo X21.here hx rfl (hb hby at_122) rfl ((if0 _ _).trans (teq (by decide : (0 : Int32) = (0 : Int32))).2) ?_
    show Steps p.tables e below (T21.setTop (mkF m 125 #[.val (.int i0), .val (.int i1), .val (.int (own_r i0)), .val (.int (own_r i1)), .val (.double (own_q (own_r i0))), .second, .val (.double (own_q (own_r i1))), .second, .val (.ref b2), .val (.double (own_q (own_r i1))), .second, .val (.double (FP.dmul (FP.dsub (4607182418800017408 : UInt64) (own_q (own_r i1))) (own_q (own_r i0)))), .second, .val (.double (FP.dmul (FP.dsub (4607182418800017408 : UInt64) (own_q (own_r i1))) (FP.dsub (4607182418800017408 : UInt64) (own_q (own_r i0))))), .second, .val (.double (own_q (own_r i1))), .second, .val (.double (FP.ddiv (FP.i2d (((1024 : Int32) - (own_r i1)) * (own_r i0))) (4697254411347427328 : UInt64))), .second, .val (.double (FP.ddiv (FP.i2d (((1024 : Int32) - (own_r i1)) * ((1024 : Int32) - (own_r i0)))) (4697254411347427328 : UInt64))), .second] [])) _
    refine XS.dload X21.here hx rfl (hb hby at_125) rfl ?_
    show Steps p.tables e below (T21.setTop (mkF m 127 #[.val (.int i0), .val (.int i1), .val (.int (own_r i0)), .val (.int (own_r i1)), .val (.double (own_q (own_r i0))), .second, .val (.double (own_q (own_r i1))), .second, .val (.ref b2), .val (.double (own_q (own_r i1))), .second, .val (.double (FP.dmul (FP.dsub (4607182418800017408 : UInt64) (own_q (own_r i1))) (own_q (own_r i0)))), .second, .val (.double (FP.dmul (FP.dsub (4607182418800017408 : UInt64) (own_q (own_r i1))) (FP.dsub (4607182418800017408 : UInt64) (own_q (own_r i0))))), .second, .val (.double (own_q (own_r i1))), .second, .val (.double (FP.ddiv (FP.i2d (((1024 : Int32) - (own_r i1)) * (own_r i0))) (4697254411347427328 : UInt64))), .second, .val (.double (FP.ddiv (FP.i2d (((1024 : Int32) - (own_r i1)) * ((1024 : Int32) - (own_r i0)))) (4697254411347427328 : UInt64))), .second] [(.double (FP.dmul (FP.dsub (4607182418800017408 : UInt64) (own_q (own_r i1))) (own_q (own_r i0))))])) _
    refine XS.dload X21.here hx rfl (hb hby at_127) rfl ?_
    show Steps p.tables e below (T21.setTop (mkF m 129 #[.val (.int i0), .val (.int i1), .val (.int (own_r i0)), .val (.int (own_r i1)), .val (.double (own_q (own_r i0))), .second, .val (.double (own_q (own_r i1))), .second, .val (.ref b2), .val (.double (own_q (own_r i1))), .second, .val (.double (FP.dmul (FP.dsub (4607182418800017408 : UInt64) (own_q (own_r i1))) (own_q (own_r i0)))), .second, .val (.double (FP.dmul (FP.dsub (4607182418800017408 : UInt64) (own_q (own_r i1))) (FP.dsub (4607182418800017408 : UInt64) (own_q (own_r i0))))), .second, .val (.double (own_q (own_r i1))), .second, .val (.double (FP.ddiv (FP.i2d (((1024 : Int32) - (own_r i1)) * (own_r i0))) (4697254411347427328 : UInt64))), .second, .val (.double (FP.ddiv (FP.i2d (((1024 : Int32) - (own_r i1)) * ((1024 : Int32) - (own_r i0)))) (4697254411347427328 : UInt64))), .second] [(.double (FP.ddiv (FP.i2d (((1024 : Int32) - (own_r i1)) * (own_r i0))) (4697254411347427328 : UInt64))), (.double (FP.dmul (FP.dsub (4607182418800017408 : UInt64) (own_q (own_r i1))) (own_q (own_r i0))))])) _
    refine XS.dcmpS X21.here hx rfl (v := (0 : Int32)) (hb hby at_129) rfl (FV.cv_eq (own_pv (own_sv hb1) (own_qv ha1) sb1 ha1) (own_mulv eb1 ha1) .l (by rw [own_sub hb1])) ?_
    show Steps p.tables e below (T21.setTop (mkF m 130 #[.val (.int i0), .val (.int i1), .val (.int (own_r i0)), .val (.int (own_r i1)), .val (.double (own_q (own_r i0))), .second, .val (.double (own_q (own_r i1))), .second, .val (.ref b2), .val (.double (own_q (own_r i1))), .second, .val (.double (FP.dmul (FP.dsub (4607182418800017408 : UInt64) (own_q (own_r i1))) (own_q (own_r i0)))), .second, .val (.double (FP.dmul (FP.dsub (4607182418800017408 : UInt64) (own_q (own_r i1))) (FP.dsub (4607182418800017408 : UInt64) (own_q (own_r i0))))), .second, .val (.double (own_q (own_r i1))), .second, .val (.double (FP.ddiv (FP.i2d (((1024 : Int32) - (own_r i1)) * (own_r i0))) (4697254411347427328 : UInt64))), .second, .val (.double (FP.ddiv (FP.i2d (((1024 : Int32) - (own_r i1)) * ((1024 : Int32) - (own_r i0)))) (4697254411347427328 : UInt64))), .second] [(.int (0 : Int32))])) _
    refine XS.ifNo X21.here hx rfl (hb hby at_130) rfl ((if0 _ _).trans (teq (by decide : (0 : Int32) = (0 : Int32))).2) ?_
    show Steps p.tables e below (T21.setTop (mkF m 133 #[.val (.int i0), .val (.int i1), .val (.int (own_r i0)), .val (.int (own_r i1)), .val (.double (own_q (own_r i0))), .second, .val (.double (own_q (own_r i1))), .second, .val (.ref b2), .val (.double (own_q (own_r i1))), .second, .val (.double (FP.dmul (FP.dsub (4607182418800017408 : UInt64) (own_q (own_r i1))) (own_q (own_r i0)))), .second, .val (.double (FP.dmul (FP.dsub (4607182418800017408 : UInt64) (own_q (own_r i1))) (FP.dsub (4607182418800017408 : UInt64) (own_q (own_r i0))))), .second, .val (.double (own_q (own_r i1))), .second, .val (.double (FP.ddiv (FP.i2d (((1024 : Int32) - (own_r i1)) * (own_r i0))) (4697254411347427328 : UInt64))), .second, .val (.double (FP.ddiv (FP.i2d (((1024 : Int32) - (own_r i1)) * ((1024 : Int32) - (own_r i0)))) (4697254411347427328 : UInt64))), .second] [])) _
    refine XS.dload X21.here hx rfl (hb hby at_133) rfl ?_
    show Steps p.tables e below (T21.setTop (mkF m 135 #[.val (.int i0), .val (.int i1), .val (.int (own_r i0)), .val (.int (own_r i1)), .val (.double (own_q (own_r i0))), .second, .val (.double (own_q (own_r i1))), .second, .val (.ref b2), .val (.double (own_q (own_r i1))), .second, .val (.double (FP.dmul (FP.dsub (4607182418800017408 : UInt64) (own_q (own_r i1))) (own_q (own_r i0)))), .second, .val (.double (FP.dmul (FP.dsub (4607182418800017408 : UInt64) (own_q (own_r i1))) (FP.dsub (4607182418800017408 : UInt64) (own_q (own_r i0))))), .second, .val (.double (own_q (own_r i1))), .second, .val (.double (FP.ddiv (FP.i2d (((1024 : Int32) - (own_r i1)) * (own_r i0))) (4697254411347427328 : UInt64))), .second, .val (.double (FP.ddiv (FP.i2d (((1024 : Int32) - (own_r i1)) * ((1024 : Int32) - (own_r i0)))) (4697254411347427328 : UInt64))), .second] [(.double (FP.dmul (FP.dsub (4607182418800017408 : UInt64) (own_q (own_r i1))) (FP.dsub (4607182418800017408 : UInt64) (own_q (own_r i0)))))])) _
    refine XS.dload X21.here hx rfl (hb hby at_135) rfl ?_
    show Steps p.tables e below (T21.setTop (mkF m 137 #[.val (.int i0), .val (.int i1), .val (.int (own_r i0)), .val (.int (own_r i1)), .val (.double (own_q (own_r i0))), .second, .val (.double (own_q (own_r i1))), .second, .val (.ref b2), .val (.double (own_q (own_r i1))), .second, .val (.double (FP.dmul (FP.dsub (4607182418800017408 : UInt64) (own_q (own_r i1))) (own_q (own_r i0)))), .second, .val (.double (FP.dmul (FP.dsub (4607182418800017408 : UInt64) (own_q (own_r i1))) (FP.dsub (4607182418800017408 : UInt64) (own_q (own_r i0))))), .second, .val (.double (own_q (own_r i1))), .second, .val (.double (FP.ddiv (FP.i2d (((1024 : Int32) - (own_r i1)) * (own_r i0))) (4697254411347427328 : UInt64))), .second, .val (.double (FP.ddiv (FP.i2d (((1024 : Int32) - (own_r i1)) * ((1024 : Int32) - (own_r i0)))) (4697254411347427328 : UInt64))), .second] [(.double (FP.ddiv (FP.i2d (((1024 : Int32) - (own_r i1)) * ((1024 : Int32) - (own_r i0)))) (4697254411347427328 : UInt64))), (.double (FP.dmul (FP.dsub (4607182418800017408 : UInt64) (own_q (own_r i1))) (FP.dsub (4607182418800017408 : UInt64) (own_q (own_r i0)))))])) _
    refine XS.dcmpS X21.here hx rfl (v := (0 : Int32)) (hb hby at_137) rfl (FV.cv_eq (own_pv (own_sv hb1) (own_sv ha1) sb1 sa1) (own_mulv eb1 ea1) .l (by rw [own_sub hb1, own_sub ha1])) ?_
    show Steps p.tables e below (T21.setTop (mkF m 138 #[.val (.int i0), .val (.int i1), .val (.int (own_r i0)), .val (.int (own_r i1)), .val (.double (own_q (own_r i0))), .second, .val (.double (own_q (own_r i1))), .second, .val (.ref b2), .val (.double (own_q (own_r i1))), .second, .val (.double (FP.dmul (FP.dsub (4607182418800017408 : UInt64) (own_q (own_r i1))) (own_q (own_r i0)))), .second, .val (.double (FP.dmul (FP.dsub (4607182418800017408 : UInt64) (own_q (own_r i1))) (FP.dsub (4607182418800017408 : UInt64) (own_q (own_r i0))))), .second, .val (.double (own_q (own_r i1))), .second, .val (.double (FP.ddiv (FP.i2d (((1024 : Int32) - (own_r i1)) * (own_r i0))) (4697254411347427328 : UInt64))), .second, .val (.double (FP.ddiv (FP.i2d (((1024 : Int32) - (own_r i1)) * ((1024 : Int32) - (own_r i0)))) (4697254411347427328 : UInt64))), .second] [(.int (0 : Int32))])) _
    refine XS.ifNo X21.here hx rfl (hb hby at_138) rfl ((if0 _ _).trans (teq (by decide : (0 : Int32) = (0 : Int32))).2) ?_
    show Steps p.tables e below (T21.setTop (mkF m 141 #[.val (.int i0), .val (.int i1), .val (.int (own_r i0)), .val (.int (own_r i1)), .val (.double (own_q (own_r i0))), .second, .val (.double (own_q (own_r i1))), .second, .val (.ref b2), .val (.double (own_q (own_r i1))), .second, .val (.double (FP.dmul (FP.dsub (4607182418800017408 : UInt64) (own_q (own_r i1))) (own_q (own_r i0)))), .second, .val (.double (FP.dmul (FP.dsub (4607182418800017408 : UInt64) (own_q (own_r i1))) (FP.dsub (4607182418800017408 : UInt64) (own_q (own_r i0))))), .second, .val (.double (own_q (own_r i1))), .second, .val (.double (FP.ddiv (FP.i2d (((1024 : Int32) - (own_r i1)) * (own_r i0))) (4697254411347427328 : UInt64))), .second, .val (.double (FP.ddiv (FP.i2d (((1024 : Int32) - (own_r i1)) * ((1024 : Int32) - (own_r i0)))) (4697254411347427328 : UInt64))), .second] [])) _
    refine XS.iconst X21.here hx rfl (hb hby at_141) ?_
    show Steps p.tables e below (T21.setTop (mkF m 142 #[.val (.int i0), .val (.int i1), .val (.int (own_r i0)), .val (.int (own_r i1)), .val (.double (own_q (own_r i0))), .second, .val (.double (own_q (own_r i1))), .second, .val (.ref b2), .val (.double (own_q (own_r i1))), .second, .val (.double (FP.dmul (FP.dsub (4607182418800017408 : UInt64) (own_q (own_r i1))) (own_q (own_r i0)))), .second, .val (.double (FP.dmul (FP.dsub (4607182418800017408 : UInt64) (own_q (own_r i1))) (FP.dsub (4607182418800017408 : UInt64) (own_q (own_r i0))))), .second, .val (.double (own_q (own_r i1))), .second, .val (.double (FP.ddiv (FP.i2d (((1024 : Int32) - (own_r i1)) * (own_r i0))) (4697254411347427328 : UInt64))), .second, .val (.double (FP.ddiv (FP.i2d (((1024 : Int32) - (own_r i1)) * ((1024 : Int32) - (own_r i0)))) (4697254411347427328 : UInt64))), .second] [(.int (1 : Int32))])) _
    refine XS.goto X21.here hx rfl (pc0 := 142) (pc' := 146) rfl (hb hby at_142) (by decide) (by decide) ?_
    exact kt
  obtain ⟨fs, hr, hrun, hended, hW, hsame⟩ := X21.leave (v := some (.int (1 : Int32))) (fun h => by rw [Bd.returns] at h; cases h)
  refine ⟨_, _, pre0 _ ?_, hrun, hended, _, _, rfl, ?_, ⟨_, rfl⟩, hW, hsame.mono (by decide) (by decide)⟩
  · show Steps p.tables e below (s₁.setTop (mkF m 0 #[.val (.int i0), .val (.int i1), .unset, .unset, .unset, .unset, .unset, .unset, .unset, .unset, .unset, .unset, .unset, .unset, .unset, .unset, .unset, .unset, .unset, .unset, .unset] [])) _
    refine sg1 _ ?_
    refine st2 _ ?_
    refine sg7 _ ?_
    refine st8.trans ?_
    refine sg13 _ ?_
    refine st14 _ ?_
    refine st15.trans ?_
    refine sg16 _ ?_
    refine st17 _ ?_
    refine st18.trans ?_
    refine sg19 _ ?_
    refine st20 _ ?_
    refine st21.trans ?_
    refine sg22 _ ?_
    show Steps p.tables e below (T21.setTop (mkF m 146 #[.val (.int i0), .val (.int i1), .val (.int (own_r i0)), .val (.int (own_r i1)), .val (.double (own_q (own_r i0))), .second, .val (.double (own_q (own_r i1))), .second, .val (.ref b2), .val (.double (own_q (own_r i1))), .second, .val (.double (FP.dmul (FP.dsub (4607182418800017408 : UInt64) (own_q (own_r i1))) (own_q (own_r i0)))), .second, .val (.double (FP.dmul (FP.dsub (4607182418800017408 : UInt64) (own_q (own_r i1))) (FP.dsub (4607182418800017408 : UInt64) (own_q (own_r i0))))), .second, .val (.double (own_q (own_r i1))), .second, .val (.double (FP.ddiv (FP.i2d (((1024 : Int32) - (own_r i1)) * (own_r i0))) (4697254411347427328 : UInt64))), .second, .val (.double (FP.ddiv (FP.i2d (((1024 : Int32) - (own_r i1)) * ((1024 : Int32) - (own_r i0)))) (4697254411347427328 : UInt64))), .second] [(.int (1 : Int32))])) _
    exact retN X21 hx (t := .boolean) Bd.returns (by simp) (hb hby at_146) hr
  · show Q_rm0 Z i0 i1 o0 o1 o2 h0 n0 _ T21.heap _
    rw [c21_0]
    exact ⟨rfl, N21⟩
set_option maxRecDepth 65536 in
set_option maxHeartbeats 40000000 in
theorem comes_1 {Post : Tables → Env → Array Value → State → Outcome → State → Prop} (hpost : ∀ tb e args s v u, (limb_1_1.after args s (.returned v) u = true ∧ limb_1_2.after args s (.returned v) u = true ∧ True) → FrameEnd s (.returned v) u (Jvm.fieldLocs frame_1_writes args s ++ Jvm.arrayLocs frame_1_arrays args s ++ Jvm.staticLocs frame_1_statics s) 16 128 → Post tb e args s (.returned v) u) :
    ArmFor flags0 classFile x code maxLocals ret World_1 tables_1 room_1 Calls_1 rest_1 Pre_1 Post := by
  intro l hfl _ _ p e ha hc hk s m args below hf hA hF happ hP
  obtain ⟨hcalls, hrest, hpre⟩ := hP
  obtain ⟨-, -, -, hnamed, -, -, -, hat⟩ := (Spec.applies_iff hf).mp happ
  obtain ⟨hg, hn⟩ := and_e (Cond.before_iff.mp (show (Jvm.Cond.and given_1 narrow_1).before args s = true from hpre))
  obtain ⟨g1, g2⟩ := and_e hg
  obtain ⟨g3, g4⟩ := and_e g2
  obtain ⟨w0, w1, rfl⟩ : ∃ w0 w1 : Value, args = #[w0, w1] := by
    have hs : args.size = 2 := by simpa [Cond.value, given_1] using g1
    obtain ⟨L⟩ := args
    match L, hs with
    | [w0, w1], _ => exact ⟨w0, w1, rfl⟩
  have hw := fun d (hd : d ∈ tables_1) => atoms_spec (ws := Jvm.Cond.code x code maxLocals ret :: tables_1) hat d (List.mem_cons_of_mem _ hd)
  have hfit : Fit s := fun {y c} hc i hi => by
    obtain ⟨ha, rfl⟩ := Array.getElem?_eq_some_iff.mp hc
    have q := List.all_eq_true.mp ((Array.all_eq_true_iff_forall_mem.mp hF) _ (Array.getElem_mem ha)) i (List.mem_range.mpr hi)
    simpa [Array.getElem?_eq_getElem hi] using q
  obtain ⟨i0, ei0⟩ := is_v g3
  obtain rfl : w0 = (.int i0) := Option.some.inj ei0
  obtain ⟨i1, ei1⟩ := is_v g4
  obtain rfl : w1 = (.int i1) := Option.some.inj ei1
  unfold narrow_1 at hn
  obtain ⟨n1, hn⟩ := and_e hn
  obtain ⟨n2, hn⟩ := and_e hn
  obtain ⟨n3, hn⟩ := and_e hn
  obtain ⟨n4, hn⟩ := and_e hn
  obtain ⟨n5, n6⟩ := and_e hn
  obtain ⟨o0, eo0⟩ := exa_v n1
  have ST0 := Sta.start eo0 (Or.inr ⟨(hw _ (List.mem_of_getElem? (i := 21) rfl)), (hw _ (List.mem_of_getElem? (i := 22) rfl))⟩)
  have X0_ := Exa.start eo0 n1
  have G0 := own_fld eo0 (own_eqv n2)
  obtain ⟨o1, eo1⟩ := exa_v n3
  have ST1 := Sta.start eo1 (Or.inr ⟨(hw _ (List.mem_of_getElem? (i := 21) rfl)), (hw _ (List.mem_of_getElem? (i := 38) rfl))⟩)
  have X1_ := Exa.start eo1 n3
  have G1 := own_fld eo1 (own_eqv n4)
  obtain ⟨o2, eo2⟩ := exa_v n5
  have ST2 := Sta.start eo2 (Or.inr ⟨(hw _ (List.mem_of_getElem? (i := 21) rfl)), (hw _ (List.mem_of_getElem? (i := 40) rfl))⟩)
  have X2_ := Exa.start eo2 n5
  have G2 := own_fld eo2 (own_eqv n6)
  obtain ⟨n, o, h1, h2, h3, _, L, rfl, ⟨rfl, N⟩, hq⟩ := rm0 l s _ hw tables_1 i0 i1 o0 o1 o2 s.heap s.heap.size (Nat.le_refl _) (Old.start s) ST0 X0_ G0 ST1 X1_ G1 ST2 X2_ G2 p e ha hc hk s m _ below hf ((Spec.applies_iff_loose hf).mp happ).1 ⟨rfl, State.Warmed39.refl s, rfl⟩ trivial
  refine ⟨n, _, h1, h2, h3, hpost _ _ _ _ _ _ ⟨Cond.after_iff.mpr rfl, Cond.after_iff.mpr (eq_i res_at (Term.int_eval (1)) rfl), trivial⟩ ⟨hq.1, hq.2.1, (hq.2.2.sift fun y hy => Or.inr (N y hy)).mono (by decide) (by decide)⟩⟩
theorem main_1_1 : Claimed_1_1 := comes_1 fun _ _ _ _ _ _ h hF => ⟨h.1, hF⟩
theorem main_1_2 : Claimed_1_2 := comes_1 fun _ _ _ _ _ _ h hF => ⟨h.2.1, hF⟩
end Jvm.Pilot.@@N@@
namespace Jvm.Pilot.@@N@@
open Jvm Jvm.ClassFile Sem Op Lib Jvm.Free Jvm.Stand Jvm.Pilot.@@N@@.Jvm.D
/-! MADE BY PROGRAM (witnessworld.py) out of the Statement's table words and the real class files: 14 classes; the members and pool entries that the words name. The judged class is class 1, her method 1. -/
namespace start1
open Jvm.ClassFile
def u (s : String) : CpInfo := .utf8 (stringToUtf16 s)
/-- a pool by its gaps: so many unusable entries, then the entry; so many at the end -/
def gap : Nat → List CpInfo → List CpInfo
  | 0, r => r
  | n + 1, r => .unusable :: gap n r
def poolList (es : List (Nat × CpInfo)) (last : Nat) : List CpInfo := es.foldr (fun e r => gap e.1 (e.2 :: r)) (gap last [])
def pool (es : List (Nat × CpInfo)) (last : Nat) : Array CpInfo := ⟨poolList es last⟩
def fileOf (pool : Array CpInfo) (this : Nat) (attrs : Array Attribute := #[]) (ms : Array MethodInfo := #[]) (fl : Nat := 33) (sup : Nat := 0) (ifs : Array Nat := #[]) (fds : Array FieldInfo := #[]) : ClassFile where
  minorVersion := 0
  majorVersion := 65
  constantPool := pool
  accessFlags := fl
  thisClass := this
  superClass := sup
  interfaces := ifs
  fields := fds
  methods := ms
  attributes := attrs
def plain (name : String) (sup : Option ClassId) : Class where
  name := name
  kind := .ordinary
  loader := none
  accessFlags := 33
  super := sup
  interfaces := #[]
  cf := none
  fields := #[]
  methods := #[]
  instanceTypes := #[]
  staticTypes := #[]
  resolved := #[]
  callSites := []
  init := .initialized
  statics := none
  mirror := none

def pool0 : Array CpInfo := pool [(5, u "<init>"), (0, u "()V"), (1, .class_ 10), (1, u "java/lang/Object")] 113

def k0c0 : Code := { maxStack := 0, maxLocals := 1, code := object_method_1_code, exceptionTable := #[], attributes := #[] }
def k0m0 : Method := { name := "<init>", desc := "()V", sig := { parameters := [], returnType := none }, accessFlags := 1, code := some k0c0 }
/-- java/lang/Object -/
def k0 : Class := { plain "java/lang/Object" none with
  accessFlags := 33
  interfaces := #[]
  cf := some (fileOf pool0 8 #[] #[{ accessFlags := 1, nameIndex := 5, descriptorIndex := 6, attributes := #[] }] 33 0 #[] #[])
  fields := #[]
  methods := #[k0m0]
  instanceTypes := #[]
  staticTypes := #[]
  resolved := Array.replicate 124 none
  statics := none }

def pool1 : Array CpInfo := pool [(2, .class_ 4), (1, u "java/lang/Object"), (0, u "<init>"), (0, u "()V"), (0, .integer 2147483647), (0, .double 4652218415073722368), (1, .class_ 11), (0, u "com/example/runs_to_risk/runstorisk/anb/Channel"), (0, .methodref 10 13), (0, .nameAndType 5 14), (0, u "(DD)V"), (0, .fieldref 16 17), (0, .class_ 18), (0, .nameAndType 19 20), (0, u "com/example/runs_to_risk/runstorisk/anb/Channel$Outcome"), (0, u "LOST"), (0, u "Lcom/example/runs_to_risk/runstorisk/anb/Channel$Outcome;"), (0, .methodref 10 22), (0, .nameAndType 23 24), (0, u "probability"), (0, u "(Lcom/example/runs_to_risk/runstorisk/anb/Channel$Outcome;)D"), (0, .fieldref 16 26), (0, .nameAndType 27 20), (0, u "UNREAD"), (0, .fieldref 16 29), (0, .nameAndType 30 20), (0, u "READ"), (0, .double 4697254411347427328), (1, .class_ 34), (0, u "com/example/runs_to_risk/runstorisk/anb/ChannelProbabilityPinLaw"), (2, u "law"), (0, u "(II)Z")] 5

def k1m0 : Method := { name := "<init>", desc := "()V", sig := { parameters := [], returnType := none }, accessFlags := 1, code := none }
def k1c1 : Code := { maxStack := 6, maxLocals := 21, code := code, exceptionTable := #[], attributes := #[] }
def k1m1 : Method := { name := "law", desc := "(II)Z", sig := { parameters := [.int, .int], returnType := some .boolean }, accessFlags := 9, code := some k1c1 }
/-- com/example/runs_to_risk/runstorisk/anb/ChannelProbabilityPinLaw -/
def k1 : Class := { plain "com/example/runs_to_risk/runstorisk/anb/ChannelProbabilityPinLaw" (some 0) with
  accessFlags := 49
  interfaces := #[]
  cf := some (fileOf pool1 33 #[] #[{ accessFlags := 1, nameIndex := 5, descriptorIndex := 6, attributes := #[] }, { accessFlags := 9, nameIndex := 37, descriptorIndex := 38, attributes := #[] }] 49 2 #[] #[])
  fields := #[]
  methods := #[k1m0, k1m1]
  instanceTypes := #[]
  staticTypes := #[]
  resolved := Array.replicate 44 none
  statics := none }

def pool2 : Array CpInfo := pool [(1, .methodref 2 3), (0, .class_ 4), (0, .nameAndType 5 6), (0, u "java/lang/Object"), (0, u "<init>"), (0, u "()V"), (0, .class_ 8), (0, u "java/lang/Record")] 13

def k2c0 : Code := { maxStack := 1, maxLocals := 1, code := jdk_30_method_1_code, exceptionTable := #[], attributes := #[] }
def k2m0 : Method := { name := "<init>", desc := "()V", sig := { parameters := [], returnType := none }, accessFlags := 4, code := some k2c0 }
/-- java/lang/Record -/
def k2 : Class := { plain "java/lang/Record" (some 0) with
  accessFlags := 1057
  interfaces := #[]
  cf := some (fileOf pool2 7 #[] #[{ accessFlags := 4, nameIndex := 5, descriptorIndex := 6, attributes := #[] }] 1057 2 #[] #[])
  fields := #[]
  methods := #[k2m0]
  instanceTypes := #[]
  staticTypes := #[]
  resolved := Array.replicate 22 none
  statics := none }

def pool3 : Array CpInfo := pool [(1, .methodref 2 3), (0, .class_ 4), (0, .nameAndType 5 6), (0, u "java/lang/Record"), (0, u "<init>"), (0, u "()V"), (0, .fieldref 8 9), (0, .class_ 10), (0, .nameAndType 11 12), (0, u "com/example/runs_to_risk/runstorisk/anb/Channel"), (0, u "unread"), (0, u "D"), (0, .fieldref 8 14), (0, .nameAndType 15 12), (0, u "lost"), (0, .methodref 17 18), (0, .class_ 19), (0, .nameAndType 20 21), (0, u "com/example/runs_to_risk/runstorisk/anb/Channel$Outcome"), (0, u "ordinal"), (0, u "()I"), (17, u "(DD)V"), (3, u "probability"), (0, u "(Lcom/example/runs_to_risk/runstorisk/anb/Channel$Outcome;)D")] 27

def k3c0 : Code := { maxStack := 3, maxLocals := 5, code := prog_4_method_1_code, exceptionTable := #[], attributes := #[] }
def k3m0 : Method := { name := "<init>", desc := "(DD)V", sig := { parameters := [.double, .double], returnType := none }, accessFlags := 1, code := some k3c0 }
def k3c1 : Code := { maxStack := 6, maxLocals := 4, code := prog_4_method_2_code, exceptionTable := #[], attributes := #[] }
def k3m1 : Method := { name := "probability", desc := "(Lcom/example/runs_to_risk/runstorisk/anb/Channel$Outcome;)D", sig := { parameters := [(.object "com/example/runs_to_risk/runstorisk/anb/Channel$Outcome")], returnType := some .double }, accessFlags := 1, code := some k3c1 }
/-- com/example/runs_to_risk/runstorisk/anb/Channel -/
def k3 : Class := { plain "com/example/runs_to_risk/runstorisk/anb/Channel" (some 2) with
  accessFlags := 49
  interfaces := #[]
  cf := some (fileOf pool3 8 #[.nestMembers #[17]] #[{ accessFlags := 1, nameIndex := 5, descriptorIndex := 39, attributes := #[] }, { accessFlags := 1, nameIndex := 43, descriptorIndex := 44, attributes := #[] }] 49 2 #[] #[{ accessFlags := 18, nameIndex := 11, descriptorIndex := 12, attributes := #[] }, { accessFlags := 18, nameIndex := 15, descriptorIndex := 12, attributes := #[] }])
  fields := #[{ name := "unread", type := .double, accessFlags := 18, slot := 0, constantValue := 0 }, { name := "lost", type := .double, accessFlags := 18, slot := 1, constantValue := 0 }]
  methods := #[k3m0, k3m1]
  instanceTypes := #[.double, .double]
  staticTypes := #[]
  resolved := Array.replicate 72 none
  statics := none }

def pool4 : Array CpInfo := pool [(1, .class_ 2), (0, u "java/lang/constant/Constable"), (0, .class_ 4), (0, u "java/lang/Object")] 6

/-- java/lang/constant/Constable -/
def k4 : Class := { plain "java/lang/constant/Constable" (some 0) with
  accessFlags := 1537
  interfaces := #[]
  cf := some (fileOf pool4 1 #[] #[] 1537 3 #[] #[])
  fields := #[]
  methods := #[]
  instanceTypes := #[]
  staticTypes := #[]
  resolved := Array.replicate 11 none
  statics := none }

def pool5 : Array CpInfo := pool [(1, .class_ 2), (0, u "java/lang/Comparable"), (0, .class_ 4), (0, u "java/lang/Object")] 7

/-- java/lang/Comparable -/
def k5 : Class := { plain "java/lang/Comparable" (some 0) with
  accessFlags := 1537
  interfaces := #[]
  cf := some (fileOf pool5 1 #[] #[] 1537 3 #[] #[])
  fields := #[]
  methods := #[]
  instanceTypes := #[]
  staticTypes := #[]
  resolved := Array.replicate 12 none
  statics := none }

def pool6 : Array CpInfo := pool [(1, .class_ 2), (0, u "java/io/Serializable"), (0, .class_ 4), (0, u "java/lang/Object")] 2

/-- java/io/Serializable -/
def k6 : Class := { plain "java/io/Serializable" (some 0) with
  accessFlags := 1537
  interfaces := #[]
  cf := some (fileOf pool6 1 #[] #[] 1537 3 #[] #[])
  fields := #[]
  methods := #[]
  instanceTypes := #[]
  staticTypes := #[]
  resolved := Array.replicate 7 none
  statics := none }

def pool7 : Array CpInfo := pool [(2, .class_ 4), (1, u "java/lang/Enum"), (0, u "name"), (0, u "Ljava/lang/String;"), (0, .fieldref 2 8), (0, .nameAndType 9 10), (0, u "ordinal"), (0, u "I"), (1, .class_ 14), (1, u "java/lang/Object"), (4, u "hash"), (86, .class_ 108), (1, u "java/lang/Enum$EnumDesc"), (2, .class_ 112), (0, u "java/lang/constant/Constable"), (0, .class_ 114), (0, u "java/lang/Comparable"), (0, .class_ 116), (0, u "java/io/Serializable"), (9, u "()I")] 77

def k7c0 : Code := { maxStack := 1, maxLocals := 1, code := jdk_37_method_2_code, exceptionTable := #[], attributes := #[] }
def k7m0 : Method := { name := "ordinal", desc := "()I", sig := { parameters := [], returnType := some .int }, accessFlags := 17, code := some k7c0 }
/-- java/lang/Enum -/
def k7 : Class := { plain "java/lang/Enum" (some 0) with
  accessFlags := 1057
  interfaces := #[4, 5, 6]
  cf := some (fileOf pool7 2 #[.nestMembers #[106]] #[{ accessFlags := 17, nameIndex := 9, descriptorIndex := 126, attributes := #[] }] 1057 12 #[111, 113, 115] #[{ accessFlags := 18, nameIndex := 5, descriptorIndex := 6, attributes := #[] }, { accessFlags := 18, nameIndex := 9, descriptorIndex := 10, attributes := #[] }, { accessFlags := 2, nameIndex := 19, descriptorIndex := 10, attributes := #[] }])
  fields := #[{ name := "name", type := (.object "java/lang/String"), accessFlags := 18, slot := 0, constantValue := 0 }, { name := "ordinal", type := .int, accessFlags := 18, slot := 1, constantValue := 0 }, { name := "hash", type := .int, accessFlags := 2, slot := 2, constantValue := 0 }]
  methods := #[k7m0]
  instanceTypes := #[(.object "java/lang/String"), .int, .int]
  staticTypes := #[]
  resolved := Array.replicate 204 none
  statics := none }

def pool8 : Array CpInfo := pool [(1, .class_ 2), (0, u "com/example/runs_to_risk/runstorisk/anb/Channel$Outcome"), (2, u "LOST"), (0, u "Lcom/example/runs_to_risk/runstorisk/anb/Channel$Outcome;"), (2, u "UNREAD"), (2, u "READ"), (2, u "$VALUES"), (0, u "[Lcom/example/runs_to_risk/runstorisk/anb/Channel$Outcome;"), (6, .class_ 25), (1, u "java/lang/Enum"), (26, .class_ 53), (0, u "com/example/runs_to_risk/runstorisk/anb/Channel")] 2

/-- com/example/runs_to_risk/runstorisk/anb/Channel$Outcome -/
def k8 : Class := { plain "com/example/runs_to_risk/runstorisk/anb/Channel$Outcome" (some 7) with
  accessFlags := 16433
  interfaces := #[]
  cf := some (fileOf pool8 1 #[.nestHost 52] #[] 16433 23 #[] #[{ accessFlags := 16409, nameIndex := 5, descriptorIndex := 6, attributes := #[] }, { accessFlags := 16409, nameIndex := 9, descriptorIndex := 6, attributes := #[] }, { accessFlags := 16409, nameIndex := 12, descriptorIndex := 6, attributes := #[] }, { accessFlags := 4122, nameIndex := 15, descriptorIndex := 16, attributes := #[] }])
  fields := #[{ name := "LOST", type := (.object "com/example/runs_to_risk/runstorisk/anb/Channel$Outcome"), accessFlags := 16409, slot := 0, constantValue := 0 }, { name := "UNREAD", type := (.object "com/example/runs_to_risk/runstorisk/anb/Channel$Outcome"), accessFlags := 16409, slot := 1, constantValue := 0 }, { name := "READ", type := (.object "com/example/runs_to_risk/runstorisk/anb/Channel$Outcome"), accessFlags := 16409, slot := 2, constantValue := 0 }, { name := "$VALUES", type := (.array (.object "com/example/runs_to_risk/runstorisk/anb/Channel$Outcome")), accessFlags := 4122, slot := 3, constantValue := 0 }]
  methods := #[]
  instanceTypes := #[(.object "java/lang/String"), .int, .int]
  staticTypes := #[(.object "com/example/runs_to_risk/runstorisk/anb/Channel$Outcome"), (.object "com/example/runs_to_risk/runstorisk/anb/Channel$Outcome"), (.object "com/example/runs_to_risk/runstorisk/anb/Channel$Outcome"), (.array (.object "com/example/runs_to_risk/runstorisk/anb/Channel$Outcome"))]
  resolved := Array.replicate 56 none
  statics := some 0 }

def pool9 : Array CpInfo := pool [(1, u "java/lang/Cloneable"), (0, .class_ 1), (0, u "java/lang/Object"), (0, .class_ 3)] 3

/-- java/lang/Cloneable -/
def k9 : Class := { plain "java/lang/Cloneable" (some 0) with
  accessFlags := 1537
  interfaces := #[]
  cf := some (fileOf pool9 2 #[] #[] 1537 4 #[] #[])
  fields := #[]
  methods := #[]
  instanceTypes := #[]
  staticTypes := #[]
  resolved := Array.replicate 8 none
  statics := none }

/-- the primitive byte -/
def k10 : Class := { plain "byte" none with kind := .primitive 'B', accessFlags := 0x411 }
/-- [B -/
def k11 : Class := { plain "[B" (some 0) with kind := .array 10 .byte, interfaces := #[9, 6], accessFlags := 1041 }

/-- the primitive int -/
def k12 : Class := { plain "int" none with kind := .primitive 'I', accessFlags := 0x411 }
/-- [I -/
def k13 : Class := { plain "[I" (some 0) with kind := .array 12 .int, interfaces := #[9, 6], accessFlags := 1041 }

def heap : Heap := #[{ cls := 8, slots := #[.ref 1, .ref 2, .ref 3, .null], vm := .statics 8 },
  { cls := 8, slots := #[.null, .int 0, .int 0], vm := .none },
  { cls := 8, slots := #[.null, .int 1, .int 0], vm := .none },
  { cls := 8, slots := #[.null, .int 2, .int 0], vm := .none }]
def classes : Array Class := #[k0, k1, k2, k3, k4, k5, k6, k7, k8, k9, k10, k11, k12, k13]
def interned : List (Array UInt16 × Addr) := []
def slotsUsed : Nat := 13
def theMethod : MethodId := ⟨1, 1⟩
def args0 : Array Value := #[.int 5, .int 7]
def aboutOver (below : List Frame) : State where
  vm := { classes := classes, interned := interned.toArray }
  heap := heap
  slotsUsed := slotsUsed
  threads := #[{ frames := .invoking theMethod args0 :: below }]
def below0 : List Frame := [.native { method := ⟨0, 0⟩, args := #[] }]
def about1 : State := aboutOver below0
def p0 : Program := .bare "" "" ""
def e0 : Env := launch0.env 0 0 0
theorem w_frames : about1.frames = Frame.invoking theMethod args0 :: below0 := rfl
set_option maxRecDepth 65536 in
theorem w_args : argsFit about1.vm theMethod args0 = true := by decide +kernel
set_option maxRecDepth 65536 in
theorem w_heap : heapFits about1 = true := by decide +kernel
set_option maxRecDepth 65536 in
theorem w_runnable : about1.curStatus? = some .runnable := by decide +kernel
set_option maxRecDepth 65536 in
theorem w_alone : about1.alone = true := by decide +kernel
set_option maxRecDepth 65536 in
theorem w_named : about1.methodNamed? x = some theMethod := by decide +kernel
set_option maxRecDepth 65536 in
theorem w_hears : about1.hears theMethod below0 = true := by decide +kernel
set_option maxRecDepth 65536 in
theorem w_ripe : about1.ripe theMethod args0 below0 = true := by decide +kernel
theorem w_running : about1.status = .running := rfl
set_option maxRecDepth 65536 in
theorem w_room : about1.hasRoom e0.platform room_1 = true :=
  launch0.hasRoom_least _ room_1 (by decide +kernel) (by decide +kernel) (by decide +kernel) (by decide +kernel) (by decide +kernel) (by decide +kernel)
theorem allAtoms_all (ts : List Jvm.Cond) (a : Array Jvm.Value) (st : Jvm.State) : (allAtoms ts).before a st = ts.all (fun c => c.before a st) := by
  induction ts with
  | nil => rfl
  | cons c t ih =>
    show (Jvm.Cond.and c (allAtoms t)).before a st = _
    rw [Jvm.Cond.before_and, ih, List.all_cons]
def words1 : List Jvm.Cond := Jvm.Cond.code x code maxLocals ret :: tables_1
/-- a 'code' word, met by the world's own term for the bytes: nothing is compared byte by byte -/
theorem code_word {y : MethodName} {bytes : ByteArray} {mx : Nat} {rt : Option FieldType} {a : Array Value} {s : State} {m : MethodId} {meth : Method} {c : Code} (h1 : s.methodNamed? y = some m) (h2 : s.vm.method? m = some meth) (h3 : meth.code = some c) (h4 : c.code = bytes)
    (h5 : (c.maxLocals == mx && c.exceptionTable.isEmpty && decide (c.maxStack ≤ mostOperands) && decide (meth.sig.returnType = rt) && !meth.locks && decide (parseMethodDescriptor y.desc = some meth.sig)) = true) : (Jvm.Cond.code y bytes mx rt).before a s = true := by
  simp only [Bool.and_eq_true, beq_iff_eq, Bool.not_eq_true', decide_eq_true_eq] at h5
  obtain ⟨⟨⟨⟨⟨g1, g2⟩, g3⟩, g4⟩, g5⟩, g6⟩ := h5
  simp [Cond.before, Cond.holds, Cond.value, h1, h2, h3, h4, g1, g2, g3, g4, g5, g6]
def isCode : Jvm.Cond → Bool
  | .code _ _ _ _ => true
  | _ => false
theorem all_split {L : List Jvm.Cond} {P : Jvm.Cond → Bool} (h1 : L.all (fun c => isCode c || P c) = true) (h2 : ∀ c ∈ L.filter isCode, P c = true) : L.all P = true := by
  refine List.all_eq_true.mpr fun c hc => ?_
  have h := List.all_eq_true.mp h1 c hc
  rcases Bool.eq_false_or_eq_true (isCode c) with hi | hi
  · exact h2 c (List.mem_filter.mpr ⟨hc, hi⟩)
  · simpa [hi] using h
set_option maxRecDepth 65536 in
theorem w_c0 : (Jvm.Cond.code x code maxLocals ret).before args0 about1 = true := code_word (m := ⟨1, 1⟩) (meth := k1m1) (c := k1c1) (by decide +kernel) rfl rfl rfl (by decide +kernel)
set_option maxRecDepth 65536 in
theorem w_c1 : (Jvm.Cond.code ({ cls := "com/example/runs_to_risk/runstorisk/anb/Channel", name := "<init>", desc := "(DD)V" } : Jvm.MethodName) prog_4_method_1_code (5 : Nat) (Option.none : Option Jvm.ClassFile.FieldType)).before args0 about1 = true := code_word (m := ⟨3, 0⟩) (meth := k3m0) (c := k3c0) (by decide +kernel) rfl rfl rfl (by decide +kernel)
set_option maxRecDepth 65536 in
theorem w_c2 : (Jvm.Cond.code ({ cls := "java/lang/Record", name := "<init>", desc := "()V" } : Jvm.MethodName) jdk_30_method_1_code (1 : Nat) (Option.none : Option Jvm.ClassFile.FieldType)).before args0 about1 = true := code_word (m := ⟨2, 0⟩) (meth := k2m0) (c := k2c0) (by decide +kernel) rfl rfl rfl (by decide +kernel)
set_option maxRecDepth 65536 in
theorem w_c3 : (Jvm.Cond.code ({ cls := "java/lang/Object", name := "<init>", desc := "()V" } : Jvm.MethodName) object_method_1_code (1 : Nat) (Option.none : Option Jvm.ClassFile.FieldType)).before args0 about1 = true := code_word (m := ⟨0, 0⟩) (meth := k0m0) (c := k0c0) (by decide +kernel) rfl rfl rfl (by decide +kernel)
set_option maxRecDepth 65536 in
theorem w_c4 : (Jvm.Cond.code ({ cls := "com/example/runs_to_risk/runstorisk/anb/Channel", name := "probability", desc := "(Lcom/example/runs_to_risk/runstorisk/anb/Channel$Outcome;)D" } : Jvm.MethodName) prog_4_method_2_code (4 : Nat) (Option.some Jvm.ClassFile.FieldType.double)).before args0 about1 = true := code_word (m := ⟨3, 1⟩) (meth := k3m1) (c := k3c1) (by decide +kernel) rfl rfl rfl (by decide +kernel)
set_option maxRecDepth 65536 in
theorem w_c5 : (Jvm.Cond.code ({ cls := "java/lang/Enum", name := "ordinal", desc := "()I" } : Jvm.MethodName) jdk_37_method_2_code (1 : Nat) (Option.some Jvm.ClassFile.FieldType.int)).before args0 about1 = true := code_word (m := ⟨7, 0⟩) (meth := k7m0) (c := k7c0) (by decide +kernel) rfl rfl rfl (by decide +kernel)
def codes1 : List Jvm.Cond := [Jvm.Cond.code x code maxLocals ret, Jvm.Cond.code ({ cls := "com/example/runs_to_risk/runstorisk/anb/Channel", name := "<init>", desc := "(DD)V" } : Jvm.MethodName) prog_4_method_1_code (5 : Nat) (Option.none : Option Jvm.ClassFile.FieldType), Jvm.Cond.code ({ cls := "java/lang/Record", name := "<init>", desc := "()V" } : Jvm.MethodName) jdk_30_method_1_code (1 : Nat) (Option.none : Option Jvm.ClassFile.FieldType), Jvm.Cond.code ({ cls := "java/lang/Object", name := "<init>", desc := "()V" } : Jvm.MethodName) object_method_1_code (1 : Nat) (Option.none : Option Jvm.ClassFile.FieldType), Jvm.Cond.code ({ cls := "com/example/runs_to_risk/runstorisk/anb/Channel", name := "probability", desc := "(Lcom/example/runs_to_risk/runstorisk/anb/Channel$Outcome;)D" } : Jvm.MethodName) prog_4_method_2_code (4 : Nat) (Option.some Jvm.ClassFile.FieldType.double), Jvm.Cond.code ({ cls := "java/lang/Enum", name := "ordinal", desc := "()I" } : Jvm.MethodName) jdk_37_method_2_code (1 : Nat) (Option.some Jvm.ClassFile.FieldType.int)]
set_option maxRecDepth 65536 in
theorem codes_eq : words1.filter isCode = codes1 := rfl
theorem w_codes : ∀ c ∈ words1.filter isCode, c.before args0 about1 = true := by
  rw [codes_eq]
  intro c hc
  simp only [codes1, List.mem_cons, List.not_mem_nil, or_false] at hc
  rcases hc with rfl | rfl | rfl | rfl | rfl | rfl
  · exact w_c0
  · exact w_c1
  · exact w_c2
  · exact w_c3
  · exact w_c4
  · exact w_c5
set_option maxRecDepth 65536 in
theorem w_t1 : (words1.take 24).all (fun c => isCode c || c.before args0 about1) = true := by decide +kernel
set_option maxRecDepth 65536 in
theorem w_t2 : (words1.drop 24).all (fun c => isCode c || c.before args0 about1) = true := by decide +kernel
theorem w_tables : (allAtoms (Jvm.Cond.code x code maxLocals ret :: tables_1)).before args0 about1 = true := by
  rw [allAtoms_all]
  show words1.all (fun c => c.before args0 about1) = true
  refine all_split ?_ w_codes
  rw [← List.take_append_drop 24 words1, List.all_append, w_t1, w_t2]
  rfl
set_option maxRecDepth 65536 in
theorem w_case : (Jvm.Cond.and given_1 narrow_1).before args0 about1 = true := by decide +kernel
theorem w_applies : (headSpec (Jvm.Cond.code x code maxLocals ret :: tables_1) room_1).applies x e0.platform about1 = true :=
  (Spec.applies_iff w_frames).mpr ⟨w_running, w_runnable, w_alone, w_named, w_hears, w_ripe, w_room, w_tables⟩
theorem atStart : AtStart classFile x code maxLocals ret World_1 tables_1 room_1 Calls_1 rest_1 Pre_1 launch0 p0 e0 about1 theMethod args0 below0 :=
  ⟨lists_1, trivial, launch0.admits_env _ _ _, launch0.least_env, fairChoices_fair.cas, fairChoices_fair.clock, w_frames, w_args, w_heap, w_applies, trivial, trivial, w_case⟩
end start1
theorem witness_1 : WitnessClaimed_1 := ⟨start1.p0, start1.e0, start1.about1, start1.theMethod, start1.args0, start1.below0, start1.atStart⟩
end Jvm.Pilot.@@N@@
